import PyProof.Rows.All
import Wide.All
import OpenK.AllK
import Open.Tops
import Wide.FinOn
import Lean
import PySem.Challenge.RW_pd0061_01
set_option Elab.async false
set_option linter.all false
set_option compiler.extract_closed false
section SHT
open PySem PySem.W PySem.W.X PyProof.Rows PySem.Calls
set_option maxRecDepth 100000
set_option maxHeartbeats 0
namespace Mine
/-- the parts of the def that stands at a place of the text -/
noncomputable def fdAt : List Nat → List Stmt → Option (Arguments × List Stmt × Scope)
  | [], _ => none
  | [i], l => match l[i]? with
    | some (.FunctionDef _ a b _ _ _ s _ _ _) => some (a, b, s)
    | _ => none
  | i :: r, l => match l[i]? with
    | some (.ClassDef _ _ _ b _ _ _ _ _ _ _) => fdAt r b
    | _ => none
noncomputable def fdOf (p : List Nat) : Option (Arguments × List Stmt × Scope) := fdAt p PySem.Challenge.pw_pd0061_01.main.body
noncomputable def posAt (a b c d : Nat) : Pos := { line := a, col := b, endLine := c, endCol := d }
namespace top
noncomputable def o_1 (P : Params) : Obj := { cls := Value.type "tuple", data := Data.seq #[] }
noncomputable def o_2 (P : Params) : Obj := { cls := Value.none, data := Data.fields #[] }
noncomputable def o_3 (P : Params) : Obj := { cls := Value.type "code", data := Data.fields #[Value.str (Str.ofString "<module>") 182, Value.str (Str.ofString "<module>") 183, Value.str (Str.ofString "/claim/cut.py") 184, Value.int 1 0, Value.int 0 0, Value.int 0 0, Value.int 0 0, Value.int 0 0, Value.ref 11, Value.bool false, Value.int 181 0, Value.ref 12, Value.none, Value.none, Value.none, Value.none, Value.int 185 0, Value.int 1 0, Value.str (Str.ofString "/claim/cut.py") 186] }
noncomputable def o_4 (P : Params) : Obj := { cls := Value.type "frame", slots := #[some (Value.ref 13), some (Value.ref 3), some (Value.ref 3), none, some (Value.str (Str.ofString "__main__") 164), none, some (Value.ref 0)] }
noncomputable def o_5 (P : Params) : Obj := { cls := Value.type "dict", data := Data.dict #[{ hash := PyData.keyHash P (Str.ofString "__name__"), key := Value.str (Str.ofString "__name__") 165, val := Value.str (Str.ofString "collections.abc") 231 }, { hash := PyData.keyHash P (Str.ofString "__doc__"), key := Value.str (Str.ofString "__doc__") 166, val := Value.none }, { hash := PyData.keyHash P (Str.ofString "__package__"), key := Value.str (Str.ofString "__package__") 167, val := Value.none }, { hash := PyData.keyHash P (Str.ofString "__loader__"), key := Value.str (Str.ofString "__loader__") 168, val := Value.builtin "__main__.__loader__#opaque" }, { hash := PyData.keyHash P (Str.ofString "__spec__"), key := Value.str (Str.ofString "__spec__") 169, val := Value.none }, { hash := PyData.keyHash P (Str.ofString "__annotations__"), key := Value.str (Str.ofString "__annotations__") 170, val := Value.ref 6 }, { hash := PyData.keyHash P (Str.ofString "__builtins__"), key := Value.str (Str.ofString "__builtins__") 171, val := Value.ref 4 }, { hash := PyData.keyHash P (Str.ofString "__file__"), key := Value.str (Str.ofString "__file__") 173, val := Value.str (Str.ofString "/claim/cut.py") 172 }, { hash := PyData.keyHash P (Str.ofString "__cached__"), key := Value.str (Str.ofString "__cached__") 174, val := Value.none }, { hash := PyData.keyHash P (Str.ofString "_wall"), key := Value.str (Str.ofString "_wall") 193, val := Value.ref 21 }, { hash := PyData.keyHash P (Str.ofString "_plain_name"), key := Value.str (Str.ofString "_plain_name") 204, val := Value.ref 28 }, { hash := PyData.keyHash P (Str.ofString "ABCMeta"), key := Value.str (Str.ofString "ABCMeta") 230, val := Value.ref 45 }] 12 }
noncomputable def o_6 (P : Params) : Obj := { cls := Value.none, data := Data.fields #[Value.int 1 0, Value.int 0 0, Value.ref 20, Value.int 5 0, Value.int 0 0, Value.ref 27, Value.int 11 0, Value.int 0 0, Value.ref 34] }
noncomputable def o_7 (P : Params) : Obj := { cls := Value.type "tuple", data := Data.seq #[] }
noncomputable def o_8 (P : Params) : Obj := { cls := Value.none, data := Data.fields #[] }
noncomputable def o_9 (P : Params) : Obj := { cls := Value.type "tuple", data := Data.seq #[Value.str (Str.ofString "k") 190] }
noncomputable def o_10 (P : Params) : Obj := { cls := Value.type "tuple", data := Data.seq #[] }
noncomputable def o_11 (P : Params) : Obj := (fun (a : Arguments) (b : List Stmt) (s : Scope) (_ : fdOf [0] = some (a, b, s)) => ({ cls := Value.none, data := Data.func { name := Str.ofString "_wall", qualname := Str.ofString "_wall", params := a, body := FuncBody.stmts b, scope := s, globals := 0, closure := [], defaults := Value.none, kwdefaults := Value.none } } : Obj)) _ _ _ rfl
noncomputable def o_12 (P : Params) : Obj := { cls := Value.type "code", data := Data.fields #[Value.str (Str.ofString "_wall") 187, Value.str (Str.ofString "_wall") 188, Value.str (Str.ofString "/claim/cut.py") 189, Value.int 1 0, Value.int 1 0, Value.int 0 0, Value.int 0 0, Value.int 3 0, Value.ref 15, Value.bool true, Value.int 181 0, Value.ref 16, Value.none, Value.ref 17, Value.ref 18, Value.ref 19, Value.int 191 0, Value.int 1 0, Value.str (Str.ofString "/claim/cut.py") 192] }
noncomputable def o_13 (P : Params) : Obj := (fun (a : Arguments) (b : List Stmt) (s : Scope) (_ : fdOf [0] = some (a, b, s)) => ({ cls := Value.type "function", data := Data.func { name := Str.ofString "_wall", qualname := Str.ofString "_wall", params := a, body := FuncBody.stmts b, scope := s, globals := 3, closure := [], defaults := Value.none, kwdefaults := Value.none, pyModule := Value.str (Str.ofString "__main__") 164, code := Value.ref 20 } } : Obj)) _ _ _ rfl
noncomputable def o_14 (P : Params) : Obj := { cls := Value.type "tuple", data := Data.seq #[] }
noncomputable def o_15 (P : Params) : Obj := { cls := Value.none, data := Data.fields #[] }
noncomputable def o_16 (P : Params) : Obj := { cls := Value.type "tuple", data := Data.seq #[Value.str (Str.ofString "x") 199, Value.str (Str.ofString "what") 200, Value.str (Str.ofString "kind") 201] }
noncomputable def o_17 (P : Params) : Obj := { cls := Value.type "tuple", data := Data.seq #[] }
noncomputable def o_18 (P : Params) : Obj := (fun (a : Arguments) (b : List Stmt) (s : Scope) (_ : fdOf [2] = some (a, b, s)) => ({ cls := Value.none, data := Data.func { name := Str.ofString "_plain_name", qualname := Str.ofString "_plain_name", params := a, body := FuncBody.stmts b, scope := s, globals := 0, closure := [], defaults := Value.none, kwdefaults := Value.none } } : Obj)) _ _ _ rfl
noncomputable def o_19 (P : Params) : Obj := { cls := Value.type "code", data := Data.fields #[Value.str (Str.ofString "_plain_name") 196, Value.str (Str.ofString "_plain_name") 197, Value.str (Str.ofString "/claim/cut.py") 198, Value.int 5 0, Value.int 2 0, Value.int 0 0, Value.int 0 0, Value.int 3 0, Value.ref 22, Value.bool true, Value.int 181 0, Value.ref 23, Value.none, Value.ref 24, Value.ref 25, Value.ref 26, Value.int 202 0, Value.int 5 0, Value.str (Str.ofString "/claim/cut.py") 203] }
noncomputable def o_20 (P : Params) : Obj := (fun (a : Arguments) (b : List Stmt) (s : Scope) (_ : fdOf [2] = some (a, b, s)) => ({ cls := Value.type "function", data := Data.func { name := Str.ofString "_plain_name", qualname := Str.ofString "_plain_name", params := a, body := FuncBody.stmts b, scope := s, globals := 3, closure := [], defaults := Value.none, kwdefaults := Value.none, pyModule := Value.str (Str.ofString "os") 194, code := Value.ref 27 } } : Obj)) _ _ _ rfl
noncomputable def o_21 (P : Params) : Obj := { cls := Value.type "tuple", data := Data.seq #[Value.type "type"] }
noncomputable def o_22 (P : Params) : Obj := { cls := Value.type "builtin_function_or_method", data := Data.fields #[Value.builtin "type.__prepare__", Value.type "type"] }
noncomputable def o_23 (P : Params) : Obj := { cls := Value.type "dict", data := Data.dict #[{ hash := PyData.keyHash P (Str.ofString "__module__"), key := Value.str (Str.ofString "__module__") 214, val := Value.str (Str.ofString "abc") 205 }, { hash := PyData.keyHash P (Str.ofString "__qualname__"), key := Value.str (Str.ofString "__qualname__") 216, val := Value.str (Str.ofString "ABCMeta") 215 }, { hash := PyData.keyHash P (Str.ofString "__firstlineno__"), key := Value.str (Str.ofString "__firstlineno__") 218, val := Value.int 11 217 }, { hash := PyData.keyHash P (Str.ofString "register"), key := Value.str (Str.ofString "register") 226, val := Value.ref 42 }, { hash := PyData.keyHash P (Str.ofString "__static_attributes__"), key := Value.str (Str.ofString "__static_attributes__") 227, val := Value.ref 43 }] 5 }
noncomputable def o_24 (P : Params) : Obj := { cls := Value.type "tuple", data := Data.seq #[] }
noncomputable def o_25 (P : Params) : Obj := { cls := Value.none, data := Data.fields #[Value.int 13 0, Value.int 4 0, Value.ref 41] }
noncomputable def o_26 (P : Params) : Obj := { cls := Value.type "code", data := Data.fields #[Value.str (Str.ofString "ABCMeta") 209, Value.str (Str.ofString "ABCMeta") 210, Value.str (Str.ofString "/claim/cut.py") 211, Value.int 11 0, Value.int 0 0, Value.int 0 0, Value.int 0 0, Value.int 0 0, Value.ref 32, Value.bool false, Value.int 181 0, Value.ref 33, Value.none, Value.none, Value.none, Value.none, Value.int 212 0, Value.int 11 0, Value.str (Str.ofString "/claim/cut.py") 213] }
noncomputable def o_27 (P : Params) : Obj := { cls := Value.type "frame", slots := #[some (Value.ref 34), some (Value.ref 3), some (Value.ref 31), none, some (Value.str (Str.ofString "abc") 205), none, some (Value.ref 0)] }
noncomputable def o_28 (P : Params) : Obj := { cls := Value.type "tuple", data := Data.seq #[] }
noncomputable def o_29 (P : Params) : Obj := { cls := Value.none, data := Data.fields #[] }
noncomputable def o_30 (P : Params) : Obj := { cls := Value.type "tuple", data := Data.seq #[Value.str (Str.ofString "cls") 222, Value.str (Str.ofString "subclass") 223] }
noncomputable def o_31 (P : Params) : Obj := { cls := Value.type "tuple", data := Data.seq #[] }
noncomputable def o_32 (P : Params) : Obj := (fun (a : Arguments) (b : List Stmt) (s : Scope) (_ : fdOf [4, 0] = some (a, b, s)) => ({ cls := Value.none, data := Data.func { name := Str.ofString "register", qualname := Str.ofString "ABCMeta.register", params := a, body := FuncBody.stmts b, scope := s, globals := 0, closure := [], defaults := Value.none, kwdefaults := Value.none } } : Obj)) _ _ _ rfl
noncomputable def o_33 (P : Params) : Obj := { cls := Value.type "code", data := Data.fields #[Value.str (Str.ofString "register") 219, Value.str (Str.ofString "ABCMeta.register") 220, Value.str (Str.ofString "/claim/cut.py") 221, Value.int 13 0, Value.int 2 0, Value.int 0 0, Value.int 0 0, Value.int 3 0, Value.ref 36, Value.bool true, Value.int 181 0, Value.ref 37, Value.none, Value.ref 38, Value.ref 39, Value.ref 40, Value.int 224 0, Value.int 13 0, Value.str (Str.ofString "/claim/cut.py") 225] }
noncomputable def o_34 (P : Params) : Obj := (fun (a : Arguments) (b : List Stmt) (s : Scope) (_ : fdOf [4, 0] = some (a, b, s)) => ({ cls := Value.type "function", data := Data.func { name := Str.ofString "register", qualname := Str.ofString "ABCMeta.register", params := a, body := FuncBody.stmts b, scope := s, globals := 3, closure := [], defaults := Value.none, kwdefaults := Value.none, pyModule := Value.str (Str.ofString "abc") 205, code := Value.ref 41 } } : Obj)) _ _ _ rfl
noncomputable def o_35 (P : Params) : Obj := { cls := Value.type "tuple", data := Data.seq #[] }
noncomputable def o_36 (P : Params) : Obj := { cls := Value.type "dict", data := Data.dict #[{ hash := PyData.keyHash P (Str.ofString "__module__"), key := Value.str (Str.ofString "__module__") 214, val := Value.str (Str.ofString "abc") 205 }, { hash := PyData.keyHash P (Str.ofString "__firstlineno__"), key := Value.str (Str.ofString "__firstlineno__") 218, val := Value.int 11 217 }, { hash := PyData.keyHash P (Str.ofString "register"), key := Value.str (Str.ofString "register") 226, val := Value.ref 42 }, { hash := PyData.keyHash P (Str.ofString "__static_attributes__"), key := Value.str (Str.ofString "__static_attributes__") 227, val := Value.ref 43 }, { hash := PyData.keyHash P (Str.ofString "__doc__"), key := Value.str (Str.ofString "__doc__") 228, val := Value.none }] 2 }
noncomputable def o_37 (P : Params) : Obj := { cls := Value.type "type", data := Data.cls { name := Str.ofString "ABCMeta", bases := [Value.type "type"], mro := [Value.ref 45, Value.type "type", Value.type "object"], ns := 44, qualname := Str.ofString "ABCMeta" }, slots := #[some (Value.ref 29), none, some (Value.str (Str.ofString "ABCMeta") 207), some (Value.str (Str.ofString "ABCMeta") 215), some (Value.builtin "type.__new__"), some (Value.bool true)] }
noncomputable def o_38 (P : Params) : Obj := { cls := Value.type "super", data := Data.fields #[Value.ref 45, Value.ref 45, Value.ref 45] }
noncomputable def o_39 (P : Params) : Obj := { cls := Value.type "builtin_function_or_method", data := Data.fields #[Value.builtin "object.__init_subclass__", Value.ref 45] }
noncomputable def o_41 (P : Params) : Obj := { cls := Value.type "dict", data := Data.dict #[{ hash := PyData.keyHash P (Str.ofString "__name__"), key := Value.str (Str.ofString "__name__") 165, val := Value.str (Str.ofString "cpy313.genericpath") 293 }, { hash := PyData.keyHash P (Str.ofString "__doc__"), key := Value.str (Str.ofString "__doc__") 166, val := Value.none }, { hash := PyData.keyHash P (Str.ofString "__package__"), key := Value.str (Str.ofString "__package__") 167, val := Value.none }, { hash := PyData.keyHash P (Str.ofString "__loader__"), key := Value.str (Str.ofString "__loader__") 168, val := Value.builtin "__main__.__loader__#opaque" }, { hash := PyData.keyHash P (Str.ofString "__spec__"), key := Value.str (Str.ofString "__spec__") 169, val := Value.none }, { hash := PyData.keyHash P (Str.ofString "__annotations__"), key := Value.str (Str.ofString "__annotations__") 170, val := Value.ref 6 }, { hash := PyData.keyHash P (Str.ofString "__builtins__"), key := Value.str (Str.ofString "__builtins__") 171, val := Value.ref 4 }, { hash := PyData.keyHash P (Str.ofString "__file__"), key := Value.str (Str.ofString "__file__") 173, val := Value.str (Str.ofString "/claim/cut.py") 172 }, { hash := PyData.keyHash P (Str.ofString "__cached__"), key := Value.str (Str.ofString "__cached__") 174, val := Value.none }, { hash := PyData.keyHash P (Str.ofString "_wall"), key := Value.str (Str.ofString "_wall") 193, val := Value.ref 21 }, { hash := PyData.keyHash P (Str.ofString "_plain_name"), key := Value.str (Str.ofString "_plain_name") 204, val := Value.ref 28 }, { hash := PyData.keyHash P (Str.ofString "ABCMeta"), key := Value.str (Str.ofString "ABCMeta") 230, val := Value.ref 45 }, { hash := PyData.keyHash P (Str.ofString "_ABCLike"), key := Value.str (Str.ofString "_ABCLike") 273, val := Value.ref 78 }, { hash := PyData.keyHash P (Str.ofString "_abc_plain_meta"), key := Value.str (Str.ofString "_abc_plain_meta") 280, val := Value.ref 87 }, { hash := PyData.keyHash P (Str.ofString "fspath"), key := Value.str (Str.ofString "fspath") 292, val := Value.ref 94 }] 15 }
noncomputable def o_42 (P : Params) : Obj := { cls := Value.none, data := Data.fields #[Value.int 1 0, Value.int 0 0, Value.ref 20, Value.int 5 0, Value.int 0 0, Value.ref 27, Value.int 11 0, Value.int 0 0, Value.ref 34, Value.int 16 0, Value.int 0 0, Value.ref 53, Value.int 31 0, Value.int 0 0, Value.ref 86, Value.int 35 0, Value.int 0 0, Value.ref 93] }
noncomputable def o_43 (P : Params) : Obj := { cls := Value.type "type", data := Data.cls { name := Str.ofString "ABCMeta", bases := [Value.type "type"], mro := [Value.ref 45, Value.type "type", Value.type "object"], ns := 44, qualname := Str.ofString "ABCMeta", subclasses := [Value.ref 78] }, slots := #[some (Value.ref 29), none, some (Value.str (Str.ofString "ABCMeta") 207), some (Value.str (Str.ofString "ABCMeta") 215), some (Value.builtin "type.__new__"), some (Value.bool true)] }
noncomputable def o_44 (P : Params) : Obj := { cls := Value.type "tuple", data := Data.seq #[Value.ref 45] }
noncomputable def o_45 (P : Params) : Obj := { cls := Value.type "builtin_function_or_method", data := Data.fields #[Value.builtin "type.__prepare__", Value.type "type"] }
noncomputable def o_46 (P : Params) : Obj := { cls := Value.type "dict", data := Data.dict #[{ hash := PyData.keyHash P (Str.ofString "__module__"), key := Value.str (Str.ofString "__module__") 240, val := Value.str (Str.ofString "collections.abc") 231 }, { hash := PyData.keyHash P (Str.ofString "__qualname__"), key := Value.str (Str.ofString "__qualname__") 242, val := Value.str (Str.ofString "_ABCLike") 241 }, { hash := PyData.keyHash P (Str.ofString "__firstlineno__"), key := Value.str (Str.ofString "__firstlineno__") 244, val := Value.int 16 243 }, { hash := PyData.keyHash P (Str.ofString "__instancecheck__"), key := Value.str (Str.ofString "__instancecheck__") 253, val := Value.ref 61 }, { hash := PyData.keyHash P (Str.ofString "__subclasscheck__"), key := Value.str (Str.ofString "__subclasscheck__") 261, val := Value.ref 68 }, { hash := PyData.keyHash P (Str.ofString "register"), key := Value.str (Str.ofString "register") 269, val := Value.ref 75 }, { hash := PyData.keyHash P (Str.ofString "__static_attributes__"), key := Value.str (Str.ofString "__static_attributes__") 270, val := Value.ref 76 }] 7 }
noncomputable def o_47 (P : Params) : Obj := { cls := Value.type "tuple", data := Data.seq #[] }
noncomputable def o_48 (P : Params) : Obj := { cls := Value.none, data := Data.fields #[Value.int 18 0, Value.int 4 0, Value.ref 60, Value.int 24 0, Value.int 4 0, Value.ref 67, Value.int 29 0, Value.int 4 0, Value.ref 74] }
noncomputable def o_49 (P : Params) : Obj := { cls := Value.type "code", data := Data.fields #[Value.str (Str.ofString "_ABCLike") 235, Value.str (Str.ofString "_ABCLike") 236, Value.str (Str.ofString "/claim/cut.py") 237, Value.int 16 0, Value.int 0 0, Value.int 0 0, Value.int 0 0, Value.int 0 0, Value.ref 51, Value.bool false, Value.int 181 0, Value.ref 52, Value.none, Value.none, Value.none, Value.none, Value.int 238 0, Value.int 16 0, Value.str (Str.ofString "/claim/cut.py") 239] }
noncomputable def o_50 (P : Params) : Obj := { cls := Value.type "frame", slots := #[some (Value.ref 53), some (Value.ref 3), some (Value.ref 50), none, some (Value.str (Str.ofString "collections.abc") 231), none, some (Value.ref 0)] }
noncomputable def o_51 (P : Params) : Obj := { cls := Value.type "tuple", data := Data.seq #[] }
noncomputable def o_52 (P : Params) : Obj := { cls := Value.none, data := Data.fields #[] }
noncomputable def o_53 (P : Params) : Obj := { cls := Value.type "tuple", data := Data.seq #[Value.str (Str.ofString "cls") 248, Value.str (Str.ofString "instance") 249, Value.str (Str.ofString "C") 250] }
noncomputable def o_54 (P : Params) : Obj := { cls := Value.type "tuple", data := Data.seq #[] }
noncomputable def o_55 (P : Params) : Obj := (fun (a : Arguments) (b : List Stmt) (s : Scope) (_ : fdOf [6, 0] = some (a, b, s)) => ({ cls := Value.none, data := Data.func { name := Str.ofString "__instancecheck__", qualname := Str.ofString "_ABCLike.__instancecheck__", params := a, body := FuncBody.stmts b, scope := s, globals := 0, closure := [], defaults := Value.none, kwdefaults := Value.none } } : Obj)) _ _ _ rfl
noncomputable def o_56 (P : Params) : Obj := { cls := Value.type "code", data := Data.fields #[Value.str (Str.ofString "__instancecheck__") 245, Value.str (Str.ofString "_ABCLike.__instancecheck__") 246, Value.str (Str.ofString "/claim/cut.py") 247, Value.int 18 0, Value.int 2 0, Value.int 0 0, Value.int 0 0, Value.int 3 0, Value.ref 55, Value.bool true, Value.int 181 0, Value.ref 56, Value.none, Value.ref 57, Value.ref 58, Value.ref 59, Value.int 251 0, Value.int 18 0, Value.str (Str.ofString "/claim/cut.py") 252] }
noncomputable def o_57 (P : Params) : Obj := (fun (a : Arguments) (b : List Stmt) (s : Scope) (_ : fdOf [6, 0] = some (a, b, s)) => ({ cls := Value.type "function", data := Data.func { name := Str.ofString "__instancecheck__", qualname := Str.ofString "_ABCLike.__instancecheck__", params := a, body := FuncBody.stmts b, scope := s, globals := 3, closure := [], defaults := Value.none, kwdefaults := Value.none, pyModule := Value.str (Str.ofString "collections.abc") 231, code := Value.ref 60 } } : Obj)) _ _ _ rfl
noncomputable def o_58 (P : Params) : Obj := { cls := Value.type "tuple", data := Data.seq #[] }
noncomputable def o_59 (P : Params) : Obj := { cls := Value.none, data := Data.fields #[] }
noncomputable def o_60 (P : Params) : Obj := { cls := Value.type "tuple", data := Data.seq #[Value.str (Str.ofString "cls") 257, Value.str (Str.ofString "C") 258] }
noncomputable def o_61 (P : Params) : Obj := { cls := Value.type "tuple", data := Data.seq #[] }
noncomputable def o_62 (P : Params) : Obj := (fun (a : Arguments) (b : List Stmt) (s : Scope) (_ : fdOf [6, 1] = some (a, b, s)) => ({ cls := Value.none, data := Data.func { name := Str.ofString "__subclasscheck__", qualname := Str.ofString "_ABCLike.__subclasscheck__", params := a, body := FuncBody.stmts b, scope := s, globals := 0, closure := [], defaults := Value.none, kwdefaults := Value.none } } : Obj)) _ _ _ rfl
noncomputable def o_63 (P : Params) : Obj := { cls := Value.type "code", data := Data.fields #[Value.str (Str.ofString "__subclasscheck__") 254, Value.str (Str.ofString "_ABCLike.__subclasscheck__") 255, Value.str (Str.ofString "/claim/cut.py") 256, Value.int 24 0, Value.int 2 0, Value.int 0 0, Value.int 0 0, Value.int 3 0, Value.ref 62, Value.bool true, Value.int 181 0, Value.ref 63, Value.none, Value.ref 64, Value.ref 65, Value.ref 66, Value.int 259 0, Value.int 24 0, Value.str (Str.ofString "/claim/cut.py") 260] }
noncomputable def o_64 (P : Params) : Obj := (fun (a : Arguments) (b : List Stmt) (s : Scope) (_ : fdOf [6, 1] = some (a, b, s)) => ({ cls := Value.type "function", data := Data.func { name := Str.ofString "__subclasscheck__", qualname := Str.ofString "_ABCLike.__subclasscheck__", params := a, body := FuncBody.stmts b, scope := s, globals := 3, closure := [], defaults := Value.none, kwdefaults := Value.none, pyModule := Value.str (Str.ofString "collections.abc") 231, code := Value.ref 67 } } : Obj)) _ _ _ rfl
noncomputable def o_65 (P : Params) : Obj := { cls := Value.type "tuple", data := Data.seq #[] }
noncomputable def o_66 (P : Params) : Obj := { cls := Value.none, data := Data.fields #[] }
noncomputable def o_67 (P : Params) : Obj := { cls := Value.type "tuple", data := Data.seq #[Value.str (Str.ofString "cls") 265, Value.str (Str.ofString "subclass") 266] }
noncomputable def o_68 (P : Params) : Obj := { cls := Value.type "tuple", data := Data.seq #[] }
noncomputable def o_69 (P : Params) : Obj := (fun (a : Arguments) (b : List Stmt) (s : Scope) (_ : fdOf [6, 2] = some (a, b, s)) => ({ cls := Value.none, data := Data.func { name := Str.ofString "register", qualname := Str.ofString "_ABCLike.register", params := a, body := FuncBody.stmts b, scope := s, globals := 0, closure := [], defaults := Value.none, kwdefaults := Value.none } } : Obj)) _ _ _ rfl
noncomputable def o_70 (P : Params) : Obj := { cls := Value.type "code", data := Data.fields #[Value.str (Str.ofString "register") 262, Value.str (Str.ofString "_ABCLike.register") 263, Value.str (Str.ofString "/claim/cut.py") 264, Value.int 29 0, Value.int 2 0, Value.int 0 0, Value.int 0 0, Value.int 3 0, Value.ref 69, Value.bool true, Value.int 181 0, Value.ref 70, Value.none, Value.ref 71, Value.ref 72, Value.ref 73, Value.int 267 0, Value.int 29 0, Value.str (Str.ofString "/claim/cut.py") 268] }
noncomputable def o_71 (P : Params) : Obj := (fun (a : Arguments) (b : List Stmt) (s : Scope) (_ : fdOf [6, 2] = some (a, b, s)) => ({ cls := Value.type "function", data := Data.func { name := Str.ofString "register", qualname := Str.ofString "_ABCLike.register", params := a, body := FuncBody.stmts b, scope := s, globals := 3, closure := [], defaults := Value.none, kwdefaults := Value.none, pyModule := Value.str (Str.ofString "collections.abc") 231, code := Value.ref 74 } } : Obj)) _ _ _ rfl
noncomputable def o_72 (P : Params) : Obj := { cls := Value.type "tuple", data := Data.seq #[] }
noncomputable def o_73 (P : Params) : Obj := { cls := Value.type "dict", data := Data.dict #[{ hash := PyData.keyHash P (Str.ofString "__module__"), key := Value.str (Str.ofString "__module__") 240, val := Value.str (Str.ofString "collections.abc") 231 }, { hash := PyData.keyHash P (Str.ofString "__firstlineno__"), key := Value.str (Str.ofString "__firstlineno__") 244, val := Value.int 16 243 }, { hash := PyData.keyHash P (Str.ofString "__instancecheck__"), key := Value.str (Str.ofString "__instancecheck__") 253, val := Value.ref 61 }, { hash := PyData.keyHash P (Str.ofString "__subclasscheck__"), key := Value.str (Str.ofString "__subclasscheck__") 261, val := Value.ref 68 }, { hash := PyData.keyHash P (Str.ofString "register"), key := Value.str (Str.ofString "register") 269, val := Value.ref 75 }, { hash := PyData.keyHash P (Str.ofString "__static_attributes__"), key := Value.str (Str.ofString "__static_attributes__") 270, val := Value.ref 76 }, { hash := PyData.keyHash P (Str.ofString "__doc__"), key := Value.str (Str.ofString "__doc__") 271, val := Value.none }] 2 }
noncomputable def o_74 (P : Params) : Obj := { cls := Value.type "type", data := Data.cls { name := Str.ofString "_ABCLike", bases := [Value.ref 45], mro := [Value.ref 78, Value.ref 45, Value.type "type", Value.type "object"], ns := 77, qualname := Str.ofString "_ABCLike" }, slots := #[some (Value.ref 48), none, some (Value.str (Str.ofString "_ABCLike") 233), some (Value.str (Str.ofString "_ABCLike") 241), some (Value.builtin "type.__new__"), some (Value.bool true)] }
noncomputable def o_75 (P : Params) : Obj := { cls := Value.type "super", data := Data.fields #[Value.ref 78, Value.ref 78, Value.ref 78] }
noncomputable def o_76 (P : Params) : Obj := { cls := Value.type "builtin_function_or_method", data := Data.fields #[Value.builtin "object.__init_subclass__", Value.ref 78] }
noncomputable def o_77 (P : Params) : Obj := { cls := Value.type "tuple", data := Data.seq #[] }
noncomputable def o_78 (P : Params) : Obj := { cls := Value.none, data := Data.fields #[] }
noncomputable def o_79 (P : Params) : Obj := { cls := Value.type "tuple", data := Data.seq #[Value.str (Str.ofString "C") 277] }
noncomputable def o_80 (P : Params) : Obj := { cls := Value.type "tuple", data := Data.seq #[] }
noncomputable def o_81 (P : Params) : Obj := (fun (a : Arguments) (b : List Stmt) (s : Scope) (_ : fdOf [7] = some (a, b, s)) => ({ cls := Value.none, data := Data.func { name := Str.ofString "_abc_plain_meta", qualname := Str.ofString "_abc_plain_meta", params := a, body := FuncBody.stmts b, scope := s, globals := 0, closure := [], defaults := Value.none, kwdefaults := Value.none } } : Obj)) _ _ _ rfl
noncomputable def o_82 (P : Params) : Obj := { cls := Value.type "code", data := Data.fields #[Value.str (Str.ofString "_abc_plain_meta") 274, Value.str (Str.ofString "_abc_plain_meta") 275, Value.str (Str.ofString "/claim/cut.py") 276, Value.int 31 0, Value.int 1 0, Value.int 0 0, Value.int 0 0, Value.int 3 0, Value.ref 81, Value.bool true, Value.int 181 0, Value.ref 82, Value.none, Value.ref 83, Value.ref 84, Value.ref 85, Value.int 278 0, Value.int 31 0, Value.str (Str.ofString "/claim/cut.py") 279] }
noncomputable def o_83 (P : Params) : Obj := (fun (a : Arguments) (b : List Stmt) (s : Scope) (_ : fdOf [7] = some (a, b, s)) => ({ cls := Value.type "function", data := Data.func { name := Str.ofString "_abc_plain_meta", qualname := Str.ofString "_abc_plain_meta", params := a, body := FuncBody.stmts b, scope := s, globals := 3, closure := [], defaults := Value.none, kwdefaults := Value.none, pyModule := Value.str (Str.ofString "collections.abc") 231, code := Value.ref 86 } } : Obj)) _ _ _ rfl
noncomputable def o_84 (P : Params) : Obj := { cls := Value.type "tuple", data := Data.seq #[] }
noncomputable def o_85 (P : Params) : Obj := { cls := Value.none, data := Data.fields #[] }
noncomputable def o_86 (P : Params) : Obj := { cls := Value.type "tuple", data := Data.seq #[Value.str (Str.ofString "path") 286, Value.str (Str.ofString "kind") 287, Value.str (Str.ofString "hook") 288, Value.str (Str.ofString "given") 289] }
noncomputable def o_87 (P : Params) : Obj := { cls := Value.type "tuple", data := Data.seq #[] }
noncomputable def o_88 (P : Params) : Obj := (fun (a : Arguments) (b : List Stmt) (s : Scope) (_ : fdOf [9] = some (a, b, s)) => ({ cls := Value.none, data := Data.func { name := Str.ofString "fspath", qualname := Str.ofString "fspath", params := a, body := FuncBody.stmts b, scope := s, globals := 0, closure := [], defaults := Value.none, kwdefaults := Value.none } } : Obj)) _ _ _ rfl
noncomputable def o_89 (P : Params) : Obj := { cls := Value.type "code", data := Data.fields #[Value.str (Str.ofString "fspath") 283, Value.str (Str.ofString "fspath") 284, Value.str (Str.ofString "/claim/cut.py") 285, Value.int 35 0, Value.int 1 0, Value.int 0 0, Value.int 0 0, Value.int 3 0, Value.ref 88, Value.bool true, Value.int 181 0, Value.ref 89, Value.none, Value.ref 90, Value.ref 91, Value.ref 92, Value.int 290 0, Value.int 35 0, Value.str (Str.ofString "/claim/cut.py") 291] }
noncomputable def o_90 (P : Params) : Obj := (fun (a : Arguments) (b : List Stmt) (s : Scope) (_ : fdOf [9] = some (a, b, s)) => ({ cls := Value.type "function", data := Data.func { name := Str.ofString "fspath", qualname := Str.ofString "fspath", params := a, body := FuncBody.stmts b, scope := s, globals := 3, closure := [], defaults := Value.none, kwdefaults := Value.none, pyModule := Value.str (Str.ofString "os") 281, code := Value.ref 93 } } : Obj)) _ _ _ rfl
noncomputable def o_92 (P : Params) : Obj := { cls := Value.type "dict", data := Data.dict #[{ hash := PyData.keyHash P (Str.ofString "__name__"), key := Value.str (Str.ofString "__name__") 165, val := Value.str (Str.ofString "cpy313.stat") 370 }, { hash := PyData.keyHash P (Str.ofString "__doc__"), key := Value.str (Str.ofString "__doc__") 166, val := Value.none }, { hash := PyData.keyHash P (Str.ofString "__package__"), key := Value.str (Str.ofString "__package__") 167, val := Value.none }, { hash := PyData.keyHash P (Str.ofString "__loader__"), key := Value.str (Str.ofString "__loader__") 168, val := Value.builtin "__main__.__loader__#opaque" }, { hash := PyData.keyHash P (Str.ofString "__spec__"), key := Value.str (Str.ofString "__spec__") 169, val := Value.none }, { hash := PyData.keyHash P (Str.ofString "__annotations__"), key := Value.str (Str.ofString "__annotations__") 170, val := Value.ref 6 }, { hash := PyData.keyHash P (Str.ofString "__builtins__"), key := Value.str (Str.ofString "__builtins__") 171, val := Value.ref 4 }, { hash := PyData.keyHash P (Str.ofString "__file__"), key := Value.str (Str.ofString "__file__") 173, val := Value.str (Str.ofString "/claim/cut.py") 172 }, { hash := PyData.keyHash P (Str.ofString "__cached__"), key := Value.str (Str.ofString "__cached__") 174, val := Value.none }, { hash := PyData.keyHash P (Str.ofString "_wall"), key := Value.str (Str.ofString "_wall") 193, val := Value.ref 21 }, { hash := PyData.keyHash P (Str.ofString "_plain_name"), key := Value.str (Str.ofString "_plain_name") 204, val := Value.ref 28 }, { hash := PyData.keyHash P (Str.ofString "ABCMeta"), key := Value.str (Str.ofString "ABCMeta") 230, val := Value.ref 45 }, { hash := PyData.keyHash P (Str.ofString "_ABCLike"), key := Value.str (Str.ofString "_ABCLike") 273, val := Value.ref 78 }, { hash := PyData.keyHash P (Str.ofString "_abc_plain_meta"), key := Value.str (Str.ofString "_abc_plain_meta") 280, val := Value.ref 87 }, { hash := PyData.keyHash P (Str.ofString "fspath"), key := Value.str (Str.ofString "fspath") 292, val := Value.ref 94 }, { hash := PyData.keyHash P (Str.ofString "_check_arg_types"), key := Value.str (Str.ofString "_check_arg_types") 305, val := Value.ref 101 }, { hash := PyData.keyHash P (Str.ofString "_get_sep"), key := Value.str (Str.ofString "_get_sep") 314, val := Value.ref 108 }, { hash := PyData.keyHash P (Str.ofString "join"), key := Value.str (Str.ofString "join") 325, val := Value.ref 115 }, { hash := PyData.keyHash P (Str.ofString "split"), key := Value.str (Str.ofString "split") 336, val := Value.ref 122 }, { hash := PyData.keyHash P (Str.ofString "splitroot"), key := Value.str (Str.ofString "splitroot") 345, val := Value.ref 129 }, { hash := PyData.keyHash P (Str.ofString "basename"), key := Value.str (Str.ofString "basename") 354, val := Value.ref 136 }, { hash := PyData.keyHash P (Str.ofString "normpath"), key := Value.str (Str.ofString "normpath") 369, val := Value.ref 143 }, { hash := PyData.keyHash P (Str.ofString "S_IMODE"), key := Value.str (Str.ofString "S_IMODE") 378, val := Value.ref 150 }, { hash := PyData.keyHash P (Str.ofString "S_IFMT"), key := Value.str (Str.ofString "S_IFMT") 385, val := Value.ref 157 }, { hash := PyData.keyHash P (Str.ofString "S_IFDIR"), key := Value.str (Str.ofString "S_IFDIR") 387, val := Value.int 16384 386 }, { hash := PyData.keyHash P (Str.ofString "S_IFCHR"), key := Value.str (Str.ofString "S_IFCHR") 389, val := Value.int 8192 388 }, { hash := PyData.keyHash P (Str.ofString "S_IFBLK"), key := Value.str (Str.ofString "S_IFBLK") 391, val := Value.int 24576 390 }, { hash := PyData.keyHash P (Str.ofString "S_IFREG"), key := Value.str (Str.ofString "S_IFREG") 393, val := Value.int 32768 392 }, { hash := PyData.keyHash P (Str.ofString "S_IFIFO"), key := Value.str (Str.ofString "S_IFIFO") 395, val := Value.int 4096 394 }, { hash := PyData.keyHash P (Str.ofString "S_IFLNK"), key := Value.str (Str.ofString "S_IFLNK") 397, val := Value.int 40960 396 }, { hash := PyData.keyHash P (Str.ofString "S_IFSOCK"), key := Value.str (Str.ofString "S_IFSOCK") 399, val := Value.int 49152 398 }, { hash := PyData.keyHash P (Str.ofString "S_ISDIR"), key := Value.str (Str.ofString "S_ISDIR") 406, val := Value.ref 164 }] 32 }
noncomputable def o_93 (P : Params) : Obj := { cls := Value.none, data := Data.fields #[Value.int 1 0, Value.int 0 0, Value.ref 20, Value.int 5 0, Value.int 0 0, Value.ref 27, Value.int 11 0, Value.int 0 0, Value.ref 34, Value.int 16 0, Value.int 0 0, Value.ref 53, Value.int 31 0, Value.int 0 0, Value.ref 86, Value.int 35 0, Value.int 0 0, Value.ref 93, Value.int 52 0, Value.int 0 0, Value.ref 100, Value.int 64 0, Value.int 0 0, Value.ref 107, Value.int 69 0, Value.int 0 0, Value.ref 114, Value.int 86 0, Value.int 0 0, Value.ref 121, Value.int 94 0, Value.int 0 0, Value.ref 128, Value.int 108 0, Value.int 0 0, Value.ref 135, Value.int 113 0, Value.int 0 0, Value.ref 142, Value.int 139 0, Value.int 0 0, Value.ref 149, Value.int 141 0, Value.int 0 0, Value.ref 156, Value.int 150 0, Value.int 0 0, Value.ref 163] }
noncomputable def o_94 (P : Params) : Obj := { cls := Value.type "tuple", data := Data.seq #[] }
noncomputable def o_95 (P : Params) : Obj := { cls := Value.none, data := Data.fields #[] }
noncomputable def o_96 (P : Params) : Obj := { cls := Value.type "tuple", data := Data.seq #[Value.str (Str.ofString "funcname") 298, Value.str (Str.ofString "args") 299, Value.str (Str.ofString "hasstr") 300, Value.str (Str.ofString "hasbytes") 301, Value.str (Str.ofString "s") 302] }
noncomputable def o_97 (P : Params) : Obj := { cls := Value.type "tuple", data := Data.seq #[] }
noncomputable def o_98 (P : Params) : Obj := (fun (a : Arguments) (b : List Stmt) (s : Scope) (_ : fdOf [11] = some (a, b, s)) => ({ cls := Value.none, data := Data.func { name := Str.ofString "_check_arg_types", qualname := Str.ofString "_check_arg_types", params := a, body := FuncBody.stmts b, scope := s, globals := 0, closure := [], defaults := Value.none, kwdefaults := Value.none } } : Obj)) _ _ _ rfl
noncomputable def o_99 (P : Params) : Obj := { cls := Value.type "code", data := Data.fields #[Value.str (Str.ofString "_check_arg_types") 295, Value.str (Str.ofString "_check_arg_types") 296, Value.str (Str.ofString "/claim/cut.py") 297, Value.int 52 0, Value.int 1 0, Value.int 0 0, Value.int 0 0, Value.int 7 0, Value.ref 95, Value.bool true, Value.int 181 0, Value.ref 96, Value.none, Value.ref 97, Value.ref 98, Value.ref 99, Value.int 303 0, Value.int 52 0, Value.str (Str.ofString "/claim/cut.py") 304] }
noncomputable def o_100 (P : Params) : Obj := (fun (a : Arguments) (b : List Stmt) (s : Scope) (_ : fdOf [11] = some (a, b, s)) => ({ cls := Value.type "function", data := Data.func { name := Str.ofString "_check_arg_types", qualname := Str.ofString "_check_arg_types", params := a, body := FuncBody.stmts b, scope := s, globals := 3, closure := [], defaults := Value.none, kwdefaults := Value.none, pyModule := Value.str (Str.ofString "cpy313.genericpath") 293, code := Value.ref 100 } } : Obj)) _ _ _ rfl
noncomputable def o_101 (P : Params) : Obj := { cls := Value.type "tuple", data := Data.seq #[] }
noncomputable def o_102 (P : Params) : Obj := { cls := Value.none, data := Data.fields #[] }
noncomputable def o_103 (P : Params) : Obj := { cls := Value.type "tuple", data := Data.seq #[Value.str (Str.ofString "path") 311] }
noncomputable def o_104 (P : Params) : Obj := { cls := Value.type "tuple", data := Data.seq #[] }
noncomputable def o_105 (P : Params) : Obj := (fun (a : Arguments) (b : List Stmt) (s : Scope) (_ : fdOf [13] = some (a, b, s)) => ({ cls := Value.none, data := Data.func { name := Str.ofString "_get_sep", qualname := Str.ofString "_get_sep", params := a, body := FuncBody.stmts b, scope := s, globals := 0, closure := [], defaults := Value.none, kwdefaults := Value.none } } : Obj)) _ _ _ rfl
noncomputable def o_106 (P : Params) : Obj := { cls := Value.type "code", data := Data.fields #[Value.str (Str.ofString "_get_sep") 308, Value.str (Str.ofString "_get_sep") 309, Value.str (Str.ofString "/claim/cut.py") 310, Value.int 64 0, Value.int 1 0, Value.int 0 0, Value.int 0 0, Value.int 3 0, Value.ref 102, Value.bool true, Value.int 181 0, Value.ref 103, Value.none, Value.ref 104, Value.ref 105, Value.ref 106, Value.int 312 0, Value.int 64 0, Value.str (Str.ofString "/claim/cut.py") 313] }
noncomputable def o_107 (P : Params) : Obj := (fun (a : Arguments) (b : List Stmt) (s : Scope) (_ : fdOf [13] = some (a, b, s)) => ({ cls := Value.type "function", data := Data.func { name := Str.ofString "_get_sep", qualname := Str.ofString "_get_sep", params := a, body := FuncBody.stmts b, scope := s, globals := 3, closure := [], defaults := Value.none, kwdefaults := Value.none, pyModule := Value.str (Str.ofString "cpy313.posixpath") 306, code := Value.ref 107 } } : Obj)) _ _ _ rfl
noncomputable def o_108 (P : Params) : Obj := { cls := Value.type "tuple", data := Data.seq #[] }
noncomputable def o_109 (P : Params) : Obj := { cls := Value.none, data := Data.fields #[] }
noncomputable def o_110 (P : Params) : Obj := { cls := Value.type "tuple", data := Data.seq #[Value.str (Str.ofString "a") 318, Value.str (Str.ofString "p") 319, Value.str (Str.ofString "sep") 320, Value.str (Str.ofString "path") 321, Value.str (Str.ofString "b") 322] }
noncomputable def o_111 (P : Params) : Obj := { cls := Value.type "tuple", data := Data.seq #[] }
noncomputable def o_112 (P : Params) : Obj := (fun (a : Arguments) (b : List Stmt) (s : Scope) (_ : fdOf [14] = some (a, b, s)) => ({ cls := Value.none, data := Data.func { name := Str.ofString "join", qualname := Str.ofString "join", params := a, body := FuncBody.stmts b, scope := s, globals := 0, closure := [], defaults := Value.none, kwdefaults := Value.none } } : Obj)) _ _ _ rfl
noncomputable def o_113 (P : Params) : Obj := { cls := Value.type "code", data := Data.fields #[Value.str (Str.ofString "join") 315, Value.str (Str.ofString "join") 316, Value.str (Str.ofString "/claim/cut.py") 317, Value.int 69 0, Value.int 1 0, Value.int 0 0, Value.int 0 0, Value.int 7 0, Value.ref 109, Value.bool true, Value.int 181 0, Value.ref 110, Value.none, Value.ref 111, Value.ref 112, Value.ref 113, Value.int 323 0, Value.int 69 0, Value.str (Str.ofString "/claim/cut.py") 324] }
noncomputable def o_114 (P : Params) : Obj := (fun (a : Arguments) (b : List Stmt) (s : Scope) (_ : fdOf [14] = some (a, b, s)) => ({ cls := Value.type "function", data := Data.func { name := Str.ofString "join", qualname := Str.ofString "join", params := a, body := FuncBody.stmts b, scope := s, globals := 3, closure := [], defaults := Value.none, kwdefaults := Value.none, pyModule := Value.str (Str.ofString "cpy313.posixpath") 306, code := Value.ref 114 } } : Obj)) _ _ _ rfl
noncomputable def o_115 (P : Params) : Obj := { cls := Value.type "tuple", data := Data.seq #[] }
noncomputable def o_116 (P : Params) : Obj := { cls := Value.none, data := Data.fields #[] }
noncomputable def o_117 (P : Params) : Obj := { cls := Value.type "tuple", data := Data.seq #[Value.str (Str.ofString "p") 329, Value.str (Str.ofString "sep") 330, Value.str (Str.ofString "i") 331, Value.str (Str.ofString "head") 332, Value.str (Str.ofString "tail") 333] }
noncomputable def o_118 (P : Params) : Obj := { cls := Value.type "tuple", data := Data.seq #[] }
noncomputable def o_119 (P : Params) : Obj := (fun (a : Arguments) (b : List Stmt) (s : Scope) (_ : fdOf [15] = some (a, b, s)) => ({ cls := Value.none, data := Data.func { name := Str.ofString "split", qualname := Str.ofString "split", params := a, body := FuncBody.stmts b, scope := s, globals := 0, closure := [], defaults := Value.none, kwdefaults := Value.none } } : Obj)) _ _ _ rfl
noncomputable def o_120 (P : Params) : Obj := { cls := Value.type "code", data := Data.fields #[Value.str (Str.ofString "split") 326, Value.str (Str.ofString "split") 327, Value.str (Str.ofString "/claim/cut.py") 328, Value.int 86 0, Value.int 1 0, Value.int 0 0, Value.int 0 0, Value.int 3 0, Value.ref 116, Value.bool true, Value.int 181 0, Value.ref 117, Value.none, Value.ref 118, Value.ref 119, Value.ref 120, Value.int 334 0, Value.int 86 0, Value.str (Str.ofString "/claim/cut.py") 335] }
noncomputable def o_121 (P : Params) : Obj := (fun (a : Arguments) (b : List Stmt) (s : Scope) (_ : fdOf [15] = some (a, b, s)) => ({ cls := Value.type "function", data := Data.func { name := Str.ofString "split", qualname := Str.ofString "split", params := a, body := FuncBody.stmts b, scope := s, globals := 3, closure := [], defaults := Value.none, kwdefaults := Value.none, pyModule := Value.str (Str.ofString "cpy313.posixpath") 306, code := Value.ref 121 } } : Obj)) _ _ _ rfl
noncomputable def o_122 (P : Params) : Obj := { cls := Value.type "tuple", data := Data.seq #[] }
noncomputable def o_123 (P : Params) : Obj := { cls := Value.none, data := Data.fields #[] }
noncomputable def o_124 (P : Params) : Obj := { cls := Value.type "tuple", data := Data.seq #[Value.str (Str.ofString "p") 340, Value.str (Str.ofString "sep") 341, Value.str (Str.ofString "empty") 342] }
noncomputable def o_125 (P : Params) : Obj := { cls := Value.type "tuple", data := Data.seq #[] }
noncomputable def o_126 (P : Params) : Obj := (fun (a : Arguments) (b : List Stmt) (s : Scope) (_ : fdOf [16] = some (a, b, s)) => ({ cls := Value.none, data := Data.func { name := Str.ofString "splitroot", qualname := Str.ofString "splitroot", params := a, body := FuncBody.stmts b, scope := s, globals := 0, closure := [], defaults := Value.none, kwdefaults := Value.none } } : Obj)) _ _ _ rfl
noncomputable def o_127 (P : Params) : Obj := { cls := Value.type "code", data := Data.fields #[Value.str (Str.ofString "splitroot") 337, Value.str (Str.ofString "splitroot") 338, Value.str (Str.ofString "/claim/cut.py") 339, Value.int 94 0, Value.int 1 0, Value.int 0 0, Value.int 0 0, Value.int 3 0, Value.ref 123, Value.bool true, Value.int 181 0, Value.ref 124, Value.none, Value.ref 125, Value.ref 126, Value.ref 127, Value.int 343 0, Value.int 94 0, Value.str (Str.ofString "/claim/cut.py") 344] }
noncomputable def o_128 (P : Params) : Obj := (fun (a : Arguments) (b : List Stmt) (s : Scope) (_ : fdOf [16] = some (a, b, s)) => ({ cls := Value.type "function", data := Data.func { name := Str.ofString "splitroot", qualname := Str.ofString "splitroot", params := a, body := FuncBody.stmts b, scope := s, globals := 3, closure := [], defaults := Value.none, kwdefaults := Value.none, pyModule := Value.str (Str.ofString "cpy313.posixpath") 306, code := Value.ref 128 } } : Obj)) _ _ _ rfl
noncomputable def o_129 (P : Params) : Obj := { cls := Value.type "tuple", data := Data.seq #[] }
noncomputable def o_130 (P : Params) : Obj := { cls := Value.none, data := Data.fields #[] }
noncomputable def o_131 (P : Params) : Obj := { cls := Value.type "tuple", data := Data.seq #[Value.str (Str.ofString "p") 349, Value.str (Str.ofString "sep") 350, Value.str (Str.ofString "i") 351] }
noncomputable def o_132 (P : Params) : Obj := { cls := Value.type "tuple", data := Data.seq #[] }
noncomputable def o_133 (P : Params) : Obj := (fun (a : Arguments) (b : List Stmt) (s : Scope) (_ : fdOf [17] = some (a, b, s)) => ({ cls := Value.none, data := Data.func { name := Str.ofString "basename", qualname := Str.ofString "basename", params := a, body := FuncBody.stmts b, scope := s, globals := 0, closure := [], defaults := Value.none, kwdefaults := Value.none } } : Obj)) _ _ _ rfl
noncomputable def o_134 (P : Params) : Obj := { cls := Value.type "code", data := Data.fields #[Value.str (Str.ofString "basename") 346, Value.str (Str.ofString "basename") 347, Value.str (Str.ofString "/claim/cut.py") 348, Value.int 108 0, Value.int 1 0, Value.int 0 0, Value.int 0 0, Value.int 3 0, Value.ref 130, Value.bool true, Value.int 181 0, Value.ref 131, Value.none, Value.ref 132, Value.ref 133, Value.ref 134, Value.int 352 0, Value.int 108 0, Value.str (Str.ofString "/claim/cut.py") 353] }
noncomputable def o_135 (P : Params) : Obj := (fun (a : Arguments) (b : List Stmt) (s : Scope) (_ : fdOf [17] = some (a, b, s)) => ({ cls := Value.type "function", data := Data.func { name := Str.ofString "basename", qualname := Str.ofString "basename", params := a, body := FuncBody.stmts b, scope := s, globals := 3, closure := [], defaults := Value.none, kwdefaults := Value.none, pyModule := Value.str (Str.ofString "cpy313.posixpath") 306, code := Value.ref 135 } } : Obj)) _ _ _ rfl
noncomputable def o_136 (P : Params) : Obj := { cls := Value.type "tuple", data := Data.seq #[] }
noncomputable def o_137 (P : Params) : Obj := { cls := Value.none, data := Data.fields #[] }
noncomputable def o_138 (P : Params) : Obj := { cls := Value.type "tuple", data := Data.seq #[Value.str (Str.ofString "path") 358, Value.str (Str.ofString "sep") 359, Value.str (Str.ofString "dot") 360, Value.str (Str.ofString "dotdot") 361, Value.str (Str.ofString "_") 362, Value.str (Str.ofString "initial_slashes") 363, Value.str (Str.ofString "comps") 364, Value.str (Str.ofString "new_comps") 365, Value.str (Str.ofString "comp") 366] }
noncomputable def o_139 (P : Params) : Obj := { cls := Value.type "tuple", data := Data.seq #[] }
noncomputable def o_140 (P : Params) : Obj := (fun (a : Arguments) (b : List Stmt) (s : Scope) (_ : fdOf [18] = some (a, b, s)) => ({ cls := Value.none, data := Data.func { name := Str.ofString "normpath", qualname := Str.ofString "normpath", params := a, body := FuncBody.stmts b, scope := s, globals := 0, closure := [], defaults := Value.none, kwdefaults := Value.none } } : Obj)) _ _ _ rfl
noncomputable def o_141 (P : Params) : Obj := { cls := Value.type "code", data := Data.fields #[Value.str (Str.ofString "normpath") 355, Value.str (Str.ofString "normpath") 356, Value.str (Str.ofString "/claim/cut.py") 357, Value.int 113 0, Value.int 1 0, Value.int 0 0, Value.int 0 0, Value.int 3 0, Value.ref 137, Value.bool true, Value.int 181 0, Value.ref 138, Value.none, Value.ref 139, Value.ref 140, Value.ref 141, Value.int 367 0, Value.int 113 0, Value.str (Str.ofString "/claim/cut.py") 368] }
noncomputable def o_142 (P : Params) : Obj := (fun (a : Arguments) (b : List Stmt) (s : Scope) (_ : fdOf [18] = some (a, b, s)) => ({ cls := Value.type "function", data := Data.func { name := Str.ofString "normpath", qualname := Str.ofString "normpath", params := a, body := FuncBody.stmts b, scope := s, globals := 3, closure := [], defaults := Value.none, kwdefaults := Value.none, pyModule := Value.str (Str.ofString "cpy313.posixpath") 306, code := Value.ref 142 } } : Obj)) _ _ _ rfl
noncomputable def o_143 (P : Params) : Obj := { cls := Value.type "tuple", data := Data.seq #[] }
noncomputable def o_144 (P : Params) : Obj := { cls := Value.none, data := Data.fields #[] }
noncomputable def o_145 (P : Params) : Obj := { cls := Value.type "tuple", data := Data.seq #[Value.str (Str.ofString "mode") 375] }
noncomputable def o_146 (P : Params) : Obj := { cls := Value.type "tuple", data := Data.seq #[] }
noncomputable def o_147 (P : Params) : Obj := (fun (a : Arguments) (b : List Stmt) (s : Scope) (_ : fdOf [20] = some (a, b, s)) => ({ cls := Value.none, data := Data.func { name := Str.ofString "S_IMODE", qualname := Str.ofString "S_IMODE", params := a, body := FuncBody.stmts b, scope := s, globals := 0, closure := [], defaults := Value.none, kwdefaults := Value.none } } : Obj)) _ _ _ rfl
noncomputable def o_148 (P : Params) : Obj := { cls := Value.type "code", data := Data.fields #[Value.str (Str.ofString "S_IMODE") 372, Value.str (Str.ofString "S_IMODE") 373, Value.str (Str.ofString "/claim/cut.py") 374, Value.int 139 0, Value.int 1 0, Value.int 0 0, Value.int 0 0, Value.int 3 0, Value.ref 144, Value.bool true, Value.int 181 0, Value.ref 145, Value.none, Value.ref 146, Value.ref 147, Value.ref 148, Value.int 376 0, Value.int 139 0, Value.str (Str.ofString "/claim/cut.py") 377] }
noncomputable def o_149 (P : Params) : Obj := (fun (a : Arguments) (b : List Stmt) (s : Scope) (_ : fdOf [20] = some (a, b, s)) => ({ cls := Value.type "function", data := Data.func { name := Str.ofString "S_IMODE", qualname := Str.ofString "S_IMODE", params := a, body := FuncBody.stmts b, scope := s, globals := 3, closure := [], defaults := Value.none, kwdefaults := Value.none, pyModule := Value.str (Str.ofString "cpy313.stat") 370, code := Value.ref 149 } } : Obj)) _ _ _ rfl
noncomputable def o_150 (P : Params) : Obj := { cls := Value.type "tuple", data := Data.seq #[] }
noncomputable def o_151 (P : Params) : Obj := { cls := Value.none, data := Data.fields #[] }
noncomputable def o_152 (P : Params) : Obj := { cls := Value.type "tuple", data := Data.seq #[Value.str (Str.ofString "mode") 382] }
noncomputable def o_153 (P : Params) : Obj := { cls := Value.type "tuple", data := Data.seq #[] }
noncomputable def o_154 (P : Params) : Obj := (fun (a : Arguments) (b : List Stmt) (s : Scope) (_ : fdOf [21] = some (a, b, s)) => ({ cls := Value.none, data := Data.func { name := Str.ofString "S_IFMT", qualname := Str.ofString "S_IFMT", params := a, body := FuncBody.stmts b, scope := s, globals := 0, closure := [], defaults := Value.none, kwdefaults := Value.none } } : Obj)) _ _ _ rfl
noncomputable def o_155 (P : Params) : Obj := { cls := Value.type "code", data := Data.fields #[Value.str (Str.ofString "S_IFMT") 379, Value.str (Str.ofString "S_IFMT") 380, Value.str (Str.ofString "/claim/cut.py") 381, Value.int 141 0, Value.int 1 0, Value.int 0 0, Value.int 0 0, Value.int 3 0, Value.ref 151, Value.bool true, Value.int 181 0, Value.ref 152, Value.none, Value.ref 153, Value.ref 154, Value.ref 155, Value.int 383 0, Value.int 141 0, Value.str (Str.ofString "/claim/cut.py") 384] }
noncomputable def o_156 (P : Params) : Obj := (fun (a : Arguments) (b : List Stmt) (s : Scope) (_ : fdOf [21] = some (a, b, s)) => ({ cls := Value.type "function", data := Data.func { name := Str.ofString "S_IFMT", qualname := Str.ofString "S_IFMT", params := a, body := FuncBody.stmts b, scope := s, globals := 3, closure := [], defaults := Value.none, kwdefaults := Value.none, pyModule := Value.str (Str.ofString "cpy313.stat") 370, code := Value.ref 156 } } : Obj)) _ _ _ rfl
noncomputable def o_157 (P : Params) : Obj := { cls := Value.type "tuple", data := Data.seq #[] }
noncomputable def o_158 (P : Params) : Obj := { cls := Value.none, data := Data.fields #[] }
noncomputable def o_159 (P : Params) : Obj := { cls := Value.type "tuple", data := Data.seq #[Value.str (Str.ofString "mode") 403] }
noncomputable def o_160 (P : Params) : Obj := { cls := Value.type "tuple", data := Data.seq #[] }
noncomputable def o_161 (P : Params) : Obj := (fun (a : Arguments) (b : List Stmt) (s : Scope) (_ : fdOf [29] = some (a, b, s)) => ({ cls := Value.none, data := Data.func { name := Str.ofString "S_ISDIR", qualname := Str.ofString "S_ISDIR", params := a, body := FuncBody.stmts b, scope := s, globals := 0, closure := [], defaults := Value.none, kwdefaults := Value.none } } : Obj)) _ _ _ rfl
noncomputable def o_162 (P : Params) : Obj := { cls := Value.type "code", data := Data.fields #[Value.str (Str.ofString "S_ISDIR") 400, Value.str (Str.ofString "S_ISDIR") 401, Value.str (Str.ofString "/claim/cut.py") 402, Value.int 150 0, Value.int 1 0, Value.int 0 0, Value.int 0 0, Value.int 3 0, Value.ref 158, Value.bool true, Value.int 181 0, Value.ref 159, Value.none, Value.ref 160, Value.ref 161, Value.ref 162, Value.int 404 0, Value.int 150 0, Value.str (Str.ofString "/claim/cut.py") 405] }
noncomputable def o_163 (P : Params) : Obj := (fun (a : Arguments) (b : List Stmt) (s : Scope) (_ : fdOf [29] = some (a, b, s)) => ({ cls := Value.type "function", data := Data.func { name := Str.ofString "S_ISDIR", qualname := Str.ofString "S_ISDIR", params := a, body := FuncBody.stmts b, scope := s, globals := 3, closure := [], defaults := Value.none, kwdefaults := Value.none, pyModule := Value.str (Str.ofString "cpy313.stat") 370, code := Value.ref 163 } } : Obj)) _ _ _ rfl
noncomputable def o_165 (P : Params) : Obj := { cls := Value.type "dict", data := Data.dict #[{ hash := PyData.keyHash P (Str.ofString "__name__"), key := Value.str (Str.ofString "__name__") 165, val := Value.str (Str.ofString "cpy313.stat") 370 }, { hash := PyData.keyHash P (Str.ofString "__doc__"), key := Value.str (Str.ofString "__doc__") 166, val := Value.none }, { hash := PyData.keyHash P (Str.ofString "__package__"), key := Value.str (Str.ofString "__package__") 167, val := Value.none }, { hash := PyData.keyHash P (Str.ofString "__loader__"), key := Value.str (Str.ofString "__loader__") 168, val := Value.builtin "__main__.__loader__#opaque" }, { hash := PyData.keyHash P (Str.ofString "__spec__"), key := Value.str (Str.ofString "__spec__") 169, val := Value.none }, { hash := PyData.keyHash P (Str.ofString "__annotations__"), key := Value.str (Str.ofString "__annotations__") 170, val := Value.ref 6 }, { hash := PyData.keyHash P (Str.ofString "__builtins__"), key := Value.str (Str.ofString "__builtins__") 171, val := Value.ref 4 }, { hash := PyData.keyHash P (Str.ofString "__file__"), key := Value.str (Str.ofString "__file__") 173, val := Value.str (Str.ofString "/claim/cut.py") 172 }, { hash := PyData.keyHash P (Str.ofString "__cached__"), key := Value.str (Str.ofString "__cached__") 174, val := Value.none }, { hash := PyData.keyHash P (Str.ofString "_wall"), key := Value.str (Str.ofString "_wall") 193, val := Value.ref 21 }, { hash := PyData.keyHash P (Str.ofString "_plain_name"), key := Value.str (Str.ofString "_plain_name") 204, val := Value.ref 28 }, { hash := PyData.keyHash P (Str.ofString "ABCMeta"), key := Value.str (Str.ofString "ABCMeta") 230, val := Value.ref 45 }, { hash := PyData.keyHash P (Str.ofString "_ABCLike"), key := Value.str (Str.ofString "_ABCLike") 273, val := Value.ref 78 }, { hash := PyData.keyHash P (Str.ofString "_abc_plain_meta"), key := Value.str (Str.ofString "_abc_plain_meta") 280, val := Value.ref 87 }, { hash := PyData.keyHash P (Str.ofString "fspath"), key := Value.str (Str.ofString "fspath") 292, val := Value.ref 94 }, { hash := PyData.keyHash P (Str.ofString "_check_arg_types"), key := Value.str (Str.ofString "_check_arg_types") 305, val := Value.ref 101 }, { hash := PyData.keyHash P (Str.ofString "_get_sep"), key := Value.str (Str.ofString "_get_sep") 314, val := Value.ref 108 }, { hash := PyData.keyHash P (Str.ofString "join"), key := Value.str (Str.ofString "join") 325, val := Value.ref 115 }, { hash := PyData.keyHash P (Str.ofString "split"), key := Value.str (Str.ofString "split") 336, val := Value.ref 122 }, { hash := PyData.keyHash P (Str.ofString "splitroot"), key := Value.str (Str.ofString "splitroot") 345, val := Value.ref 129 }, { hash := PyData.keyHash P (Str.ofString "basename"), key := Value.str (Str.ofString "basename") 354, val := Value.ref 136 }, { hash := PyData.keyHash P (Str.ofString "normpath"), key := Value.str (Str.ofString "normpath") 369, val := Value.ref 143 }, { hash := PyData.keyHash P (Str.ofString "S_IMODE"), key := Value.str (Str.ofString "S_IMODE") 378, val := Value.ref 150 }, { hash := PyData.keyHash P (Str.ofString "S_IFMT"), key := Value.str (Str.ofString "S_IFMT") 385, val := Value.ref 157 }, { hash := PyData.keyHash P (Str.ofString "S_IFDIR"), key := Value.str (Str.ofString "S_IFDIR") 387, val := Value.int 16384 386 }, { hash := PyData.keyHash P (Str.ofString "S_IFCHR"), key := Value.str (Str.ofString "S_IFCHR") 389, val := Value.int 8192 388 }, { hash := PyData.keyHash P (Str.ofString "S_IFBLK"), key := Value.str (Str.ofString "S_IFBLK") 391, val := Value.int 24576 390 }, { hash := PyData.keyHash P (Str.ofString "S_IFREG"), key := Value.str (Str.ofString "S_IFREG") 393, val := Value.int 32768 392 }, { hash := PyData.keyHash P (Str.ofString "S_IFIFO"), key := Value.str (Str.ofString "S_IFIFO") 395, val := Value.int 4096 394 }, { hash := PyData.keyHash P (Str.ofString "S_IFLNK"), key := Value.str (Str.ofString "S_IFLNK") 397, val := Value.int 40960 396 }, { hash := PyData.keyHash P (Str.ofString "S_IFSOCK"), key := Value.str (Str.ofString "S_IFSOCK") 399, val := Value.int 49152 398 }, { hash := PyData.keyHash P (Str.ofString "S_ISDIR"), key := Value.str (Str.ofString "S_ISDIR") 406, val := Value.ref 164 }, { hash := PyData.keyHash P (Str.ofString "S_ISCHR"), key := Value.str (Str.ofString "S_ISCHR") 413, val := Value.ref 171 }, { hash := PyData.keyHash P (Str.ofString "S_ISBLK"), key := Value.str (Str.ofString "S_ISBLK") 420, val := Value.ref 178 }, { hash := PyData.keyHash P (Str.ofString "S_ISREG"), key := Value.str (Str.ofString "S_ISREG") 427, val := Value.ref 185 }, { hash := PyData.keyHash P (Str.ofString "S_ISFIFO"), key := Value.str (Str.ofString "S_ISFIFO") 434, val := Value.ref 192 }, { hash := PyData.keyHash P (Str.ofString "S_ISLNK"), key := Value.str (Str.ofString "S_ISLNK") 441, val := Value.ref 199 }, { hash := PyData.keyHash P (Str.ofString "S_ISSOCK"), key := Value.str (Str.ofString "S_ISSOCK") 448, val := Value.ref 206 }, { hash := PyData.keyHash P (Str.ofString "S_ISDOOR"), key := Value.str (Str.ofString "S_ISDOOR") 455, val := Value.ref 213 }, { hash := PyData.keyHash P (Str.ofString "S_ISPORT"), key := Value.str (Str.ofString "S_ISPORT") 462, val := Value.ref 220 }, { hash := PyData.keyHash P (Str.ofString "S_ISWHT"), key := Value.str (Str.ofString "S_ISWHT") 469, val := Value.ref 227 }, { hash := PyData.keyHash P (Str.ofString "S_ISUID"), key := Value.str (Str.ofString "S_ISUID") 471, val := Value.int 2048 470 }, { hash := PyData.keyHash P (Str.ofString "S_ISGID"), key := Value.str (Str.ofString "S_ISGID") 473, val := Value.int 1024 472 }, { hash := PyData.keyHash P (Str.ofString "S_ISVTX"), key := Value.str (Str.ofString "S_ISVTX") 475, val := Value.int 512 474 }, { hash := PyData.keyHash P (Str.ofString "S_IRUSR"), key := Value.str (Str.ofString "S_IRUSR") 477, val := Value.int 256 476 }, { hash := PyData.keyHash P (Str.ofString "S_IWUSR"), key := Value.str (Str.ofString "S_IWUSR") 479, val := Value.int 128 478 }, { hash := PyData.keyHash P (Str.ofString "S_IXUSR"), key := Value.str (Str.ofString "S_IXUSR") 481, val := Value.int 64 480 }, { hash := PyData.keyHash P (Str.ofString "S_IRGRP"), key := Value.str (Str.ofString "S_IRGRP") 483, val := Value.int 32 482 }, { hash := PyData.keyHash P (Str.ofString "S_IWGRP"), key := Value.str (Str.ofString "S_IWGRP") 485, val := Value.int 16 484 }, { hash := PyData.keyHash P (Str.ofString "S_IXGRP"), key := Value.str (Str.ofString "S_IXGRP") 487, val := Value.int 8 486 }, { hash := PyData.keyHash P (Str.ofString "S_IROTH"), key := Value.str (Str.ofString "S_IROTH") 489, val := Value.int 4 488 }, { hash := PyData.keyHash P (Str.ofString "S_IWOTH"), key := Value.str (Str.ofString "S_IWOTH") 491, val := Value.int 2 490 }, { hash := PyData.keyHash P (Str.ofString "S_IXOTH"), key := Value.str (Str.ofString "S_IXOTH") 493, val := Value.int 1 492 }] 53 }
noncomputable def o_166 (P : Params) : Obj := { cls := Value.none, data := Data.fields #[Value.int 1 0, Value.int 0 0, Value.ref 20, Value.int 5 0, Value.int 0 0, Value.ref 27, Value.int 11 0, Value.int 0 0, Value.ref 34, Value.int 16 0, Value.int 0 0, Value.ref 53, Value.int 31 0, Value.int 0 0, Value.ref 86, Value.int 35 0, Value.int 0 0, Value.ref 93, Value.int 52 0, Value.int 0 0, Value.ref 100, Value.int 64 0, Value.int 0 0, Value.ref 107, Value.int 69 0, Value.int 0 0, Value.ref 114, Value.int 86 0, Value.int 0 0, Value.ref 121, Value.int 94 0, Value.int 0 0, Value.ref 128, Value.int 108 0, Value.int 0 0, Value.ref 135, Value.int 113 0, Value.int 0 0, Value.ref 142, Value.int 139 0, Value.int 0 0, Value.ref 149, Value.int 141 0, Value.int 0 0, Value.ref 156, Value.int 150 0, Value.int 0 0, Value.ref 163, Value.int 152 0, Value.int 0 0, Value.ref 170, Value.int 154 0, Value.int 0 0, Value.ref 177, Value.int 156 0, Value.int 0 0, Value.ref 184, Value.int 158 0, Value.int 0 0, Value.ref 191, Value.int 160 0, Value.int 0 0, Value.ref 198, Value.int 162 0, Value.int 0 0, Value.ref 205, Value.int 164 0, Value.int 0 0, Value.ref 212, Value.int 166 0, Value.int 0 0, Value.ref 219, Value.int 168 0, Value.int 0 0, Value.ref 226] }
noncomputable def o_167 (P : Params) : Obj := { cls := Value.type "tuple", data := Data.seq #[] }
noncomputable def o_168 (P : Params) : Obj := { cls := Value.none, data := Data.fields #[] }
noncomputable def o_169 (P : Params) : Obj := { cls := Value.type "tuple", data := Data.seq #[Value.str (Str.ofString "mode") 410] }
noncomputable def o_170 (P : Params) : Obj := { cls := Value.type "tuple", data := Data.seq #[] }
noncomputable def o_171 (P : Params) : Obj := (fun (a : Arguments) (b : List Stmt) (s : Scope) (_ : fdOf [30] = some (a, b, s)) => ({ cls := Value.none, data := Data.func { name := Str.ofString "S_ISCHR", qualname := Str.ofString "S_ISCHR", params := a, body := FuncBody.stmts b, scope := s, globals := 0, closure := [], defaults := Value.none, kwdefaults := Value.none } } : Obj)) _ _ _ rfl
noncomputable def o_172 (P : Params) : Obj := { cls := Value.type "code", data := Data.fields #[Value.str (Str.ofString "S_ISCHR") 407, Value.str (Str.ofString "S_ISCHR") 408, Value.str (Str.ofString "/claim/cut.py") 409, Value.int 152 0, Value.int 1 0, Value.int 0 0, Value.int 0 0, Value.int 3 0, Value.ref 165, Value.bool true, Value.int 181 0, Value.ref 166, Value.none, Value.ref 167, Value.ref 168, Value.ref 169, Value.int 411 0, Value.int 152 0, Value.str (Str.ofString "/claim/cut.py") 412] }
noncomputable def o_173 (P : Params) : Obj := (fun (a : Arguments) (b : List Stmt) (s : Scope) (_ : fdOf [30] = some (a, b, s)) => ({ cls := Value.type "function", data := Data.func { name := Str.ofString "S_ISCHR", qualname := Str.ofString "S_ISCHR", params := a, body := FuncBody.stmts b, scope := s, globals := 3, closure := [], defaults := Value.none, kwdefaults := Value.none, pyModule := Value.str (Str.ofString "cpy313.stat") 370, code := Value.ref 170 } } : Obj)) _ _ _ rfl
noncomputable def o_174 (P : Params) : Obj := { cls := Value.type "tuple", data := Data.seq #[] }
noncomputable def o_175 (P : Params) : Obj := { cls := Value.none, data := Data.fields #[] }
noncomputable def o_176 (P : Params) : Obj := { cls := Value.type "tuple", data := Data.seq #[Value.str (Str.ofString "mode") 417] }
noncomputable def o_177 (P : Params) : Obj := { cls := Value.type "tuple", data := Data.seq #[] }
noncomputable def o_178 (P : Params) : Obj := (fun (a : Arguments) (b : List Stmt) (s : Scope) (_ : fdOf [31] = some (a, b, s)) => ({ cls := Value.none, data := Data.func { name := Str.ofString "S_ISBLK", qualname := Str.ofString "S_ISBLK", params := a, body := FuncBody.stmts b, scope := s, globals := 0, closure := [], defaults := Value.none, kwdefaults := Value.none } } : Obj)) _ _ _ rfl
noncomputable def o_179 (P : Params) : Obj := { cls := Value.type "code", data := Data.fields #[Value.str (Str.ofString "S_ISBLK") 414, Value.str (Str.ofString "S_ISBLK") 415, Value.str (Str.ofString "/claim/cut.py") 416, Value.int 154 0, Value.int 1 0, Value.int 0 0, Value.int 0 0, Value.int 3 0, Value.ref 172, Value.bool true, Value.int 181 0, Value.ref 173, Value.none, Value.ref 174, Value.ref 175, Value.ref 176, Value.int 418 0, Value.int 154 0, Value.str (Str.ofString "/claim/cut.py") 419] }
noncomputable def o_180 (P : Params) : Obj := (fun (a : Arguments) (b : List Stmt) (s : Scope) (_ : fdOf [31] = some (a, b, s)) => ({ cls := Value.type "function", data := Data.func { name := Str.ofString "S_ISBLK", qualname := Str.ofString "S_ISBLK", params := a, body := FuncBody.stmts b, scope := s, globals := 3, closure := [], defaults := Value.none, kwdefaults := Value.none, pyModule := Value.str (Str.ofString "cpy313.stat") 370, code := Value.ref 177 } } : Obj)) _ _ _ rfl
noncomputable def o_181 (P : Params) : Obj := { cls := Value.type "tuple", data := Data.seq #[] }
noncomputable def o_182 (P : Params) : Obj := { cls := Value.none, data := Data.fields #[] }
noncomputable def o_183 (P : Params) : Obj := { cls := Value.type "tuple", data := Data.seq #[Value.str (Str.ofString "mode") 424] }
noncomputable def o_184 (P : Params) : Obj := { cls := Value.type "tuple", data := Data.seq #[] }
noncomputable def o_185 (P : Params) : Obj := (fun (a : Arguments) (b : List Stmt) (s : Scope) (_ : fdOf [32] = some (a, b, s)) => ({ cls := Value.none, data := Data.func { name := Str.ofString "S_ISREG", qualname := Str.ofString "S_ISREG", params := a, body := FuncBody.stmts b, scope := s, globals := 0, closure := [], defaults := Value.none, kwdefaults := Value.none } } : Obj)) _ _ _ rfl
noncomputable def o_186 (P : Params) : Obj := { cls := Value.type "code", data := Data.fields #[Value.str (Str.ofString "S_ISREG") 421, Value.str (Str.ofString "S_ISREG") 422, Value.str (Str.ofString "/claim/cut.py") 423, Value.int 156 0, Value.int 1 0, Value.int 0 0, Value.int 0 0, Value.int 3 0, Value.ref 179, Value.bool true, Value.int 181 0, Value.ref 180, Value.none, Value.ref 181, Value.ref 182, Value.ref 183, Value.int 425 0, Value.int 156 0, Value.str (Str.ofString "/claim/cut.py") 426] }
noncomputable def o_187 (P : Params) : Obj := (fun (a : Arguments) (b : List Stmt) (s : Scope) (_ : fdOf [32] = some (a, b, s)) => ({ cls := Value.type "function", data := Data.func { name := Str.ofString "S_ISREG", qualname := Str.ofString "S_ISREG", params := a, body := FuncBody.stmts b, scope := s, globals := 3, closure := [], defaults := Value.none, kwdefaults := Value.none, pyModule := Value.str (Str.ofString "cpy313.stat") 370, code := Value.ref 184 } } : Obj)) _ _ _ rfl
noncomputable def o_188 (P : Params) : Obj := { cls := Value.type "tuple", data := Data.seq #[] }
noncomputable def o_189 (P : Params) : Obj := { cls := Value.none, data := Data.fields #[] }
noncomputable def o_190 (P : Params) : Obj := { cls := Value.type "tuple", data := Data.seq #[Value.str (Str.ofString "mode") 431] }
noncomputable def o_191 (P : Params) : Obj := { cls := Value.type "tuple", data := Data.seq #[] }
noncomputable def o_192 (P : Params) : Obj := (fun (a : Arguments) (b : List Stmt) (s : Scope) (_ : fdOf [33] = some (a, b, s)) => ({ cls := Value.none, data := Data.func { name := Str.ofString "S_ISFIFO", qualname := Str.ofString "S_ISFIFO", params := a, body := FuncBody.stmts b, scope := s, globals := 0, closure := [], defaults := Value.none, kwdefaults := Value.none } } : Obj)) _ _ _ rfl
noncomputable def o_193 (P : Params) : Obj := { cls := Value.type "code", data := Data.fields #[Value.str (Str.ofString "S_ISFIFO") 428, Value.str (Str.ofString "S_ISFIFO") 429, Value.str (Str.ofString "/claim/cut.py") 430, Value.int 158 0, Value.int 1 0, Value.int 0 0, Value.int 0 0, Value.int 3 0, Value.ref 186, Value.bool true, Value.int 181 0, Value.ref 187, Value.none, Value.ref 188, Value.ref 189, Value.ref 190, Value.int 432 0, Value.int 158 0, Value.str (Str.ofString "/claim/cut.py") 433] }
noncomputable def o_194 (P : Params) : Obj := (fun (a : Arguments) (b : List Stmt) (s : Scope) (_ : fdOf [33] = some (a, b, s)) => ({ cls := Value.type "function", data := Data.func { name := Str.ofString "S_ISFIFO", qualname := Str.ofString "S_ISFIFO", params := a, body := FuncBody.stmts b, scope := s, globals := 3, closure := [], defaults := Value.none, kwdefaults := Value.none, pyModule := Value.str (Str.ofString "cpy313.stat") 370, code := Value.ref 191 } } : Obj)) _ _ _ rfl
noncomputable def o_195 (P : Params) : Obj := { cls := Value.type "tuple", data := Data.seq #[] }
noncomputable def o_196 (P : Params) : Obj := { cls := Value.none, data := Data.fields #[] }
noncomputable def o_197 (P : Params) : Obj := { cls := Value.type "tuple", data := Data.seq #[Value.str (Str.ofString "mode") 438] }
noncomputable def o_198 (P : Params) : Obj := { cls := Value.type "tuple", data := Data.seq #[] }
noncomputable def o_199 (P : Params) : Obj := (fun (a : Arguments) (b : List Stmt) (s : Scope) (_ : fdOf [34] = some (a, b, s)) => ({ cls := Value.none, data := Data.func { name := Str.ofString "S_ISLNK", qualname := Str.ofString "S_ISLNK", params := a, body := FuncBody.stmts b, scope := s, globals := 0, closure := [], defaults := Value.none, kwdefaults := Value.none } } : Obj)) _ _ _ rfl
noncomputable def o_200 (P : Params) : Obj := { cls := Value.type "code", data := Data.fields #[Value.str (Str.ofString "S_ISLNK") 435, Value.str (Str.ofString "S_ISLNK") 436, Value.str (Str.ofString "/claim/cut.py") 437, Value.int 160 0, Value.int 1 0, Value.int 0 0, Value.int 0 0, Value.int 3 0, Value.ref 193, Value.bool true, Value.int 181 0, Value.ref 194, Value.none, Value.ref 195, Value.ref 196, Value.ref 197, Value.int 439 0, Value.int 160 0, Value.str (Str.ofString "/claim/cut.py") 440] }
noncomputable def o_201 (P : Params) : Obj := (fun (a : Arguments) (b : List Stmt) (s : Scope) (_ : fdOf [34] = some (a, b, s)) => ({ cls := Value.type "function", data := Data.func { name := Str.ofString "S_ISLNK", qualname := Str.ofString "S_ISLNK", params := a, body := FuncBody.stmts b, scope := s, globals := 3, closure := [], defaults := Value.none, kwdefaults := Value.none, pyModule := Value.str (Str.ofString "cpy313.stat") 370, code := Value.ref 198 } } : Obj)) _ _ _ rfl
noncomputable def o_202 (P : Params) : Obj := { cls := Value.type "tuple", data := Data.seq #[] }
noncomputable def o_203 (P : Params) : Obj := { cls := Value.none, data := Data.fields #[] }
noncomputable def o_204 (P : Params) : Obj := { cls := Value.type "tuple", data := Data.seq #[Value.str (Str.ofString "mode") 445] }
noncomputable def o_205 (P : Params) : Obj := { cls := Value.type "tuple", data := Data.seq #[] }
noncomputable def o_206 (P : Params) : Obj := (fun (a : Arguments) (b : List Stmt) (s : Scope) (_ : fdOf [35] = some (a, b, s)) => ({ cls := Value.none, data := Data.func { name := Str.ofString "S_ISSOCK", qualname := Str.ofString "S_ISSOCK", params := a, body := FuncBody.stmts b, scope := s, globals := 0, closure := [], defaults := Value.none, kwdefaults := Value.none } } : Obj)) _ _ _ rfl
noncomputable def o_207 (P : Params) : Obj := { cls := Value.type "code", data := Data.fields #[Value.str (Str.ofString "S_ISSOCK") 442, Value.str (Str.ofString "S_ISSOCK") 443, Value.str (Str.ofString "/claim/cut.py") 444, Value.int 162 0, Value.int 1 0, Value.int 0 0, Value.int 0 0, Value.int 3 0, Value.ref 200, Value.bool true, Value.int 181 0, Value.ref 201, Value.none, Value.ref 202, Value.ref 203, Value.ref 204, Value.int 446 0, Value.int 162 0, Value.str (Str.ofString "/claim/cut.py") 447] }
noncomputable def o_208 (P : Params) : Obj := (fun (a : Arguments) (b : List Stmt) (s : Scope) (_ : fdOf [35] = some (a, b, s)) => ({ cls := Value.type "function", data := Data.func { name := Str.ofString "S_ISSOCK", qualname := Str.ofString "S_ISSOCK", params := a, body := FuncBody.stmts b, scope := s, globals := 3, closure := [], defaults := Value.none, kwdefaults := Value.none, pyModule := Value.str (Str.ofString "cpy313.stat") 370, code := Value.ref 205 } } : Obj)) _ _ _ rfl
noncomputable def o_209 (P : Params) : Obj := { cls := Value.type "tuple", data := Data.seq #[] }
noncomputable def o_210 (P : Params) : Obj := { cls := Value.none, data := Data.fields #[] }
noncomputable def o_211 (P : Params) : Obj := { cls := Value.type "tuple", data := Data.seq #[Value.str (Str.ofString "mode") 452] }
noncomputable def o_212 (P : Params) : Obj := { cls := Value.type "tuple", data := Data.seq #[] }
noncomputable def o_213 (P : Params) : Obj := (fun (a : Arguments) (b : List Stmt) (s : Scope) (_ : fdOf [36] = some (a, b, s)) => ({ cls := Value.none, data := Data.func { name := Str.ofString "S_ISDOOR", qualname := Str.ofString "S_ISDOOR", params := a, body := FuncBody.stmts b, scope := s, globals := 0, closure := [], defaults := Value.none, kwdefaults := Value.none } } : Obj)) _ _ _ rfl
noncomputable def o_214 (P : Params) : Obj := { cls := Value.type "code", data := Data.fields #[Value.str (Str.ofString "S_ISDOOR") 449, Value.str (Str.ofString "S_ISDOOR") 450, Value.str (Str.ofString "/claim/cut.py") 451, Value.int 164 0, Value.int 1 0, Value.int 0 0, Value.int 0 0, Value.int 3 0, Value.ref 207, Value.bool true, Value.int 181 0, Value.ref 208, Value.none, Value.ref 209, Value.ref 210, Value.ref 211, Value.int 453 0, Value.int 164 0, Value.str (Str.ofString "/claim/cut.py") 454] }
noncomputable def o_215 (P : Params) : Obj := (fun (a : Arguments) (b : List Stmt) (s : Scope) (_ : fdOf [36] = some (a, b, s)) => ({ cls := Value.type "function", data := Data.func { name := Str.ofString "S_ISDOOR", qualname := Str.ofString "S_ISDOOR", params := a, body := FuncBody.stmts b, scope := s, globals := 3, closure := [], defaults := Value.none, kwdefaults := Value.none, pyModule := Value.str (Str.ofString "cpy313.stat") 370, code := Value.ref 212 } } : Obj)) _ _ _ rfl
noncomputable def o_216 (P : Params) : Obj := { cls := Value.type "tuple", data := Data.seq #[] }
noncomputable def o_217 (P : Params) : Obj := { cls := Value.none, data := Data.fields #[] }
noncomputable def o_218 (P : Params) : Obj := { cls := Value.type "tuple", data := Data.seq #[Value.str (Str.ofString "mode") 459] }
noncomputable def o_219 (P : Params) : Obj := { cls := Value.type "tuple", data := Data.seq #[] }
noncomputable def o_220 (P : Params) : Obj := (fun (a : Arguments) (b : List Stmt) (s : Scope) (_ : fdOf [37] = some (a, b, s)) => ({ cls := Value.none, data := Data.func { name := Str.ofString "S_ISPORT", qualname := Str.ofString "S_ISPORT", params := a, body := FuncBody.stmts b, scope := s, globals := 0, closure := [], defaults := Value.none, kwdefaults := Value.none } } : Obj)) _ _ _ rfl
noncomputable def o_221 (P : Params) : Obj := { cls := Value.type "code", data := Data.fields #[Value.str (Str.ofString "S_ISPORT") 456, Value.str (Str.ofString "S_ISPORT") 457, Value.str (Str.ofString "/claim/cut.py") 458, Value.int 166 0, Value.int 1 0, Value.int 0 0, Value.int 0 0, Value.int 3 0, Value.ref 214, Value.bool true, Value.int 181 0, Value.ref 215, Value.none, Value.ref 216, Value.ref 217, Value.ref 218, Value.int 460 0, Value.int 166 0, Value.str (Str.ofString "/claim/cut.py") 461] }
noncomputable def o_222 (P : Params) : Obj := (fun (a : Arguments) (b : List Stmt) (s : Scope) (_ : fdOf [37] = some (a, b, s)) => ({ cls := Value.type "function", data := Data.func { name := Str.ofString "S_ISPORT", qualname := Str.ofString "S_ISPORT", params := a, body := FuncBody.stmts b, scope := s, globals := 3, closure := [], defaults := Value.none, kwdefaults := Value.none, pyModule := Value.str (Str.ofString "cpy313.stat") 370, code := Value.ref 219 } } : Obj)) _ _ _ rfl
noncomputable def o_223 (P : Params) : Obj := { cls := Value.type "tuple", data := Data.seq #[] }
noncomputable def o_224 (P : Params) : Obj := { cls := Value.none, data := Data.fields #[] }
noncomputable def o_225 (P : Params) : Obj := { cls := Value.type "tuple", data := Data.seq #[Value.str (Str.ofString "mode") 466] }
noncomputable def o_226 (P : Params) : Obj := { cls := Value.type "tuple", data := Data.seq #[] }
noncomputable def o_227 (P : Params) : Obj := (fun (a : Arguments) (b : List Stmt) (s : Scope) (_ : fdOf [38] = some (a, b, s)) => ({ cls := Value.none, data := Data.func { name := Str.ofString "S_ISWHT", qualname := Str.ofString "S_ISWHT", params := a, body := FuncBody.stmts b, scope := s, globals := 0, closure := [], defaults := Value.none, kwdefaults := Value.none } } : Obj)) _ _ _ rfl
noncomputable def o_228 (P : Params) : Obj := { cls := Value.type "code", data := Data.fields #[Value.str (Str.ofString "S_ISWHT") 463, Value.str (Str.ofString "S_ISWHT") 464, Value.str (Str.ofString "/claim/cut.py") 465, Value.int 168 0, Value.int 1 0, Value.int 0 0, Value.int 0 0, Value.int 3 0, Value.ref 221, Value.bool true, Value.int 181 0, Value.ref 222, Value.none, Value.ref 223, Value.ref 224, Value.ref 225, Value.int 467 0, Value.int 168 0, Value.str (Str.ofString "/claim/cut.py") 468] }
noncomputable def o_229 (P : Params) : Obj := (fun (a : Arguments) (b : List Stmt) (s : Scope) (_ : fdOf [38] = some (a, b, s)) => ({ cls := Value.type "function", data := Data.func { name := Str.ofString "S_ISWHT", qualname := Str.ofString "S_ISWHT", params := a, body := FuncBody.stmts b, scope := s, globals := 3, closure := [], defaults := Value.none, kwdefaults := Value.none, pyModule := Value.str (Str.ofString "cpy313.stat") 370, code := Value.ref 226 } } : Obj)) _ _ _ rfl
noncomputable def o_231 (P : Params) : Obj := { cls := Value.type "dict", data := Data.dict #[{ hash := PyData.keyHash P (Str.ofString "__name__"), key := Value.str (Str.ofString "__name__") 165, val := Value.str (Str.ofString "law_pd0061_01") 532 }, { hash := PyData.keyHash P (Str.ofString "__doc__"), key := Value.str (Str.ofString "__doc__") 166, val := Value.none }, { hash := PyData.keyHash P (Str.ofString "__package__"), key := Value.str (Str.ofString "__package__") 167, val := Value.none }, { hash := PyData.keyHash P (Str.ofString "__loader__"), key := Value.str (Str.ofString "__loader__") 168, val := Value.builtin "__main__.__loader__#opaque" }, { hash := PyData.keyHash P (Str.ofString "__spec__"), key := Value.str (Str.ofString "__spec__") 169, val := Value.none }, { hash := PyData.keyHash P (Str.ofString "__annotations__"), key := Value.str (Str.ofString "__annotations__") 170, val := Value.ref 6 }, { hash := PyData.keyHash P (Str.ofString "__builtins__"), key := Value.str (Str.ofString "__builtins__") 171, val := Value.ref 4 }, { hash := PyData.keyHash P (Str.ofString "__file__"), key := Value.str (Str.ofString "__file__") 173, val := Value.str (Str.ofString "/claim/cut.py") 172 }, { hash := PyData.keyHash P (Str.ofString "__cached__"), key := Value.str (Str.ofString "__cached__") 174, val := Value.none }, { hash := PyData.keyHash P (Str.ofString "_wall"), key := Value.str (Str.ofString "_wall") 193, val := Value.ref 21 }, { hash := PyData.keyHash P (Str.ofString "_plain_name"), key := Value.str (Str.ofString "_plain_name") 204, val := Value.ref 28 }, { hash := PyData.keyHash P (Str.ofString "ABCMeta"), key := Value.str (Str.ofString "ABCMeta") 230, val := Value.ref 45 }, { hash := PyData.keyHash P (Str.ofString "_ABCLike"), key := Value.str (Str.ofString "_ABCLike") 273, val := Value.ref 78 }, { hash := PyData.keyHash P (Str.ofString "_abc_plain_meta"), key := Value.str (Str.ofString "_abc_plain_meta") 280, val := Value.ref 87 }, { hash := PyData.keyHash P (Str.ofString "fspath"), key := Value.str (Str.ofString "fspath") 292, val := Value.ref 94 }, { hash := PyData.keyHash P (Str.ofString "_check_arg_types"), key := Value.str (Str.ofString "_check_arg_types") 305, val := Value.ref 101 }, { hash := PyData.keyHash P (Str.ofString "_get_sep"), key := Value.str (Str.ofString "_get_sep") 314, val := Value.ref 108 }, { hash := PyData.keyHash P (Str.ofString "join"), key := Value.str (Str.ofString "join") 325, val := Value.ref 115 }, { hash := PyData.keyHash P (Str.ofString "split"), key := Value.str (Str.ofString "split") 336, val := Value.ref 122 }, { hash := PyData.keyHash P (Str.ofString "splitroot"), key := Value.str (Str.ofString "splitroot") 345, val := Value.ref 129 }, { hash := PyData.keyHash P (Str.ofString "basename"), key := Value.str (Str.ofString "basename") 354, val := Value.ref 136 }, { hash := PyData.keyHash P (Str.ofString "normpath"), key := Value.str (Str.ofString "normpath") 369, val := Value.ref 143 }, { hash := PyData.keyHash P (Str.ofString "S_IMODE"), key := Value.str (Str.ofString "S_IMODE") 378, val := Value.ref 150 }, { hash := PyData.keyHash P (Str.ofString "S_IFMT"), key := Value.str (Str.ofString "S_IFMT") 385, val := Value.ref 157 }, { hash := PyData.keyHash P (Str.ofString "S_IFDIR"), key := Value.str (Str.ofString "S_IFDIR") 387, val := Value.int 16384 386 }, { hash := PyData.keyHash P (Str.ofString "S_IFCHR"), key := Value.str (Str.ofString "S_IFCHR") 389, val := Value.int 8192 388 }, { hash := PyData.keyHash P (Str.ofString "S_IFBLK"), key := Value.str (Str.ofString "S_IFBLK") 391, val := Value.int 24576 390 }, { hash := PyData.keyHash P (Str.ofString "S_IFREG"), key := Value.str (Str.ofString "S_IFREG") 393, val := Value.int 32768 392 }, { hash := PyData.keyHash P (Str.ofString "S_IFIFO"), key := Value.str (Str.ofString "S_IFIFO") 395, val := Value.int 4096 394 }, { hash := PyData.keyHash P (Str.ofString "S_IFLNK"), key := Value.str (Str.ofString "S_IFLNK") 397, val := Value.int 40960 396 }, { hash := PyData.keyHash P (Str.ofString "S_IFSOCK"), key := Value.str (Str.ofString "S_IFSOCK") 399, val := Value.int 49152 398 }, { hash := PyData.keyHash P (Str.ofString "S_ISDIR"), key := Value.str (Str.ofString "S_ISDIR") 406, val := Value.ref 164 }, { hash := PyData.keyHash P (Str.ofString "S_ISCHR"), key := Value.str (Str.ofString "S_ISCHR") 413, val := Value.ref 171 }, { hash := PyData.keyHash P (Str.ofString "S_ISBLK"), key := Value.str (Str.ofString "S_ISBLK") 420, val := Value.ref 178 }, { hash := PyData.keyHash P (Str.ofString "S_ISREG"), key := Value.str (Str.ofString "S_ISREG") 427, val := Value.ref 185 }, { hash := PyData.keyHash P (Str.ofString "S_ISFIFO"), key := Value.str (Str.ofString "S_ISFIFO") 434, val := Value.ref 192 }, { hash := PyData.keyHash P (Str.ofString "S_ISLNK"), key := Value.str (Str.ofString "S_ISLNK") 441, val := Value.ref 199 }, { hash := PyData.keyHash P (Str.ofString "S_ISSOCK"), key := Value.str (Str.ofString "S_ISSOCK") 448, val := Value.ref 206 }, { hash := PyData.keyHash P (Str.ofString "S_ISDOOR"), key := Value.str (Str.ofString "S_ISDOOR") 455, val := Value.ref 213 }, { hash := PyData.keyHash P (Str.ofString "S_ISPORT"), key := Value.str (Str.ofString "S_ISPORT") 462, val := Value.ref 220 }, { hash := PyData.keyHash P (Str.ofString "S_ISWHT"), key := Value.str (Str.ofString "S_ISWHT") 469, val := Value.ref 227 }, { hash := PyData.keyHash P (Str.ofString "S_ISUID"), key := Value.str (Str.ofString "S_ISUID") 471, val := Value.int 2048 470 }, { hash := PyData.keyHash P (Str.ofString "S_ISGID"), key := Value.str (Str.ofString "S_ISGID") 473, val := Value.int 1024 472 }, { hash := PyData.keyHash P (Str.ofString "S_ISVTX"), key := Value.str (Str.ofString "S_ISVTX") 475, val := Value.int 512 474 }, { hash := PyData.keyHash P (Str.ofString "S_IRUSR"), key := Value.str (Str.ofString "S_IRUSR") 477, val := Value.int 256 476 }, { hash := PyData.keyHash P (Str.ofString "S_IWUSR"), key := Value.str (Str.ofString "S_IWUSR") 479, val := Value.int 128 478 }, { hash := PyData.keyHash P (Str.ofString "S_IXUSR"), key := Value.str (Str.ofString "S_IXUSR") 481, val := Value.int 64 480 }, { hash := PyData.keyHash P (Str.ofString "S_IRGRP"), key := Value.str (Str.ofString "S_IRGRP") 483, val := Value.int 32 482 }, { hash := PyData.keyHash P (Str.ofString "S_IWGRP"), key := Value.str (Str.ofString "S_IWGRP") 485, val := Value.int 16 484 }, { hash := PyData.keyHash P (Str.ofString "S_IXGRP"), key := Value.str (Str.ofString "S_IXGRP") 487, val := Value.int 8 486 }, { hash := PyData.keyHash P (Str.ofString "S_IROTH"), key := Value.str (Str.ofString "S_IROTH") 489, val := Value.int 4 488 }, { hash := PyData.keyHash P (Str.ofString "S_IWOTH"), key := Value.str (Str.ofString "S_IWOTH") 491, val := Value.int 2 490 }, { hash := PyData.keyHash P (Str.ofString "S_IXOTH"), key := Value.str (Str.ofString "S_IXOTH") 493, val := Value.int 1 492 }, { hash := PyData.keyHash P (Str.ofString "_filemode_table"), key := Value.str (Str.ofString "_filemode_table") 519, val := Value.ref 260 }, { hash := PyData.keyHash P (Str.ofString "filemode"), key := Value.str (Str.ofString "filemode") 531, val := Value.ref 267 }, { hash := PyData.keyHash P (Str.ofString "_law_drawn"), key := Value.str (Str.ofString "_law_drawn") 542, val := Value.ref 274 }, { hash := PyData.keyHash P (Str.ofString "_law_read"), key := Value.str (Str.ofString "_law_read") 551, val := Value.ref 281 }, { hash := PyData.keyHash P (Str.ofString "_law_step"), key := Value.str (Str.ofString "_law_step") 557, val := Value.ref 286 }, { hash := PyData.keyHash P (Str.ofString "_law_walk"), key := Value.str (Str.ofString "_law_walk") 567, val := Value.ref 293 }, { hash := PyData.keyHash P (Str.ofString "_law_climbed"), key := Value.str (Str.ofString "_law_climbed") 577, val := Value.ref 300 }, { hash := PyData.keyHash P (Str.ofString "_law_signs"), key := Value.str (Str.ofString "_law_signs") 588, val := Value.ref 307 }] 61 }
noncomputable def o_232 (P : Params) : Obj := { cls := Value.none, data := Data.fields #[Value.int 1 0, Value.int 0 0, Value.ref 20, Value.int 5 0, Value.int 0 0, Value.ref 27, Value.int 11 0, Value.int 0 0, Value.ref 34, Value.int 16 0, Value.int 0 0, Value.ref 53, Value.int 31 0, Value.int 0 0, Value.ref 86, Value.int 35 0, Value.int 0 0, Value.ref 93, Value.int 52 0, Value.int 0 0, Value.ref 100, Value.int 64 0, Value.int 0 0, Value.ref 107, Value.int 69 0, Value.int 0 0, Value.ref 114, Value.int 86 0, Value.int 0 0, Value.ref 121, Value.int 94 0, Value.int 0 0, Value.ref 128, Value.int 108 0, Value.int 0 0, Value.ref 135, Value.int 113 0, Value.int 0 0, Value.ref 142, Value.int 139 0, Value.int 0 0, Value.ref 149, Value.int 141 0, Value.int 0 0, Value.ref 156, Value.int 150 0, Value.int 0 0, Value.ref 163, Value.int 152 0, Value.int 0 0, Value.ref 170, Value.int 154 0, Value.int 0 0, Value.ref 177, Value.int 156 0, Value.int 0 0, Value.ref 184, Value.int 158 0, Value.int 0 0, Value.ref 191, Value.int 160 0, Value.int 0 0, Value.ref 198, Value.int 162 0, Value.int 0 0, Value.ref 205, Value.int 164 0, Value.int 0 0, Value.ref 212, Value.int 166 0, Value.int 0 0, Value.ref 219, Value.int 168 0, Value.int 0 0, Value.ref 226, Value.int 183 0, Value.int 0 0, Value.ref 266, Value.int 201 0, Value.int 0 0, Value.ref 273, Value.int 205 0, Value.int 0 0, Value.ref 280, Value.int 213 0, Value.int 0 0, Value.ref 285, Value.int 231 0, Value.int 0 0, Value.ref 292, Value.int 236 0, Value.int 0 0, Value.ref 299, Value.int 243 0, Value.int 0 0, Value.ref 306] }
noncomputable def o_233 (P : Params) : Obj := { cls := Value.type "tuple", data := Data.seq #[Value.int 40960 396, Value.str (Str.ofString "l") 494] }
noncomputable def o_234 (P : Params) : Obj := { cls := Value.type "tuple", data := Data.seq #[Value.int 49152 398, Value.str (Str.ofString "s") 495] }
noncomputable def o_235 (P : Params) : Obj := { cls := Value.type "tuple", data := Data.seq #[Value.int 32768 392, Value.str (Str.ofString "-") 496] }
noncomputable def o_236 (P : Params) : Obj := { cls := Value.type "tuple", data := Data.seq #[Value.int 24576 390, Value.str (Str.ofString "b") 497] }
noncomputable def o_237 (P : Params) : Obj := { cls := Value.type "tuple", data := Data.seq #[Value.int 16384 386, Value.str (Str.ofString "d") 498] }
noncomputable def o_238 (P : Params) : Obj := { cls := Value.type "tuple", data := Data.seq #[Value.int 8192 388, Value.str (Str.ofString "c") 499] }
noncomputable def o_239 (P : Params) : Obj := { cls := Value.type "tuple", data := Data.seq #[Value.int 4096 394, Value.str (Str.ofString "p") 500] }
noncomputable def o_240 (P : Params) : Obj := { cls := Value.type "tuple", data := Data.seq #[Value.ref 228, Value.ref 229, Value.ref 230, Value.ref 231, Value.ref 232, Value.ref 233, Value.ref 234] }
noncomputable def o_241 (P : Params) : Obj := { cls := Value.type "tuple", data := Data.seq #[Value.int 256 476, Value.str (Str.ofString "r") 501] }
noncomputable def o_242 (P : Params) : Obj := { cls := Value.type "tuple", data := Data.seq #[Value.ref 236] }
noncomputable def o_243 (P : Params) : Obj := { cls := Value.type "tuple", data := Data.seq #[Value.int 128 478, Value.str (Str.ofString "w") 502] }
noncomputable def o_244 (P : Params) : Obj := { cls := Value.type "tuple", data := Data.seq #[Value.ref 238] }
noncomputable def o_245 (P : Params) : Obj := { cls := Value.type "tuple", data := Data.seq #[Value.int 2112 503, Value.str (Str.ofString "s") 504] }
noncomputable def o_246 (P : Params) : Obj := { cls := Value.type "tuple", data := Data.seq #[Value.int 2048 470, Value.str (Str.ofString "S") 505] }
noncomputable def o_247 (P : Params) : Obj := { cls := Value.type "tuple", data := Data.seq #[Value.int 64 480, Value.str (Str.ofString "x") 506] }
noncomputable def o_248 (P : Params) : Obj := { cls := Value.type "tuple", data := Data.seq #[Value.ref 240, Value.ref 241, Value.ref 242] }
noncomputable def o_249 (P : Params) : Obj := { cls := Value.type "tuple", data := Data.seq #[Value.int 32 482, Value.str (Str.ofString "r") 507] }
noncomputable def o_250 (P : Params) : Obj := { cls := Value.type "tuple", data := Data.seq #[Value.ref 244] }
noncomputable def o_251 (P : Params) : Obj := { cls := Value.type "tuple", data := Data.seq #[Value.int 16 484, Value.str (Str.ofString "w") 508] }
noncomputable def o_252 (P : Params) : Obj := { cls := Value.type "tuple", data := Data.seq #[Value.ref 246] }
noncomputable def o_253 (P : Params) : Obj := { cls := Value.type "tuple", data := Data.seq #[Value.int 1032 509, Value.str (Str.ofString "s") 510] }
noncomputable def o_254 (P : Params) : Obj := { cls := Value.type "tuple", data := Data.seq #[Value.int 1024 472, Value.str (Str.ofString "S") 511] }
noncomputable def o_255 (P : Params) : Obj := { cls := Value.type "tuple", data := Data.seq #[Value.int 8 486, Value.str (Str.ofString "x") 512] }
noncomputable def o_256 (P : Params) : Obj := { cls := Value.type "tuple", data := Data.seq #[Value.ref 248, Value.ref 249, Value.ref 250] }
noncomputable def o_257 (P : Params) : Obj := { cls := Value.type "tuple", data := Data.seq #[Value.int 4 488, Value.str (Str.ofString "r") 513] }
noncomputable def o_258 (P : Params) : Obj := { cls := Value.type "tuple", data := Data.seq #[Value.ref 252] }
noncomputable def o_259 (P : Params) : Obj := { cls := Value.type "tuple", data := Data.seq #[Value.int 2 490, Value.str (Str.ofString "w") 514] }
noncomputable def o_260 (P : Params) : Obj := { cls := Value.type "tuple", data := Data.seq #[Value.ref 254] }
noncomputable def o_261 (P : Params) : Obj := { cls := Value.type "tuple", data := Data.seq #[Value.int 513 515, Value.str (Str.ofString "t") 516] }
noncomputable def o_262 (P : Params) : Obj := { cls := Value.type "tuple", data := Data.seq #[Value.int 512 474, Value.str (Str.ofString "T") 517] }
noncomputable def o_263 (P : Params) : Obj := { cls := Value.type "tuple", data := Data.seq #[Value.int 1 492, Value.str (Str.ofString "x") 518] }
noncomputable def o_264 (P : Params) : Obj := { cls := Value.type "tuple", data := Data.seq #[Value.ref 256, Value.ref 257, Value.ref 258] }
noncomputable def o_265 (P : Params) : Obj := { cls := Value.type "tuple", data := Data.seq #[Value.ref 235, Value.ref 237, Value.ref 239, Value.ref 243, Value.ref 245, Value.ref 247, Value.ref 251, Value.ref 253, Value.ref 255, Value.ref 259] }
noncomputable def o_266 (P : Params) : Obj := { cls := Value.type "tuple", data := Data.seq #[] }
noncomputable def o_267 (P : Params) : Obj := { cls := Value.none, data := Data.fields #[] }
noncomputable def o_268 (P : Params) : Obj := { cls := Value.type "tuple", data := Data.seq #[Value.str (Str.ofString "mode") 523, Value.str (Str.ofString "perm") 524, Value.str (Str.ofString "index") 525, Value.str (Str.ofString "table") 526, Value.str (Str.ofString "bit") 527, Value.str (Str.ofString "char") 528] }
noncomputable def o_269 (P : Params) : Obj := { cls := Value.type "tuple", data := Data.seq #[] }
noncomputable def o_270 (P : Params) : Obj := (fun (a : Arguments) (b : List Stmt) (s : Scope) (_ : fdOf [52] = some (a, b, s)) => ({ cls := Value.none, data := Data.func { name := Str.ofString "filemode", qualname := Str.ofString "filemode", params := a, body := FuncBody.stmts b, scope := s, globals := 0, closure := [], defaults := Value.none, kwdefaults := Value.none } } : Obj)) _ _ _ rfl
noncomputable def o_271 (P : Params) : Obj := { cls := Value.type "code", data := Data.fields #[Value.str (Str.ofString "filemode") 520, Value.str (Str.ofString "filemode") 521, Value.str (Str.ofString "/claim/cut.py") 522, Value.int 183 0, Value.int 1 0, Value.int 0 0, Value.int 0 0, Value.int 3 0, Value.ref 261, Value.bool true, Value.int 181 0, Value.ref 262, Value.none, Value.ref 263, Value.ref 264, Value.ref 265, Value.int 529 0, Value.int 183 0, Value.str (Str.ofString "/claim/cut.py") 530] }
noncomputable def o_272 (P : Params) : Obj := (fun (a : Arguments) (b : List Stmt) (s : Scope) (_ : fdOf [52] = some (a, b, s)) => ({ cls := Value.type "function", data := Data.func { name := Str.ofString "filemode", qualname := Str.ofString "filemode", params := a, body := FuncBody.stmts b, scope := s, globals := 3, closure := [], defaults := Value.none, kwdefaults := Value.none, pyModule := Value.str (Str.ofString "cpy313.stat") 370, code := Value.ref 266 } } : Obj)) _ _ _ rfl
noncomputable def o_273 (P : Params) : Obj := { cls := Value.type "tuple", data := Data.seq #[] }
noncomputable def o_274 (P : Params) : Obj := { cls := Value.none, data := Data.fields #[] }
noncomputable def o_275 (P : Params) : Obj := { cls := Value.type "tuple", data := Data.seq #[Value.str (Str.ofString "number") 537, Value.str (Str.ofString "rest") 538, Value.str (Str.ofString "kind") 539] }
noncomputable def o_276 (P : Params) : Obj := { cls := Value.type "tuple", data := Data.seq #[] }
noncomputable def o_277 (P : Params) : Obj := (fun (a : Arguments) (b : List Stmt) (s : Scope) (_ : fdOf [54] = some (a, b, s)) => ({ cls := Value.none, data := Data.func { name := Str.ofString "_law_drawn", qualname := Str.ofString "_law_drawn", params := a, body := FuncBody.stmts b, scope := s, globals := 0, closure := [], defaults := Value.none, kwdefaults := Value.none } } : Obj)) _ _ _ rfl
noncomputable def o_278 (P : Params) : Obj := { cls := Value.type "code", data := Data.fields #[Value.str (Str.ofString "_law_drawn") 534, Value.str (Str.ofString "_law_drawn") 535, Value.str (Str.ofString "/claim/cut.py") 536, Value.int 201 0, Value.int 1 0, Value.int 0 0, Value.int 0 0, Value.int 3 0, Value.ref 268, Value.bool true, Value.int 181 0, Value.ref 269, Value.none, Value.ref 270, Value.ref 271, Value.ref 272, Value.int 540 0, Value.int 201 0, Value.str (Str.ofString "/claim/cut.py") 541] }
noncomputable def o_279 (P : Params) : Obj := (fun (a : Arguments) (b : List Stmt) (s : Scope) (_ : fdOf [54] = some (a, b, s)) => ({ cls := Value.type "function", data := Data.func { name := Str.ofString "_law_drawn", qualname := Str.ofString "_law_drawn", params := a, body := FuncBody.stmts b, scope := s, globals := 3, closure := [], defaults := Value.none, kwdefaults := Value.none, pyModule := Value.str (Str.ofString "law_pd0061_01") 532, code := Value.ref 273 } } : Obj)) _ _ _ rfl
noncomputable def o_280 (P : Params) : Obj := { cls := Value.type "tuple", data := Data.seq #[] }
noncomputable def o_281 (P : Params) : Obj := { cls := Value.none, data := Data.fields #[] }
noncomputable def o_282 (P : Params) : Obj := { cls := Value.type "tuple", data := Data.seq #[Value.str (Str.ofString "name") 546, Value.str (Str.ofString "mode") 547, Value.str (Str.ofString "place") 548] }
noncomputable def o_283 (P : Params) : Obj := { cls := Value.type "tuple", data := Data.seq #[] }
noncomputable def o_284 (P : Params) : Obj := (fun (a : Arguments) (b : List Stmt) (s : Scope) (_ : fdOf [55] = some (a, b, s)) => ({ cls := Value.none, data := Data.func { name := Str.ofString "_law_read", qualname := Str.ofString "_law_read", params := a, body := FuncBody.stmts b, scope := s, globals := 0, closure := [], defaults := Value.none, kwdefaults := Value.none } } : Obj)) _ _ _ rfl
noncomputable def o_285 (P : Params) : Obj := { cls := Value.type "code", data := Data.fields #[Value.str (Str.ofString "_law_read") 543, Value.str (Str.ofString "_law_read") 544, Value.str (Str.ofString "/claim/cut.py") 545, Value.int 205 0, Value.int 1 0, Value.int 0 0, Value.int 0 0, Value.int 3 0, Value.ref 275, Value.bool true, Value.int 181 0, Value.ref 276, Value.none, Value.ref 277, Value.ref 278, Value.ref 279, Value.int 549 0, Value.int 205 0, Value.str (Str.ofString "/claim/cut.py") 550] }
noncomputable def o_286 (P : Params) : Obj := (fun (a : Arguments) (b : List Stmt) (s : Scope) (_ : fdOf [55] = some (a, b, s)) => ({ cls := Value.type "function", data := Data.func { name := Str.ofString "_law_read", qualname := Str.ofString "_law_read", params := a, body := FuncBody.stmts b, scope := s, globals := 3, closure := [], defaults := Value.none, kwdefaults := Value.none, pyModule := Value.str (Str.ofString "law_pd0061_01") 532, code := Value.ref 280 } } : Obj)) _ _ _ rfl
noncomputable def o_287 (P : Params) : Obj := { cls := Value.type "tuple", data := Data.seq #[] }
noncomputable def o_288 (P : Params) : Obj := { cls := Value.none, data := Data.fields #[] }
noncomputable def o_289 (P : Params) : Obj := (fun (a : Arguments) (b : List Stmt) (s : Scope) (_ : fdOf [56] = some (a, b, s)) => ({ cls := Value.none, data := Data.func { name := Str.ofString "_law_step", qualname := Str.ofString "_law_step", params := a, body := FuncBody.stmts b, scope := s, globals := 0, closure := [], defaults := Value.none, kwdefaults := Value.none } } : Obj)) _ _ _ rfl
noncomputable def o_290 (P : Params) : Obj := { cls := Value.type "code", data := Data.fields #[Value.str (Str.ofString "_law_step") 552, Value.str (Str.ofString "_law_step") 553, Value.str (Str.ofString "/claim/cut.py") 554, Value.int 213 0, Value.int 2 0, Value.int 0 0, Value.int 0 0, Value.int 3 0, Value.ref 282, Value.bool true, Value.int 181 0, Value.ref 283, Value.none, Value.none, Value.none, Value.ref 284, Value.int 555 0, Value.int 213 0, Value.str (Str.ofString "/claim/cut.py") 556] }
noncomputable def o_291 (P : Params) : Obj := (fun (a : Arguments) (b : List Stmt) (s : Scope) (_ : fdOf [56] = some (a, b, s)) => ({ cls := Value.type "function", data := Data.func { name := Str.ofString "_law_step", qualname := Str.ofString "_law_step", params := a, body := FuncBody.stmts b, scope := s, globals := 3, closure := [], defaults := Value.none, kwdefaults := Value.none, pyModule := Value.str (Str.ofString "law_pd0061_01") 532, code := Value.ref 285 } } : Obj)) _ _ _ rfl
noncomputable def o_292 (P : Params) : Obj := { cls := Value.type "tuple", data := Data.seq #[] }
noncomputable def o_293 (P : Params) : Obj := { cls := Value.none, data := Data.fields #[] }
noncomputable def o_294 (P : Params) : Obj := { cls := Value.type "tuple", data := Data.seq #[Value.str (Str.ofString "start") 561, Value.str (Str.ofString "numbers") 562, Value.str (Str.ofString "paths") 563, Value.str (Str.ofString "number") 564] }
noncomputable def o_295 (P : Params) : Obj := { cls := Value.type "tuple", data := Data.seq #[] }
noncomputable def o_296 (P : Params) : Obj := (fun (a : Arguments) (b : List Stmt) (s : Scope) (_ : fdOf [57] = some (a, b, s)) => ({ cls := Value.none, data := Data.func { name := Str.ofString "_law_walk", qualname := Str.ofString "_law_walk", params := a, body := FuncBody.stmts b, scope := s, globals := 0, closure := [], defaults := Value.none, kwdefaults := Value.none } } : Obj)) _ _ _ rfl
noncomputable def o_297 (P : Params) : Obj := { cls := Value.type "code", data := Data.fields #[Value.str (Str.ofString "_law_walk") 558, Value.str (Str.ofString "_law_walk") 559, Value.str (Str.ofString "/claim/cut.py") 560, Value.int 231 0, Value.int 2 0, Value.int 0 0, Value.int 0 0, Value.int 3 0, Value.ref 287, Value.bool true, Value.int 181 0, Value.ref 288, Value.none, Value.ref 289, Value.ref 290, Value.ref 291, Value.int 565 0, Value.int 231 0, Value.str (Str.ofString "/claim/cut.py") 566] }
noncomputable def o_298 (P : Params) : Obj := (fun (a : Arguments) (b : List Stmt) (s : Scope) (_ : fdOf [57] = some (a, b, s)) => ({ cls := Value.type "function", data := Data.func { name := Str.ofString "_law_walk", qualname := Str.ofString "_law_walk", params := a, body := FuncBody.stmts b, scope := s, globals := 3, closure := [], defaults := Value.none, kwdefaults := Value.none, pyModule := Value.str (Str.ofString "law_pd0061_01") 532, code := Value.ref 292 } } : Obj)) _ _ _ rfl
noncomputable def o_299 (P : Params) : Obj := { cls := Value.type "tuple", data := Data.seq #[] }
noncomputable def o_300 (P : Params) : Obj := { cls := Value.none, data := Data.fields #[] }
noncomputable def o_301 (P : Params) : Obj := { cls := Value.type "tuple", data := Data.seq #[Value.str (Str.ofString "plain") 571, Value.str (Str.ofString "modes") 572, Value.str (Str.ofString "turn") 573, Value.str (Str.ofString "name") 574] }
noncomputable def o_302 (P : Params) : Obj := { cls := Value.type "tuple", data := Data.seq #[] }
noncomputable def o_303 (P : Params) : Obj := (fun (a : Arguments) (b : List Stmt) (s : Scope) (_ : fdOf [58] = some (a, b, s)) => ({ cls := Value.none, data := Data.func { name := Str.ofString "_law_climbed", qualname := Str.ofString "_law_climbed", params := a, body := FuncBody.stmts b, scope := s, globals := 0, closure := [], defaults := Value.none, kwdefaults := Value.none } } : Obj)) _ _ _ rfl
noncomputable def o_304 (P : Params) : Obj := { cls := Value.type "code", data := Data.fields #[Value.str (Str.ofString "_law_climbed") 568, Value.str (Str.ofString "_law_climbed") 569, Value.str (Str.ofString "/claim/cut.py") 570, Value.int 236 0, Value.int 1 0, Value.int 0 0, Value.int 0 0, Value.int 3 0, Value.ref 294, Value.bool true, Value.int 181 0, Value.ref 295, Value.none, Value.ref 296, Value.ref 297, Value.ref 298, Value.int 575 0, Value.int 236 0, Value.str (Str.ofString "/claim/cut.py") 576] }
noncomputable def o_305 (P : Params) : Obj := (fun (a : Arguments) (b : List Stmt) (s : Scope) (_ : fdOf [58] = some (a, b, s)) => ({ cls := Value.type "function", data := Data.func { name := Str.ofString "_law_climbed", qualname := Str.ofString "_law_climbed", params := a, body := FuncBody.stmts b, scope := s, globals := 3, closure := [], defaults := Value.none, kwdefaults := Value.none, pyModule := Value.str (Str.ofString "law_pd0061_01") 532, code := Value.ref 299 } } : Obj)) _ _ _ rfl
noncomputable def o_306 (P : Params) : Obj := { cls := Value.type "tuple", data := Data.seq #[] }
noncomputable def o_307 (P : Params) : Obj := { cls := Value.none, data := Data.fields #[] }
noncomputable def o_308 (P : Params) : Obj := { cls := Value.type "tuple", data := Data.seq #[Value.str (Str.ofString "mode") 581, Value.str (Str.ofString "text") 582, Value.str (Str.ofString "place") 583, Value.str (Str.ofString "figure") 584, Value.str (Str.ofString "more") 585] }
noncomputable def o_309 (P : Params) : Obj := { cls := Value.type "tuple", data := Data.seq #[] }
noncomputable def o_310 (P : Params) : Obj := (fun (a : Arguments) (b : List Stmt) (s : Scope) (_ : fdOf [59] = some (a, b, s)) => ({ cls := Value.none, data := Data.func { name := Str.ofString "_law_signs", qualname := Str.ofString "_law_signs", params := a, body := FuncBody.stmts b, scope := s, globals := 0, closure := [], defaults := Value.none, kwdefaults := Value.none } } : Obj)) _ _ _ rfl
noncomputable def o_311 (P : Params) : Obj := { cls := Value.type "code", data := Data.fields #[Value.str (Str.ofString "_law_signs") 578, Value.str (Str.ofString "_law_signs") 579, Value.str (Str.ofString "/claim/cut.py") 580, Value.int 243 0, Value.int 1 0, Value.int 0 0, Value.int 0 0, Value.int 3 0, Value.ref 301, Value.bool true, Value.int 181 0, Value.ref 302, Value.none, Value.ref 303, Value.ref 304, Value.ref 305, Value.int 586 0, Value.int 243 0, Value.str (Str.ofString "/claim/cut.py") 587] }
noncomputable def o_312 (P : Params) : Obj := (fun (a : Arguments) (b : List Stmt) (s : Scope) (_ : fdOf [59] = some (a, b, s)) => ({ cls := Value.type "function", data := Data.func { name := Str.ofString "_law_signs", qualname := Str.ofString "_law_signs", params := a, body := FuncBody.stmts b, scope := s, globals := 3, closure := [], defaults := Value.none, kwdefaults := Value.none, pyModule := Value.str (Str.ofString "law_pd0061_01") 532, code := Value.ref 306 } } : Obj)) _ _ _ rfl
noncomputable def o_314 (P : Params) : Obj := { cls := Value.type "dict", data := Data.dict #[{ hash := PyData.keyHash P (Str.ofString "__name__"), key := Value.str (Str.ofString "__name__") 165, val := Value.str (Str.ofString "law_pd0061_01") 532 }, { hash := PyData.keyHash P (Str.ofString "__doc__"), key := Value.str (Str.ofString "__doc__") 166, val := Value.none }, { hash := PyData.keyHash P (Str.ofString "__package__"), key := Value.str (Str.ofString "__package__") 167, val := Value.none }, { hash := PyData.keyHash P (Str.ofString "__loader__"), key := Value.str (Str.ofString "__loader__") 168, val := Value.builtin "__main__.__loader__#opaque" }, { hash := PyData.keyHash P (Str.ofString "__spec__"), key := Value.str (Str.ofString "__spec__") 169, val := Value.none }, { hash := PyData.keyHash P (Str.ofString "__annotations__"), key := Value.str (Str.ofString "__annotations__") 170, val := Value.ref 6 }, { hash := PyData.keyHash P (Str.ofString "__builtins__"), key := Value.str (Str.ofString "__builtins__") 171, val := Value.ref 4 }, { hash := PyData.keyHash P (Str.ofString "__file__"), key := Value.str (Str.ofString "__file__") 173, val := Value.str (Str.ofString "/claim/cut.py") 172 }, { hash := PyData.keyHash P (Str.ofString "__cached__"), key := Value.str (Str.ofString "__cached__") 174, val := Value.none }, { hash := PyData.keyHash P (Str.ofString "_wall"), key := Value.str (Str.ofString "_wall") 193, val := Value.ref 21 }, { hash := PyData.keyHash P (Str.ofString "_plain_name"), key := Value.str (Str.ofString "_plain_name") 204, val := Value.ref 28 }, { hash := PyData.keyHash P (Str.ofString "ABCMeta"), key := Value.str (Str.ofString "ABCMeta") 230, val := Value.ref 45 }, { hash := PyData.keyHash P (Str.ofString "_ABCLike"), key := Value.str (Str.ofString "_ABCLike") 273, val := Value.ref 78 }, { hash := PyData.keyHash P (Str.ofString "_abc_plain_meta"), key := Value.str (Str.ofString "_abc_plain_meta") 280, val := Value.ref 87 }, { hash := PyData.keyHash P (Str.ofString "fspath"), key := Value.str (Str.ofString "fspath") 292, val := Value.ref 94 }, { hash := PyData.keyHash P (Str.ofString "_check_arg_types"), key := Value.str (Str.ofString "_check_arg_types") 305, val := Value.ref 101 }, { hash := PyData.keyHash P (Str.ofString "_get_sep"), key := Value.str (Str.ofString "_get_sep") 314, val := Value.ref 108 }, { hash := PyData.keyHash P (Str.ofString "join"), key := Value.str (Str.ofString "join") 325, val := Value.ref 115 }, { hash := PyData.keyHash P (Str.ofString "split"), key := Value.str (Str.ofString "split") 336, val := Value.ref 122 }, { hash := PyData.keyHash P (Str.ofString "splitroot"), key := Value.str (Str.ofString "splitroot") 345, val := Value.ref 129 }, { hash := PyData.keyHash P (Str.ofString "basename"), key := Value.str (Str.ofString "basename") 354, val := Value.ref 136 }, { hash := PyData.keyHash P (Str.ofString "normpath"), key := Value.str (Str.ofString "normpath") 369, val := Value.ref 143 }, { hash := PyData.keyHash P (Str.ofString "S_IMODE"), key := Value.str (Str.ofString "S_IMODE") 378, val := Value.ref 150 }, { hash := PyData.keyHash P (Str.ofString "S_IFMT"), key := Value.str (Str.ofString "S_IFMT") 385, val := Value.ref 157 }, { hash := PyData.keyHash P (Str.ofString "S_IFDIR"), key := Value.str (Str.ofString "S_IFDIR") 387, val := Value.int 16384 386 }, { hash := PyData.keyHash P (Str.ofString "S_IFCHR"), key := Value.str (Str.ofString "S_IFCHR") 389, val := Value.int 8192 388 }, { hash := PyData.keyHash P (Str.ofString "S_IFBLK"), key := Value.str (Str.ofString "S_IFBLK") 391, val := Value.int 24576 390 }, { hash := PyData.keyHash P (Str.ofString "S_IFREG"), key := Value.str (Str.ofString "S_IFREG") 393, val := Value.int 32768 392 }, { hash := PyData.keyHash P (Str.ofString "S_IFIFO"), key := Value.str (Str.ofString "S_IFIFO") 395, val := Value.int 4096 394 }, { hash := PyData.keyHash P (Str.ofString "S_IFLNK"), key := Value.str (Str.ofString "S_IFLNK") 397, val := Value.int 40960 396 }, { hash := PyData.keyHash P (Str.ofString "S_IFSOCK"), key := Value.str (Str.ofString "S_IFSOCK") 399, val := Value.int 49152 398 }, { hash := PyData.keyHash P (Str.ofString "S_ISDIR"), key := Value.str (Str.ofString "S_ISDIR") 406, val := Value.ref 164 }, { hash := PyData.keyHash P (Str.ofString "S_ISCHR"), key := Value.str (Str.ofString "S_ISCHR") 413, val := Value.ref 171 }, { hash := PyData.keyHash P (Str.ofString "S_ISBLK"), key := Value.str (Str.ofString "S_ISBLK") 420, val := Value.ref 178 }, { hash := PyData.keyHash P (Str.ofString "S_ISREG"), key := Value.str (Str.ofString "S_ISREG") 427, val := Value.ref 185 }, { hash := PyData.keyHash P (Str.ofString "S_ISFIFO"), key := Value.str (Str.ofString "S_ISFIFO") 434, val := Value.ref 192 }, { hash := PyData.keyHash P (Str.ofString "S_ISLNK"), key := Value.str (Str.ofString "S_ISLNK") 441, val := Value.ref 199 }, { hash := PyData.keyHash P (Str.ofString "S_ISSOCK"), key := Value.str (Str.ofString "S_ISSOCK") 448, val := Value.ref 206 }, { hash := PyData.keyHash P (Str.ofString "S_ISDOOR"), key := Value.str (Str.ofString "S_ISDOOR") 455, val := Value.ref 213 }, { hash := PyData.keyHash P (Str.ofString "S_ISPORT"), key := Value.str (Str.ofString "S_ISPORT") 462, val := Value.ref 220 }, { hash := PyData.keyHash P (Str.ofString "S_ISWHT"), key := Value.str (Str.ofString "S_ISWHT") 469, val := Value.ref 227 }, { hash := PyData.keyHash P (Str.ofString "S_ISUID"), key := Value.str (Str.ofString "S_ISUID") 471, val := Value.int 2048 470 }, { hash := PyData.keyHash P (Str.ofString "S_ISGID"), key := Value.str (Str.ofString "S_ISGID") 473, val := Value.int 1024 472 }, { hash := PyData.keyHash P (Str.ofString "S_ISVTX"), key := Value.str (Str.ofString "S_ISVTX") 475, val := Value.int 512 474 }, { hash := PyData.keyHash P (Str.ofString "S_IRUSR"), key := Value.str (Str.ofString "S_IRUSR") 477, val := Value.int 256 476 }, { hash := PyData.keyHash P (Str.ofString "S_IWUSR"), key := Value.str (Str.ofString "S_IWUSR") 479, val := Value.int 128 478 }, { hash := PyData.keyHash P (Str.ofString "S_IXUSR"), key := Value.str (Str.ofString "S_IXUSR") 481, val := Value.int 64 480 }, { hash := PyData.keyHash P (Str.ofString "S_IRGRP"), key := Value.str (Str.ofString "S_IRGRP") 483, val := Value.int 32 482 }, { hash := PyData.keyHash P (Str.ofString "S_IWGRP"), key := Value.str (Str.ofString "S_IWGRP") 485, val := Value.int 16 484 }, { hash := PyData.keyHash P (Str.ofString "S_IXGRP"), key := Value.str (Str.ofString "S_IXGRP") 487, val := Value.int 8 486 }, { hash := PyData.keyHash P (Str.ofString "S_IROTH"), key := Value.str (Str.ofString "S_IROTH") 489, val := Value.int 4 488 }, { hash := PyData.keyHash P (Str.ofString "S_IWOTH"), key := Value.str (Str.ofString "S_IWOTH") 491, val := Value.int 2 490 }, { hash := PyData.keyHash P (Str.ofString "S_IXOTH"), key := Value.str (Str.ofString "S_IXOTH") 493, val := Value.int 1 492 }, { hash := PyData.keyHash P (Str.ofString "_filemode_table"), key := Value.str (Str.ofString "_filemode_table") 519, val := Value.ref 260 }, { hash := PyData.keyHash P (Str.ofString "filemode"), key := Value.str (Str.ofString "filemode") 531, val := Value.ref 267 }, { hash := PyData.keyHash P (Str.ofString "_law_drawn"), key := Value.str (Str.ofString "_law_drawn") 542, val := Value.ref 274 }, { hash := PyData.keyHash P (Str.ofString "_law_read"), key := Value.str (Str.ofString "_law_read") 551, val := Value.ref 281 }, { hash := PyData.keyHash P (Str.ofString "_law_step"), key := Value.str (Str.ofString "_law_step") 557, val := Value.ref 286 }, { hash := PyData.keyHash P (Str.ofString "_law_walk"), key := Value.str (Str.ofString "_law_walk") 567, val := Value.ref 293 }, { hash := PyData.keyHash P (Str.ofString "_law_climbed"), key := Value.str (Str.ofString "_law_climbed") 577, val := Value.ref 300 }, { hash := PyData.keyHash P (Str.ofString "_law_signs"), key := Value.str (Str.ofString "_law_signs") 588, val := Value.ref 307 }, { hash := PyData.keyHash P (Str.ofString "_law_up"), key := Value.str (Str.ofString "_law_up") 596, val := Value.ref 314 }, { hash := PyData.keyHash P (Str.ofString "_law_told"), key := Value.str (Str.ofString "_law_told") 609, val := Value.ref 321 }, { hash := PyData.keyHash P (Str.ofString "_law_states"), key := Value.str (Str.ofString "_law_states") 619, val := Value.ref 328 }, { hash := PyData.keyHash P (Str.ofString "_law_text"), key := Value.str (Str.ofString "_law_text") 625, val := Value.ref 333 }, { hash := PyData.keyHash P (Str.ofString "law"), key := Value.str (Str.ofString "law") 631, val := Value.ref 338 }] 66 }
noncomputable def o_315 (P : Params) : Obj := { cls := Value.none, data := Data.fields #[Value.int 1 0, Value.int 0 0, Value.ref 20, Value.int 5 0, Value.int 0 0, Value.ref 27, Value.int 11 0, Value.int 0 0, Value.ref 34, Value.int 16 0, Value.int 0 0, Value.ref 53, Value.int 31 0, Value.int 0 0, Value.ref 86, Value.int 35 0, Value.int 0 0, Value.ref 93, Value.int 52 0, Value.int 0 0, Value.ref 100, Value.int 64 0, Value.int 0 0, Value.ref 107, Value.int 69 0, Value.int 0 0, Value.ref 114, Value.int 86 0, Value.int 0 0, Value.ref 121, Value.int 94 0, Value.int 0 0, Value.ref 128, Value.int 108 0, Value.int 0 0, Value.ref 135, Value.int 113 0, Value.int 0 0, Value.ref 142, Value.int 139 0, Value.int 0 0, Value.ref 149, Value.int 141 0, Value.int 0 0, Value.ref 156, Value.int 150 0, Value.int 0 0, Value.ref 163, Value.int 152 0, Value.int 0 0, Value.ref 170, Value.int 154 0, Value.int 0 0, Value.ref 177, Value.int 156 0, Value.int 0 0, Value.ref 184, Value.int 158 0, Value.int 0 0, Value.ref 191, Value.int 160 0, Value.int 0 0, Value.ref 198, Value.int 162 0, Value.int 0 0, Value.ref 205, Value.int 164 0, Value.int 0 0, Value.ref 212, Value.int 166 0, Value.int 0 0, Value.ref 219, Value.int 168 0, Value.int 0 0, Value.ref 226, Value.int 183 0, Value.int 0 0, Value.ref 266, Value.int 201 0, Value.int 0 0, Value.ref 273, Value.int 205 0, Value.int 0 0, Value.ref 280, Value.int 213 0, Value.int 0 0, Value.ref 285, Value.int 231 0, Value.int 0 0, Value.ref 292, Value.int 236 0, Value.int 0 0, Value.ref 299, Value.int 243 0, Value.int 0 0, Value.ref 306, Value.int 251 0, Value.int 0 0, Value.ref 313, Value.int 255 0, Value.int 0 0, Value.ref 320, Value.int 276 0, Value.int 0 0, Value.ref 327, Value.int 281 0, Value.int 0 0, Value.ref 332, Value.int 283 0, Value.int 0 0, Value.ref 337] }
noncomputable def o_316 (P : Params) : Obj := { cls := Value.type "tuple", data := Data.seq #[] }
noncomputable def o_317 (P : Params) : Obj := { cls := Value.none, data := Data.fields #[] }
noncomputable def o_318 (P : Params) : Obj := { cls := Value.type "tuple", data := Data.seq #[Value.str (Str.ofString "root") 592, Value.str (Str.ofString "row") 593] }
noncomputable def o_319 (P : Params) : Obj := { cls := Value.type "tuple", data := Data.seq #[] }
noncomputable def o_320 (P : Params) : Obj := (fun (a : Arguments) (b : List Stmt) (s : Scope) (_ : fdOf [60] = some (a, b, s)) => ({ cls := Value.none, data := Data.func { name := Str.ofString "_law_up", qualname := Str.ofString "_law_up", params := a, body := FuncBody.stmts b, scope := s, globals := 0, closure := [], defaults := Value.none, kwdefaults := Value.none } } : Obj)) _ _ _ rfl
noncomputable def o_321 (P : Params) : Obj := { cls := Value.type "code", data := Data.fields #[Value.str (Str.ofString "_law_up") 589, Value.str (Str.ofString "_law_up") 590, Value.str (Str.ofString "/claim/cut.py") 591, Value.int 251 0, Value.int 2 0, Value.int 0 0, Value.int 0 0, Value.int 3 0, Value.ref 308, Value.bool true, Value.int 181 0, Value.ref 309, Value.none, Value.ref 310, Value.ref 311, Value.ref 312, Value.int 594 0, Value.int 251 0, Value.str (Str.ofString "/claim/cut.py") 595] }
noncomputable def o_322 (P : Params) : Obj := (fun (a : Arguments) (b : List Stmt) (s : Scope) (_ : fdOf [60] = some (a, b, s)) => ({ cls := Value.type "function", data := Data.func { name := Str.ofString "_law_up", qualname := Str.ofString "_law_up", params := a, body := FuncBody.stmts b, scope := s, globals := 3, closure := [], defaults := Value.none, kwdefaults := Value.none, pyModule := Value.str (Str.ofString "law_pd0061_01") 532, code := Value.ref 313 } } : Obj)) _ _ _ rfl
noncomputable def o_323 (P : Params) : Obj := { cls := Value.type "tuple", data := Data.seq #[] }
noncomputable def o_324 (P : Params) : Obj := { cls := Value.none, data := Data.fields #[] }
noncomputable def o_325 (P : Params) : Obj := { cls := Value.type "tuple", data := Data.seq #[Value.str (Str.ofString "root") 600, Value.str (Str.ofString "row") 601, Value.str (Str.ofString "drawn") 602, Value.str (Str.ofString "kind") 603, Value.str (Str.ofString "rights") 604, Value.str (Str.ofString "new") 605, Value.str (Str.ofString "up") 606] }
noncomputable def o_326 (P : Params) : Obj := { cls := Value.type "tuple", data := Data.seq #[] }
noncomputable def o_327 (P : Params) : Obj := (fun (a : Arguments) (b : List Stmt) (s : Scope) (_ : fdOf [61] = some (a, b, s)) => ({ cls := Value.none, data := Data.func { name := Str.ofString "_law_told", qualname := Str.ofString "_law_told", params := a, body := FuncBody.stmts b, scope := s, globals := 0, closure := [], defaults := Value.none, kwdefaults := Value.none } } : Obj)) _ _ _ rfl
noncomputable def o_328 (P : Params) : Obj := { cls := Value.type "code", data := Data.fields #[Value.str (Str.ofString "_law_told") 597, Value.str (Str.ofString "_law_told") 598, Value.str (Str.ofString "/claim/cut.py") 599, Value.int 255 0, Value.int 3 0, Value.int 0 0, Value.int 0 0, Value.int 3 0, Value.ref 315, Value.bool true, Value.int 181 0, Value.ref 316, Value.none, Value.ref 317, Value.ref 318, Value.ref 319, Value.int 607 0, Value.int 255 0, Value.str (Str.ofString "/claim/cut.py") 608] }
noncomputable def o_329 (P : Params) : Obj := (fun (a : Arguments) (b : List Stmt) (s : Scope) (_ : fdOf [61] = some (a, b, s)) => ({ cls := Value.type "function", data := Data.func { name := Str.ofString "_law_told", qualname := Str.ofString "_law_told", params := a, body := FuncBody.stmts b, scope := s, globals := 3, closure := [], defaults := Value.none, kwdefaults := Value.none, pyModule := Value.str (Str.ofString "law_pd0061_01") 532, code := Value.ref 320 } } : Obj)) _ _ _ rfl
noncomputable def o_330 (P : Params) : Obj := { cls := Value.type "tuple", data := Data.seq #[] }
noncomputable def o_331 (P : Params) : Obj := { cls := Value.none, data := Data.fields #[] }
noncomputable def o_332 (P : Params) : Obj := { cls := Value.type "tuple", data := Data.seq #[Value.str (Str.ofString "start") 613, Value.str (Str.ofString "numbers") 614, Value.str (Str.ofString "states") 615, Value.str (Str.ofString "number") 616] }
noncomputable def o_333 (P : Params) : Obj := { cls := Value.type "tuple", data := Data.seq #[] }
noncomputable def o_334 (P : Params) : Obj := (fun (a : Arguments) (b : List Stmt) (s : Scope) (_ : fdOf [62] = some (a, b, s)) => ({ cls := Value.none, data := Data.func { name := Str.ofString "_law_states", qualname := Str.ofString "_law_states", params := a, body := FuncBody.stmts b, scope := s, globals := 0, closure := [], defaults := Value.none, kwdefaults := Value.none } } : Obj)) _ _ _ rfl
noncomputable def o_335 (P : Params) : Obj := { cls := Value.type "code", data := Data.fields #[Value.str (Str.ofString "_law_states") 610, Value.str (Str.ofString "_law_states") 611, Value.str (Str.ofString "/claim/cut.py") 612, Value.int 276 0, Value.int 2 0, Value.int 0 0, Value.int 0 0, Value.int 3 0, Value.ref 322, Value.bool true, Value.int 181 0, Value.ref 323, Value.none, Value.ref 324, Value.ref 325, Value.ref 326, Value.int 617 0, Value.int 276 0, Value.str (Str.ofString "/claim/cut.py") 618] }
noncomputable def o_336 (P : Params) : Obj := (fun (a : Arguments) (b : List Stmt) (s : Scope) (_ : fdOf [62] = some (a, b, s)) => ({ cls := Value.type "function", data := Data.func { name := Str.ofString "_law_states", qualname := Str.ofString "_law_states", params := a, body := FuncBody.stmts b, scope := s, globals := 3, closure := [], defaults := Value.none, kwdefaults := Value.none, pyModule := Value.str (Str.ofString "law_pd0061_01") 532, code := Value.ref 327 } } : Obj)) _ _ _ rfl
noncomputable def o_337 (P : Params) : Obj := { cls := Value.type "tuple", data := Data.seq #[] }
noncomputable def o_338 (P : Params) : Obj := { cls := Value.none, data := Data.fields #[] }
noncomputable def o_339 (P : Params) : Obj := (fun (a : Arguments) (b : List Stmt) (s : Scope) (_ : fdOf [63] = some (a, b, s)) => ({ cls := Value.none, data := Data.func { name := Str.ofString "_law_text", qualname := Str.ofString "_law_text", params := a, body := FuncBody.stmts b, scope := s, globals := 0, closure := [], defaults := Value.none, kwdefaults := Value.none } } : Obj)) _ _ _ rfl
noncomputable def o_340 (P : Params) : Obj := { cls := Value.type "code", data := Data.fields #[Value.str (Str.ofString "_law_text") 620, Value.str (Str.ofString "_law_text") 621, Value.str (Str.ofString "/claim/cut.py") 622, Value.int 281 0, Value.int 2 0, Value.int 0 0, Value.int 0 0, Value.int 3 0, Value.ref 329, Value.bool true, Value.int 181 0, Value.ref 330, Value.none, Value.none, Value.none, Value.ref 331, Value.int 623 0, Value.int 281 0, Value.str (Str.ofString "/claim/cut.py") 624] }
noncomputable def o_341 (P : Params) : Obj := (fun (a : Arguments) (b : List Stmt) (s : Scope) (_ : fdOf [63] = some (a, b, s)) => ({ cls := Value.type "function", data := Data.func { name := Str.ofString "_law_text", qualname := Str.ofString "_law_text", params := a, body := FuncBody.stmts b, scope := s, globals := 3, closure := [], defaults := Value.none, kwdefaults := Value.none, pyModule := Value.str (Str.ofString "law_pd0061_01") 532, code := Value.ref 332 } } : Obj)) _ _ _ rfl
noncomputable def o_342 (P : Params) : Obj := { cls := Value.type "tuple", data := Data.seq #[] }
noncomputable def o_343 (P : Params) : Obj := { cls := Value.none, data := Data.fields #[] }
noncomputable def o_344 (P : Params) : Obj := (fun (a : Arguments) (b : List Stmt) (s : Scope) (_ : fdOf [64] = some (a, b, s)) => ({ cls := Value.none, data := Data.func { name := Str.ofString "law", qualname := Str.ofString "law", params := a, body := FuncBody.stmts b, scope := s, globals := 0, closure := [], defaults := Value.none, kwdefaults := Value.none } } : Obj)) _ _ _ rfl
noncomputable def o_345 (P : Params) : Obj := { cls := Value.type "code", data := Data.fields #[Value.str (Str.ofString "law") 626, Value.str (Str.ofString "law") 627, Value.str (Str.ofString "/claim/cut.py") 628, Value.int 283 0, Value.int 1 0, Value.int 0 0, Value.int 0 0, Value.int 3 0, Value.ref 334, Value.bool true, Value.int 181 0, Value.ref 335, Value.none, Value.none, Value.none, Value.ref 336, Value.int 629 0, Value.int 283 0, Value.str (Str.ofString "/claim/cut.py") 630] }
noncomputable def o_346 (P : Params) : Obj := (fun (a : Arguments) (b : List Stmt) (s : Scope) (_ : fdOf [64] = some (a, b, s)) => ({ cls := Value.type "function", data := Data.func { name := Str.ofString "law", qualname := Str.ofString "law", params := a, body := FuncBody.stmts b, scope := s, globals := 3, closure := [], defaults := Value.none, kwdefaults := Value.none, pyModule := Value.str (Str.ofString "law_pd0061_01") 532, code := Value.ref 337 } } : Obj)) _ _ _ rfl
noncomputable def tree_4 (P : Params) : BT := BT.node (boot_o_0 P) (BT.node (boot_o_1 P) (BT.node (boot_o_3 P) (BT.node (boot_o_7 P) BT.nil BT.nil) (BT.node (o_1 P) BT.nil BT.nil)) (BT.node (boot_o_5 P) (BT.node (boot_o_9 P) BT.nil BT.nil) (BT.node (o_3 P) BT.nil BT.nil))) (BT.node (boot_o_2 P) (BT.node (boot_o_4 P) (BT.node (boot_o_8 P) BT.nil BT.nil) (BT.node (o_2 P) BT.nil BT.nil)) (BT.node (boot_o_6 P) (BT.node (boot_o_10 P) BT.nil BT.nil) (BT.node (o_4 P) BT.nil BT.nil)))
noncomputable def tree_39 (P : Params) : BT := BT.node (boot_o_0 P) (BT.node (boot_o_1 P) (BT.node (o_5 P) (BT.node (boot_o_7 P) (BT.node (o_7 P) (BT.node (o_23 P) BT.nil BT.nil) (BT.node (o_39 P) BT.nil BT.nil)) (BT.node (o_15 P) (BT.node (o_31 P) BT.nil BT.nil) BT.nil)) (BT.node (o_1 P) (BT.node (o_11 P) (BT.node (o_27 P) BT.nil BT.nil) BT.nil) (BT.node (o_19 P) (BT.node (o_35 P) BT.nil BT.nil) BT.nil))) (BT.node (boot_o_5 P) (BT.node (boot_o_9 P) (BT.node (o_9 P) (BT.node (o_25 P) BT.nil BT.nil) BT.nil) (BT.node (o_17 P) (BT.node (o_33 P) BT.nil BT.nil) BT.nil)) (BT.node (o_3 P) (BT.node (o_13 P) (BT.node (o_29 P) BT.nil BT.nil) BT.nil) (BT.node (o_21 P) (BT.node (o_37 P) BT.nil BT.nil) BT.nil)))) (BT.node (boot_o_2 P) (BT.node (boot_o_4 P) (BT.node (boot_o_8 P) (BT.node (o_8 P) (BT.node (o_24 P) BT.nil BT.nil) BT.nil) (BT.node (o_16 P) (BT.node (o_32 P) BT.nil BT.nil) BT.nil)) (BT.node (o_6 P) (BT.node (o_12 P) (BT.node (o_28 P) BT.nil BT.nil) BT.nil) (BT.node (o_20 P) (BT.node (o_36 P) BT.nil BT.nil) BT.nil))) (BT.node (boot_o_6 P) (BT.node (boot_o_10 P) (BT.node (o_10 P) (BT.node (o_26 P) BT.nil BT.nil) BT.nil) (BT.node (o_18 P) (BT.node (o_34 P) BT.nil BT.nil) BT.nil)) (BT.node (o_4 P) (BT.node (o_14 P) (BT.node (o_30 P) BT.nil BT.nil) BT.nil) (BT.node (o_22 P) (BT.node (o_38 P) BT.nil BT.nil) BT.nil))))
noncomputable def tree_90 (P : Params) : BT := BT.node (boot_o_0 P) (BT.node (boot_o_1 P) (BT.node (o_41 P) (BT.node (boot_o_7 P) (BT.node (o_7 P) (BT.node (o_23 P) (BT.node (o_59 P) BT.nil BT.nil) BT.nil) (BT.node (o_39 P) (BT.node (o_75 P) BT.nil BT.nil) BT.nil)) (BT.node (o_15 P) (BT.node (o_31 P) (BT.node (o_67 P) BT.nil BT.nil) BT.nil) (BT.node (o_51 P) (BT.node (o_83 P) BT.nil BT.nil) BT.nil))) (BT.node (o_1 P) (BT.node (o_11 P) (BT.node (o_27 P) (BT.node (o_63 P) BT.nil BT.nil) BT.nil) (BT.node (o_47 P) (BT.node (o_79 P) BT.nil BT.nil) BT.nil)) (BT.node (o_19 P) (BT.node (o_35 P) (BT.node (o_71 P) BT.nil BT.nil) BT.nil) (BT.node (o_55 P) (BT.node (o_87 P) BT.nil BT.nil) BT.nil)))) (BT.node (boot_o_5 P) (BT.node (boot_o_9 P) (BT.node (o_9 P) (BT.node (o_25 P) (BT.node (o_61 P) BT.nil BT.nil) BT.nil) (BT.node (o_45 P) (BT.node (o_77 P) BT.nil BT.nil) BT.nil)) (BT.node (o_17 P) (BT.node (o_33 P) (BT.node (o_69 P) BT.nil BT.nil) BT.nil) (BT.node (o_53 P) (BT.node (o_85 P) BT.nil BT.nil) BT.nil))) (BT.node (o_3 P) (BT.node (o_13 P) (BT.node (o_29 P) (BT.node (o_65 P) BT.nil BT.nil) BT.nil) (BT.node (o_49 P) (BT.node (o_81 P) BT.nil BT.nil) BT.nil)) (BT.node (o_21 P) (BT.node (o_43 P) (BT.node (o_73 P) BT.nil BT.nil) BT.nil) (BT.node (o_57 P) (BT.node (o_89 P) BT.nil BT.nil) BT.nil))))) (BT.node (boot_o_2 P) (BT.node (boot_o_4 P) (BT.node (boot_o_8 P) (BT.node (o_8 P) (BT.node (o_24 P) (BT.node (o_60 P) BT.nil BT.nil) BT.nil) (BT.node (o_44 P) (BT.node (o_76 P) BT.nil BT.nil) BT.nil)) (BT.node (o_16 P) (BT.node (o_32 P) (BT.node (o_68 P) BT.nil BT.nil) BT.nil) (BT.node (o_52 P) (BT.node (o_84 P) BT.nil BT.nil) BT.nil))) (BT.node (o_42 P) (BT.node (o_12 P) (BT.node (o_28 P) (BT.node (o_64 P) BT.nil BT.nil) BT.nil) (BT.node (o_48 P) (BT.node (o_80 P) BT.nil BT.nil) BT.nil)) (BT.node (o_20 P) (BT.node (o_36 P) (BT.node (o_72 P) BT.nil BT.nil) BT.nil) (BT.node (o_56 P) (BT.node (o_88 P) BT.nil BT.nil) BT.nil)))) (BT.node (boot_o_6 P) (BT.node (boot_o_10 P) (BT.node (o_10 P) (BT.node (o_26 P) (BT.node (o_62 P) BT.nil BT.nil) BT.nil) (BT.node (o_46 P) (BT.node (o_78 P) BT.nil BT.nil) BT.nil)) (BT.node (o_18 P) (BT.node (o_34 P) (BT.node (o_70 P) BT.nil BT.nil) BT.nil) (BT.node (o_54 P) (BT.node (o_86 P) BT.nil BT.nil) BT.nil))) (BT.node (o_4 P) (BT.node (o_14 P) (BT.node (o_30 P) (BT.node (o_66 P) BT.nil BT.nil) BT.nil) (BT.node (o_50 P) (BT.node (o_82 P) BT.nil BT.nil) BT.nil)) (BT.node (o_22 P) (BT.node (o_38 P) (BT.node (o_74 P) BT.nil BT.nil) BT.nil) (BT.node (o_58 P) (BT.node (o_90 P) BT.nil BT.nil) BT.nil)))))
noncomputable def tree_163 (P : Params) : BT := BT.node (boot_o_0 P) (BT.node (boot_o_1 P) (BT.node (o_92 P) (BT.node (boot_o_7 P) (BT.node (o_7 P) (BT.node (o_23 P) (BT.node (o_59 P) (BT.node (o_126 P) BT.nil BT.nil) BT.nil) (BT.node (o_94 P) (BT.node (o_158 P) BT.nil BT.nil) BT.nil)) (BT.node (o_39 P) (BT.node (o_75 P) (BT.node (o_142 P) BT.nil BT.nil) BT.nil) (BT.node (o_110 P) BT.nil BT.nil))) (BT.node (o_15 P) (BT.node (o_31 P) (BT.node (o_67 P) (BT.node (o_134 P) BT.nil BT.nil) BT.nil) (BT.node (o_102 P) BT.nil BT.nil)) (BT.node (o_51 P) (BT.node (o_83 P) (BT.node (o_150 P) BT.nil BT.nil) BT.nil) (BT.node (o_118 P) BT.nil BT.nil)))) (BT.node (o_1 P) (BT.node (o_11 P) (BT.node (o_27 P) (BT.node (o_63 P) (BT.node (o_130 P) BT.nil BT.nil) BT.nil) (BT.node (o_98 P) (BT.node (o_162 P) BT.nil BT.nil) BT.nil)) (BT.node (o_47 P) (BT.node (o_79 P) (BT.node (o_146 P) BT.nil BT.nil) BT.nil) (BT.node (o_114 P) BT.nil BT.nil))) (BT.node (o_19 P) (BT.node (o_35 P) (BT.node (o_71 P) (BT.node (o_138 P) BT.nil BT.nil) BT.nil) (BT.node (o_106 P) BT.nil BT.nil)) (BT.node (o_55 P) (BT.node (o_87 P) (BT.node (o_154 P) BT.nil BT.nil) BT.nil) (BT.node (o_122 P) BT.nil BT.nil))))) (BT.node (boot_o_5 P) (BT.node (boot_o_9 P) (BT.node (o_9 P) (BT.node (o_25 P) (BT.node (o_61 P) (BT.node (o_128 P) BT.nil BT.nil) BT.nil) (BT.node (o_96 P) (BT.node (o_160 P) BT.nil BT.nil) BT.nil)) (BT.node (o_45 P) (BT.node (o_77 P) (BT.node (o_144 P) BT.nil BT.nil) BT.nil) (BT.node (o_112 P) BT.nil BT.nil))) (BT.node (o_17 P) (BT.node (o_33 P) (BT.node (o_69 P) (BT.node (o_136 P) BT.nil BT.nil) BT.nil) (BT.node (o_104 P) BT.nil BT.nil)) (BT.node (o_53 P) (BT.node (o_85 P) (BT.node (o_152 P) BT.nil BT.nil) BT.nil) (BT.node (o_120 P) BT.nil BT.nil)))) (BT.node (o_3 P) (BT.node (o_13 P) (BT.node (o_29 P) (BT.node (o_65 P) (BT.node (o_132 P) BT.nil BT.nil) BT.nil) (BT.node (o_100 P) BT.nil BT.nil)) (BT.node (o_49 P) (BT.node (o_81 P) (BT.node (o_148 P) BT.nil BT.nil) BT.nil) (BT.node (o_116 P) BT.nil BT.nil))) (BT.node (o_21 P) (BT.node (o_43 P) (BT.node (o_73 P) (BT.node (o_140 P) BT.nil BT.nil) BT.nil) (BT.node (o_108 P) BT.nil BT.nil)) (BT.node (o_57 P) (BT.node (o_89 P) (BT.node (o_156 P) BT.nil BT.nil) BT.nil) (BT.node (o_124 P) BT.nil BT.nil)))))) (BT.node (boot_o_2 P) (BT.node (boot_o_4 P) (BT.node (boot_o_8 P) (BT.node (o_8 P) (BT.node (o_24 P) (BT.node (o_60 P) (BT.node (o_127 P) BT.nil BT.nil) BT.nil) (BT.node (o_95 P) (BT.node (o_159 P) BT.nil BT.nil) BT.nil)) (BT.node (o_44 P) (BT.node (o_76 P) (BT.node (o_143 P) BT.nil BT.nil) BT.nil) (BT.node (o_111 P) BT.nil BT.nil))) (BT.node (o_16 P) (BT.node (o_32 P) (BT.node (o_68 P) (BT.node (o_135 P) BT.nil BT.nil) BT.nil) (BT.node (o_103 P) BT.nil BT.nil)) (BT.node (o_52 P) (BT.node (o_84 P) (BT.node (o_151 P) BT.nil BT.nil) BT.nil) (BT.node (o_119 P) BT.nil BT.nil)))) (BT.node (o_93 P) (BT.node (o_12 P) (BT.node (o_28 P) (BT.node (o_64 P) (BT.node (o_131 P) BT.nil BT.nil) BT.nil) (BT.node (o_99 P) (BT.node (o_163 P) BT.nil BT.nil) BT.nil)) (BT.node (o_48 P) (BT.node (o_80 P) (BT.node (o_147 P) BT.nil BT.nil) BT.nil) (BT.node (o_115 P) BT.nil BT.nil))) (BT.node (o_20 P) (BT.node (o_36 P) (BT.node (o_72 P) (BT.node (o_139 P) BT.nil BT.nil) BT.nil) (BT.node (o_107 P) BT.nil BT.nil)) (BT.node (o_56 P) (BT.node (o_88 P) (BT.node (o_155 P) BT.nil BT.nil) BT.nil) (BT.node (o_123 P) BT.nil BT.nil))))) (BT.node (boot_o_6 P) (BT.node (boot_o_10 P) (BT.node (o_10 P) (BT.node (o_26 P) (BT.node (o_62 P) (BT.node (o_129 P) BT.nil BT.nil) BT.nil) (BT.node (o_97 P) (BT.node (o_161 P) BT.nil BT.nil) BT.nil)) (BT.node (o_46 P) (BT.node (o_78 P) (BT.node (o_145 P) BT.nil BT.nil) BT.nil) (BT.node (o_113 P) BT.nil BT.nil))) (BT.node (o_18 P) (BT.node (o_34 P) (BT.node (o_70 P) (BT.node (o_137 P) BT.nil BT.nil) BT.nil) (BT.node (o_105 P) BT.nil BT.nil)) (BT.node (o_54 P) (BT.node (o_86 P) (BT.node (o_153 P) BT.nil BT.nil) BT.nil) (BT.node (o_121 P) BT.nil BT.nil)))) (BT.node (o_4 P) (BT.node (o_14 P) (BT.node (o_30 P) (BT.node (o_66 P) (BT.node (o_133 P) BT.nil BT.nil) BT.nil) (BT.node (o_101 P) BT.nil BT.nil)) (BT.node (o_50 P) (BT.node (o_82 P) (BT.node (o_149 P) BT.nil BT.nil) BT.nil) (BT.node (o_117 P) BT.nil BT.nil))) (BT.node (o_22 P) (BT.node (o_38 P) (BT.node (o_74 P) (BT.node (o_141 P) BT.nil BT.nil) BT.nil) (BT.node (o_109 P) BT.nil BT.nil)) (BT.node (o_58 P) (BT.node (o_90 P) (BT.node (o_157 P) BT.nil BT.nil) BT.nil) (BT.node (o_125 P) BT.nil BT.nil))))))
noncomputable def tree_229 (P : Params) : BT := BT.node (boot_o_0 P) (BT.node (boot_o_1 P) (BT.node (o_165 P) (BT.node (boot_o_7 P) (BT.node (o_7 P) (BT.node (o_23 P) (BT.node (o_59 P) (BT.node (o_126 P) BT.nil BT.nil) (BT.node (o_193 P) BT.nil BT.nil)) (BT.node (o_94 P) (BT.node (o_158 P) BT.nil BT.nil) (BT.node (o_225 P) BT.nil BT.nil))) (BT.node (o_39 P) (BT.node (o_75 P) (BT.node (o_142 P) BT.nil BT.nil) (BT.node (o_209 P) BT.nil BT.nil)) (BT.node (o_110 P) (BT.node (o_177 P) BT.nil BT.nil) BT.nil))) (BT.node (o_15 P) (BT.node (o_31 P) (BT.node (o_67 P) (BT.node (o_134 P) BT.nil BT.nil) (BT.node (o_201 P) BT.nil BT.nil)) (BT.node (o_102 P) (BT.node (o_169 P) BT.nil BT.nil) BT.nil)) (BT.node (o_51 P) (BT.node (o_83 P) (BT.node (o_150 P) BT.nil BT.nil) (BT.node (o_217 P) BT.nil BT.nil)) (BT.node (o_118 P) (BT.node (o_185 P) BT.nil BT.nil) BT.nil)))) (BT.node (o_1 P) (BT.node (o_11 P) (BT.node (o_27 P) (BT.node (o_63 P) (BT.node (o_130 P) BT.nil BT.nil) (BT.node (o_197 P) BT.nil BT.nil)) (BT.node (o_98 P) (BT.node (o_162 P) BT.nil BT.nil) (BT.node (o_229 P) BT.nil BT.nil))) (BT.node (o_47 P) (BT.node (o_79 P) (BT.node (o_146 P) BT.nil BT.nil) (BT.node (o_213 P) BT.nil BT.nil)) (BT.node (o_114 P) (BT.node (o_181 P) BT.nil BT.nil) BT.nil))) (BT.node (o_19 P) (BT.node (o_35 P) (BT.node (o_71 P) (BT.node (o_138 P) BT.nil BT.nil) (BT.node (o_205 P) BT.nil BT.nil)) (BT.node (o_106 P) (BT.node (o_173 P) BT.nil BT.nil) BT.nil)) (BT.node (o_55 P) (BT.node (o_87 P) (BT.node (o_154 P) BT.nil BT.nil) (BT.node (o_221 P) BT.nil BT.nil)) (BT.node (o_122 P) (BT.node (o_189 P) BT.nil BT.nil) BT.nil))))) (BT.node (boot_o_5 P) (BT.node (boot_o_9 P) (BT.node (o_9 P) (BT.node (o_25 P) (BT.node (o_61 P) (BT.node (o_128 P) BT.nil BT.nil) (BT.node (o_195 P) BT.nil BT.nil)) (BT.node (o_96 P) (BT.node (o_160 P) BT.nil BT.nil) (BT.node (o_227 P) BT.nil BT.nil))) (BT.node (o_45 P) (BT.node (o_77 P) (BT.node (o_144 P) BT.nil BT.nil) (BT.node (o_211 P) BT.nil BT.nil)) (BT.node (o_112 P) (BT.node (o_179 P) BT.nil BT.nil) BT.nil))) (BT.node (o_17 P) (BT.node (o_33 P) (BT.node (o_69 P) (BT.node (o_136 P) BT.nil BT.nil) (BT.node (o_203 P) BT.nil BT.nil)) (BT.node (o_104 P) (BT.node (o_171 P) BT.nil BT.nil) BT.nil)) (BT.node (o_53 P) (BT.node (o_85 P) (BT.node (o_152 P) BT.nil BT.nil) (BT.node (o_219 P) BT.nil BT.nil)) (BT.node (o_120 P) (BT.node (o_187 P) BT.nil BT.nil) BT.nil)))) (BT.node (o_3 P) (BT.node (o_13 P) (BT.node (o_29 P) (BT.node (o_65 P) (BT.node (o_132 P) BT.nil BT.nil) (BT.node (o_199 P) BT.nil BT.nil)) (BT.node (o_100 P) (BT.node (o_167 P) BT.nil BT.nil) BT.nil)) (BT.node (o_49 P) (BT.node (o_81 P) (BT.node (o_148 P) BT.nil BT.nil) (BT.node (o_215 P) BT.nil BT.nil)) (BT.node (o_116 P) (BT.node (o_183 P) BT.nil BT.nil) BT.nil))) (BT.node (o_21 P) (BT.node (o_43 P) (BT.node (o_73 P) (BT.node (o_140 P) BT.nil BT.nil) (BT.node (o_207 P) BT.nil BT.nil)) (BT.node (o_108 P) (BT.node (o_175 P) BT.nil BT.nil) BT.nil)) (BT.node (o_57 P) (BT.node (o_89 P) (BT.node (o_156 P) BT.nil BT.nil) (BT.node (o_223 P) BT.nil BT.nil)) (BT.node (o_124 P) (BT.node (o_191 P) BT.nil BT.nil) BT.nil)))))) (BT.node (boot_o_2 P) (BT.node (boot_o_4 P) (BT.node (boot_o_8 P) (BT.node (o_8 P) (BT.node (o_24 P) (BT.node (o_60 P) (BT.node (o_127 P) BT.nil BT.nil) (BT.node (o_194 P) BT.nil BT.nil)) (BT.node (o_95 P) (BT.node (o_159 P) BT.nil BT.nil) (BT.node (o_226 P) BT.nil BT.nil))) (BT.node (o_44 P) (BT.node (o_76 P) (BT.node (o_143 P) BT.nil BT.nil) (BT.node (o_210 P) BT.nil BT.nil)) (BT.node (o_111 P) (BT.node (o_178 P) BT.nil BT.nil) BT.nil))) (BT.node (o_16 P) (BT.node (o_32 P) (BT.node (o_68 P) (BT.node (o_135 P) BT.nil BT.nil) (BT.node (o_202 P) BT.nil BT.nil)) (BT.node (o_103 P) (BT.node (o_170 P) BT.nil BT.nil) BT.nil)) (BT.node (o_52 P) (BT.node (o_84 P) (BT.node (o_151 P) BT.nil BT.nil) (BT.node (o_218 P) BT.nil BT.nil)) (BT.node (o_119 P) (BT.node (o_186 P) BT.nil BT.nil) BT.nil)))) (BT.node (o_166 P) (BT.node (o_12 P) (BT.node (o_28 P) (BT.node (o_64 P) (BT.node (o_131 P) BT.nil BT.nil) (BT.node (o_198 P) BT.nil BT.nil)) (BT.node (o_99 P) (BT.node (o_163 P) BT.nil BT.nil) BT.nil)) (BT.node (o_48 P) (BT.node (o_80 P) (BT.node (o_147 P) BT.nil BT.nil) (BT.node (o_214 P) BT.nil BT.nil)) (BT.node (o_115 P) (BT.node (o_182 P) BT.nil BT.nil) BT.nil))) (BT.node (o_20 P) (BT.node (o_36 P) (BT.node (o_72 P) (BT.node (o_139 P) BT.nil BT.nil) (BT.node (o_206 P) BT.nil BT.nil)) (BT.node (o_107 P) (BT.node (o_174 P) BT.nil BT.nil) BT.nil)) (BT.node (o_56 P) (BT.node (o_88 P) (BT.node (o_155 P) BT.nil BT.nil) (BT.node (o_222 P) BT.nil BT.nil)) (BT.node (o_123 P) (BT.node (o_190 P) BT.nil BT.nil) BT.nil))))) (BT.node (boot_o_6 P) (BT.node (boot_o_10 P) (BT.node (o_10 P) (BT.node (o_26 P) (BT.node (o_62 P) (BT.node (o_129 P) BT.nil BT.nil) (BT.node (o_196 P) BT.nil BT.nil)) (BT.node (o_97 P) (BT.node (o_161 P) BT.nil BT.nil) (BT.node (o_228 P) BT.nil BT.nil))) (BT.node (o_46 P) (BT.node (o_78 P) (BT.node (o_145 P) BT.nil BT.nil) (BT.node (o_212 P) BT.nil BT.nil)) (BT.node (o_113 P) (BT.node (o_180 P) BT.nil BT.nil) BT.nil))) (BT.node (o_18 P) (BT.node (o_34 P) (BT.node (o_70 P) (BT.node (o_137 P) BT.nil BT.nil) (BT.node (o_204 P) BT.nil BT.nil)) (BT.node (o_105 P) (BT.node (o_172 P) BT.nil BT.nil) BT.nil)) (BT.node (o_54 P) (BT.node (o_86 P) (BT.node (o_153 P) BT.nil BT.nil) (BT.node (o_220 P) BT.nil BT.nil)) (BT.node (o_121 P) (BT.node (o_188 P) BT.nil BT.nil) BT.nil)))) (BT.node (o_4 P) (BT.node (o_14 P) (BT.node (o_30 P) (BT.node (o_66 P) (BT.node (o_133 P) BT.nil BT.nil) (BT.node (o_200 P) BT.nil BT.nil)) (BT.node (o_101 P) (BT.node (o_168 P) BT.nil BT.nil) BT.nil)) (BT.node (o_50 P) (BT.node (o_82 P) (BT.node (o_149 P) BT.nil BT.nil) (BT.node (o_216 P) BT.nil BT.nil)) (BT.node (o_117 P) (BT.node (o_184 P) BT.nil BT.nil) BT.nil))) (BT.node (o_22 P) (BT.node (o_38 P) (BT.node (o_74 P) (BT.node (o_141 P) BT.nil BT.nil) (BT.node (o_208 P) BT.nil BT.nil)) (BT.node (o_109 P) (BT.node (o_176 P) BT.nil BT.nil) BT.nil)) (BT.node (o_58 P) (BT.node (o_90 P) (BT.node (o_157 P) BT.nil BT.nil) (BT.node (o_224 P) BT.nil BT.nil)) (BT.node (o_125 P) (BT.node (o_192 P) BT.nil BT.nil) BT.nil))))))
noncomputable def tree_312 (P : Params) : BT := BT.node (boot_o_0 P) (BT.node (boot_o_1 P) (BT.node (o_231 P) (BT.node (boot_o_7 P) (BT.node (o_7 P) (BT.node (o_23 P) (BT.node (o_59 P) (BT.node (o_126 P) (BT.node (o_260 P) BT.nil BT.nil) BT.nil) (BT.node (o_193 P) BT.nil BT.nil)) (BT.node (o_94 P) (BT.node (o_158 P) (BT.node (o_292 P) BT.nil BT.nil) BT.nil) (BT.node (o_225 P) BT.nil BT.nil))) (BT.node (o_39 P) (BT.node (o_75 P) (BT.node (o_142 P) (BT.node (o_276 P) BT.nil BT.nil) BT.nil) (BT.node (o_209 P) BT.nil BT.nil)) (BT.node (o_110 P) (BT.node (o_177 P) (BT.node (o_308 P) BT.nil BT.nil) BT.nil) (BT.node (o_244 P) BT.nil BT.nil)))) (BT.node (o_15 P) (BT.node (o_31 P) (BT.node (o_67 P) (BT.node (o_134 P) (BT.node (o_268 P) BT.nil BT.nil) BT.nil) (BT.node (o_201 P) BT.nil BT.nil)) (BT.node (o_102 P) (BT.node (o_169 P) (BT.node (o_300 P) BT.nil BT.nil) BT.nil) (BT.node (o_236 P) BT.nil BT.nil))) (BT.node (o_51 P) (BT.node (o_83 P) (BT.node (o_150 P) (BT.node (o_284 P) BT.nil BT.nil) BT.nil) (BT.node (o_217 P) BT.nil BT.nil)) (BT.node (o_118 P) (BT.node (o_185 P) BT.nil BT.nil) (BT.node (o_252 P) BT.nil BT.nil))))) (BT.node (o_1 P) (BT.node (o_11 P) (BT.node (o_27 P) (BT.node (o_63 P) (BT.node (o_130 P) (BT.node (o_264 P) BT.nil BT.nil) BT.nil) (BT.node (o_197 P) BT.nil BT.nil)) (BT.node (o_98 P) (BT.node (o_162 P) (BT.node (o_296 P) BT.nil BT.nil) BT.nil) (BT.node (o_229 P) BT.nil BT.nil))) (BT.node (o_47 P) (BT.node (o_79 P) (BT.node (o_146 P) (BT.node (o_280 P) BT.nil BT.nil) BT.nil) (BT.node (o_213 P) BT.nil BT.nil)) (BT.node (o_114 P) (BT.node (o_181 P) (BT.node (o_312 P) BT.nil BT.nil) BT.nil) (BT.node (o_248 P) BT.nil BT.nil)))) (BT.node (o_19 P) (BT.node (o_35 P) (BT.node (o_71 P) (BT.node (o_138 P) (BT.node (o_272 P) BT.nil BT.nil) BT.nil) (BT.node (o_205 P) BT.nil BT.nil)) (BT.node (o_106 P) (BT.node (o_173 P) (BT.node (o_304 P) BT.nil BT.nil) BT.nil) (BT.node (o_240 P) BT.nil BT.nil))) (BT.node (o_55 P) (BT.node (o_87 P) (BT.node (o_154 P) (BT.node (o_288 P) BT.nil BT.nil) BT.nil) (BT.node (o_221 P) BT.nil BT.nil)) (BT.node (o_122 P) (BT.node (o_189 P) BT.nil BT.nil) (BT.node (o_256 P) BT.nil BT.nil)))))) (BT.node (boot_o_5 P) (BT.node (boot_o_9 P) (BT.node (o_9 P) (BT.node (o_25 P) (BT.node (o_61 P) (BT.node (o_128 P) (BT.node (o_262 P) BT.nil BT.nil) BT.nil) (BT.node (o_195 P) BT.nil BT.nil)) (BT.node (o_96 P) (BT.node (o_160 P) (BT.node (o_294 P) BT.nil BT.nil) BT.nil) (BT.node (o_227 P) BT.nil BT.nil))) (BT.node (o_45 P) (BT.node (o_77 P) (BT.node (o_144 P) (BT.node (o_278 P) BT.nil BT.nil) BT.nil) (BT.node (o_211 P) BT.nil BT.nil)) (BT.node (o_112 P) (BT.node (o_179 P) (BT.node (o_310 P) BT.nil BT.nil) BT.nil) (BT.node (o_246 P) BT.nil BT.nil)))) (BT.node (o_17 P) (BT.node (o_33 P) (BT.node (o_69 P) (BT.node (o_136 P) (BT.node (o_270 P) BT.nil BT.nil) BT.nil) (BT.node (o_203 P) BT.nil BT.nil)) (BT.node (o_104 P) (BT.node (o_171 P) (BT.node (o_302 P) BT.nil BT.nil) BT.nil) (BT.node (o_238 P) BT.nil BT.nil))) (BT.node (o_53 P) (BT.node (o_85 P) (BT.node (o_152 P) (BT.node (o_286 P) BT.nil BT.nil) BT.nil) (BT.node (o_219 P) BT.nil BT.nil)) (BT.node (o_120 P) (BT.node (o_187 P) BT.nil BT.nil) (BT.node (o_254 P) BT.nil BT.nil))))) (BT.node (o_3 P) (BT.node (o_13 P) (BT.node (o_29 P) (BT.node (o_65 P) (BT.node (o_132 P) (BT.node (o_266 P) BT.nil BT.nil) BT.nil) (BT.node (o_199 P) BT.nil BT.nil)) (BT.node (o_100 P) (BT.node (o_167 P) (BT.node (o_298 P) BT.nil BT.nil) BT.nil) (BT.node (o_234 P) BT.nil BT.nil))) (BT.node (o_49 P) (BT.node (o_81 P) (BT.node (o_148 P) (BT.node (o_282 P) BT.nil BT.nil) BT.nil) (BT.node (o_215 P) BT.nil BT.nil)) (BT.node (o_116 P) (BT.node (o_183 P) BT.nil BT.nil) (BT.node (o_250 P) BT.nil BT.nil)))) (BT.node (o_21 P) (BT.node (o_43 P) (BT.node (o_73 P) (BT.node (o_140 P) (BT.node (o_274 P) BT.nil BT.nil) BT.nil) (BT.node (o_207 P) BT.nil BT.nil)) (BT.node (o_108 P) (BT.node (o_175 P) (BT.node (o_306 P) BT.nil BT.nil) BT.nil) (BT.node (o_242 P) BT.nil BT.nil))) (BT.node (o_57 P) (BT.node (o_89 P) (BT.node (o_156 P) (BT.node (o_290 P) BT.nil BT.nil) BT.nil) (BT.node (o_223 P) BT.nil BT.nil)) (BT.node (o_124 P) (BT.node (o_191 P) BT.nil BT.nil) (BT.node (o_258 P) BT.nil BT.nil))))))) (BT.node (boot_o_2 P) (BT.node (boot_o_4 P) (BT.node (boot_o_8 P) (BT.node (o_8 P) (BT.node (o_24 P) (BT.node (o_60 P) (BT.node (o_127 P) (BT.node (o_261 P) BT.nil BT.nil) BT.nil) (BT.node (o_194 P) BT.nil BT.nil)) (BT.node (o_95 P) (BT.node (o_159 P) (BT.node (o_293 P) BT.nil BT.nil) BT.nil) (BT.node (o_226 P) BT.nil BT.nil))) (BT.node (o_44 P) (BT.node (o_76 P) (BT.node (o_143 P) (BT.node (o_277 P) BT.nil BT.nil) BT.nil) (BT.node (o_210 P) BT.nil BT.nil)) (BT.node (o_111 P) (BT.node (o_178 P) (BT.node (o_309 P) BT.nil BT.nil) BT.nil) (BT.node (o_245 P) BT.nil BT.nil)))) (BT.node (o_16 P) (BT.node (o_32 P) (BT.node (o_68 P) (BT.node (o_135 P) (BT.node (o_269 P) BT.nil BT.nil) BT.nil) (BT.node (o_202 P) BT.nil BT.nil)) (BT.node (o_103 P) (BT.node (o_170 P) (BT.node (o_301 P) BT.nil BT.nil) BT.nil) (BT.node (o_237 P) BT.nil BT.nil))) (BT.node (o_52 P) (BT.node (o_84 P) (BT.node (o_151 P) (BT.node (o_285 P) BT.nil BT.nil) BT.nil) (BT.node (o_218 P) BT.nil BT.nil)) (BT.node (o_119 P) (BT.node (o_186 P) BT.nil BT.nil) (BT.node (o_253 P) BT.nil BT.nil))))) (BT.node (o_232 P) (BT.node (o_12 P) (BT.node (o_28 P) (BT.node (o_64 P) (BT.node (o_131 P) (BT.node (o_265 P) BT.nil BT.nil) BT.nil) (BT.node (o_198 P) BT.nil BT.nil)) (BT.node (o_99 P) (BT.node (o_163 P) (BT.node (o_297 P) BT.nil BT.nil) BT.nil) (BT.node (o_233 P) BT.nil BT.nil))) (BT.node (o_48 P) (BT.node (o_80 P) (BT.node (o_147 P) (BT.node (o_281 P) BT.nil BT.nil) BT.nil) (BT.node (o_214 P) BT.nil BT.nil)) (BT.node (o_115 P) (BT.node (o_182 P) BT.nil BT.nil) (BT.node (o_249 P) BT.nil BT.nil)))) (BT.node (o_20 P) (BT.node (o_36 P) (BT.node (o_72 P) (BT.node (o_139 P) (BT.node (o_273 P) BT.nil BT.nil) BT.nil) (BT.node (o_206 P) BT.nil BT.nil)) (BT.node (o_107 P) (BT.node (o_174 P) (BT.node (o_305 P) BT.nil BT.nil) BT.nil) (BT.node (o_241 P) BT.nil BT.nil))) (BT.node (o_56 P) (BT.node (o_88 P) (BT.node (o_155 P) (BT.node (o_289 P) BT.nil BT.nil) BT.nil) (BT.node (o_222 P) BT.nil BT.nil)) (BT.node (o_123 P) (BT.node (o_190 P) BT.nil BT.nil) (BT.node (o_257 P) BT.nil BT.nil)))))) (BT.node (boot_o_6 P) (BT.node (boot_o_10 P) (BT.node (o_10 P) (BT.node (o_26 P) (BT.node (o_62 P) (BT.node (o_129 P) (BT.node (o_263 P) BT.nil BT.nil) BT.nil) (BT.node (o_196 P) BT.nil BT.nil)) (BT.node (o_97 P) (BT.node (o_161 P) (BT.node (o_295 P) BT.nil BT.nil) BT.nil) (BT.node (o_228 P) BT.nil BT.nil))) (BT.node (o_46 P) (BT.node (o_78 P) (BT.node (o_145 P) (BT.node (o_279 P) BT.nil BT.nil) BT.nil) (BT.node (o_212 P) BT.nil BT.nil)) (BT.node (o_113 P) (BT.node (o_180 P) (BT.node (o_311 P) BT.nil BT.nil) BT.nil) (BT.node (o_247 P) BT.nil BT.nil)))) (BT.node (o_18 P) (BT.node (o_34 P) (BT.node (o_70 P) (BT.node (o_137 P) (BT.node (o_271 P) BT.nil BT.nil) BT.nil) (BT.node (o_204 P) BT.nil BT.nil)) (BT.node (o_105 P) (BT.node (o_172 P) (BT.node (o_303 P) BT.nil BT.nil) BT.nil) (BT.node (o_239 P) BT.nil BT.nil))) (BT.node (o_54 P) (BT.node (o_86 P) (BT.node (o_153 P) (BT.node (o_287 P) BT.nil BT.nil) BT.nil) (BT.node (o_220 P) BT.nil BT.nil)) (BT.node (o_121 P) (BT.node (o_188 P) BT.nil BT.nil) (BT.node (o_255 P) BT.nil BT.nil))))) (BT.node (o_4 P) (BT.node (o_14 P) (BT.node (o_30 P) (BT.node (o_66 P) (BT.node (o_133 P) (BT.node (o_267 P) BT.nil BT.nil) BT.nil) (BT.node (o_200 P) BT.nil BT.nil)) (BT.node (o_101 P) (BT.node (o_168 P) (BT.node (o_299 P) BT.nil BT.nil) BT.nil) (BT.node (o_235 P) BT.nil BT.nil))) (BT.node (o_50 P) (BT.node (o_82 P) (BT.node (o_149 P) (BT.node (o_283 P) BT.nil BT.nil) BT.nil) (BT.node (o_216 P) BT.nil BT.nil)) (BT.node (o_117 P) (BT.node (o_184 P) BT.nil BT.nil) (BT.node (o_251 P) BT.nil BT.nil)))) (BT.node (o_22 P) (BT.node (o_38 P) (BT.node (o_74 P) (BT.node (o_141 P) (BT.node (o_275 P) BT.nil BT.nil) BT.nil) (BT.node (o_208 P) BT.nil BT.nil)) (BT.node (o_109 P) (BT.node (o_176 P) (BT.node (o_307 P) BT.nil BT.nil) BT.nil) (BT.node (o_243 P) BT.nil BT.nil))) (BT.node (o_58 P) (BT.node (o_90 P) (BT.node (o_157 P) (BT.node (o_291 P) BT.nil BT.nil) BT.nil) (BT.node (o_224 P) BT.nil BT.nil)) (BT.node (o_125 P) (BT.node (o_192 P) BT.nil BT.nil) (BT.node (o_259 P) BT.nil BT.nil)))))))
noncomputable def tree_346 (P : Params) : BT := BT.node (boot_o_0 P) (BT.node (boot_o_1 P) (BT.node (o_314 P) (BT.node (boot_o_7 P) (BT.node (o_7 P) (BT.node (o_23 P) (BT.node (o_59 P) (BT.node (o_126 P) (BT.node (o_260 P) BT.nil BT.nil) BT.nil) (BT.node (o_193 P) (BT.node (o_327 P) BT.nil BT.nil) BT.nil)) (BT.node (o_94 P) (BT.node (o_158 P) (BT.node (o_292 P) BT.nil BT.nil) BT.nil) (BT.node (o_225 P) BT.nil BT.nil))) (BT.node (o_39 P) (BT.node (o_75 P) (BT.node (o_142 P) (BT.node (o_276 P) BT.nil BT.nil) BT.nil) (BT.node (o_209 P) (BT.node (o_343 P) BT.nil BT.nil) BT.nil)) (BT.node (o_110 P) (BT.node (o_177 P) (BT.node (o_308 P) BT.nil BT.nil) BT.nil) (BT.node (o_244 P) BT.nil BT.nil)))) (BT.node (o_15 P) (BT.node (o_31 P) (BT.node (o_67 P) (BT.node (o_134 P) (BT.node (o_268 P) BT.nil BT.nil) BT.nil) (BT.node (o_201 P) (BT.node (o_335 P) BT.nil BT.nil) BT.nil)) (BT.node (o_102 P) (BT.node (o_169 P) (BT.node (o_300 P) BT.nil BT.nil) BT.nil) (BT.node (o_236 P) BT.nil BT.nil))) (BT.node (o_51 P) (BT.node (o_83 P) (BT.node (o_150 P) (BT.node (o_284 P) BT.nil BT.nil) BT.nil) (BT.node (o_217 P) BT.nil BT.nil)) (BT.node (o_118 P) (BT.node (o_185 P) (BT.node (o_319 P) BT.nil BT.nil) BT.nil) (BT.node (o_252 P) BT.nil BT.nil))))) (BT.node (o_1 P) (BT.node (o_11 P) (BT.node (o_27 P) (BT.node (o_63 P) (BT.node (o_130 P) (BT.node (o_264 P) BT.nil BT.nil) BT.nil) (BT.node (o_197 P) (BT.node (o_331 P) BT.nil BT.nil) BT.nil)) (BT.node (o_98 P) (BT.node (o_162 P) (BT.node (o_296 P) BT.nil BT.nil) BT.nil) (BT.node (o_229 P) BT.nil BT.nil))) (BT.node (o_47 P) (BT.node (o_79 P) (BT.node (o_146 P) (BT.node (o_280 P) BT.nil BT.nil) BT.nil) (BT.node (o_213 P) BT.nil BT.nil)) (BT.node (o_114 P) (BT.node (o_181 P) (BT.node (o_312 P) BT.nil BT.nil) BT.nil) (BT.node (o_248 P) BT.nil BT.nil)))) (BT.node (o_19 P) (BT.node (o_35 P) (BT.node (o_71 P) (BT.node (o_138 P) (BT.node (o_272 P) BT.nil BT.nil) BT.nil) (BT.node (o_205 P) (BT.node (o_339 P) BT.nil BT.nil) BT.nil)) (BT.node (o_106 P) (BT.node (o_173 P) (BT.node (o_304 P) BT.nil BT.nil) BT.nil) (BT.node (o_240 P) BT.nil BT.nil))) (BT.node (o_55 P) (BT.node (o_87 P) (BT.node (o_154 P) (BT.node (o_288 P) BT.nil BT.nil) BT.nil) (BT.node (o_221 P) BT.nil BT.nil)) (BT.node (o_122 P) (BT.node (o_189 P) (BT.node (o_323 P) BT.nil BT.nil) BT.nil) (BT.node (o_256 P) BT.nil BT.nil)))))) (BT.node (boot_o_5 P) (BT.node (boot_o_9 P) (BT.node (o_9 P) (BT.node (o_25 P) (BT.node (o_61 P) (BT.node (o_128 P) (BT.node (o_262 P) BT.nil BT.nil) BT.nil) (BT.node (o_195 P) (BT.node (o_329 P) BT.nil BT.nil) BT.nil)) (BT.node (o_96 P) (BT.node (o_160 P) (BT.node (o_294 P) BT.nil BT.nil) BT.nil) (BT.node (o_227 P) BT.nil BT.nil))) (BT.node (o_45 P) (BT.node (o_77 P) (BT.node (o_144 P) (BT.node (o_278 P) BT.nil BT.nil) BT.nil) (BT.node (o_211 P) (BT.node (o_345 P) BT.nil BT.nil) BT.nil)) (BT.node (o_112 P) (BT.node (o_179 P) (BT.node (o_310 P) BT.nil BT.nil) BT.nil) (BT.node (o_246 P) BT.nil BT.nil)))) (BT.node (o_17 P) (BT.node (o_33 P) (BT.node (o_69 P) (BT.node (o_136 P) (BT.node (o_270 P) BT.nil BT.nil) BT.nil) (BT.node (o_203 P) (BT.node (o_337 P) BT.nil BT.nil) BT.nil)) (BT.node (o_104 P) (BT.node (o_171 P) (BT.node (o_302 P) BT.nil BT.nil) BT.nil) (BT.node (o_238 P) BT.nil BT.nil))) (BT.node (o_53 P) (BT.node (o_85 P) (BT.node (o_152 P) (BT.node (o_286 P) BT.nil BT.nil) BT.nil) (BT.node (o_219 P) BT.nil BT.nil)) (BT.node (o_120 P) (BT.node (o_187 P) (BT.node (o_321 P) BT.nil BT.nil) BT.nil) (BT.node (o_254 P) BT.nil BT.nil))))) (BT.node (o_3 P) (BT.node (o_13 P) (BT.node (o_29 P) (BT.node (o_65 P) (BT.node (o_132 P) (BT.node (o_266 P) BT.nil BT.nil) BT.nil) (BT.node (o_199 P) (BT.node (o_333 P) BT.nil BT.nil) BT.nil)) (BT.node (o_100 P) (BT.node (o_167 P) (BT.node (o_298 P) BT.nil BT.nil) BT.nil) (BT.node (o_234 P) BT.nil BT.nil))) (BT.node (o_49 P) (BT.node (o_81 P) (BT.node (o_148 P) (BT.node (o_282 P) BT.nil BT.nil) BT.nil) (BT.node (o_215 P) BT.nil BT.nil)) (BT.node (o_116 P) (BT.node (o_183 P) (BT.node (o_317 P) BT.nil BT.nil) BT.nil) (BT.node (o_250 P) BT.nil BT.nil)))) (BT.node (o_21 P) (BT.node (o_43 P) (BT.node (o_73 P) (BT.node (o_140 P) (BT.node (o_274 P) BT.nil BT.nil) BT.nil) (BT.node (o_207 P) (BT.node (o_341 P) BT.nil BT.nil) BT.nil)) (BT.node (o_108 P) (BT.node (o_175 P) (BT.node (o_306 P) BT.nil BT.nil) BT.nil) (BT.node (o_242 P) BT.nil BT.nil))) (BT.node (o_57 P) (BT.node (o_89 P) (BT.node (o_156 P) (BT.node (o_290 P) BT.nil BT.nil) BT.nil) (BT.node (o_223 P) BT.nil BT.nil)) (BT.node (o_124 P) (BT.node (o_191 P) (BT.node (o_325 P) BT.nil BT.nil) BT.nil) (BT.node (o_258 P) BT.nil BT.nil))))))) (BT.node (boot_o_2 P) (BT.node (boot_o_4 P) (BT.node (boot_o_8 P) (BT.node (o_8 P) (BT.node (o_24 P) (BT.node (o_60 P) (BT.node (o_127 P) (BT.node (o_261 P) BT.nil BT.nil) BT.nil) (BT.node (o_194 P) (BT.node (o_328 P) BT.nil BT.nil) BT.nil)) (BT.node (o_95 P) (BT.node (o_159 P) (BT.node (o_293 P) BT.nil BT.nil) BT.nil) (BT.node (o_226 P) BT.nil BT.nil))) (BT.node (o_44 P) (BT.node (o_76 P) (BT.node (o_143 P) (BT.node (o_277 P) BT.nil BT.nil) BT.nil) (BT.node (o_210 P) (BT.node (o_344 P) BT.nil BT.nil) BT.nil)) (BT.node (o_111 P) (BT.node (o_178 P) (BT.node (o_309 P) BT.nil BT.nil) BT.nil) (BT.node (o_245 P) BT.nil BT.nil)))) (BT.node (o_16 P) (BT.node (o_32 P) (BT.node (o_68 P) (BT.node (o_135 P) (BT.node (o_269 P) BT.nil BT.nil) BT.nil) (BT.node (o_202 P) (BT.node (o_336 P) BT.nil BT.nil) BT.nil)) (BT.node (o_103 P) (BT.node (o_170 P) (BT.node (o_301 P) BT.nil BT.nil) BT.nil) (BT.node (o_237 P) BT.nil BT.nil))) (BT.node (o_52 P) (BT.node (o_84 P) (BT.node (o_151 P) (BT.node (o_285 P) BT.nil BT.nil) BT.nil) (BT.node (o_218 P) BT.nil BT.nil)) (BT.node (o_119 P) (BT.node (o_186 P) (BT.node (o_320 P) BT.nil BT.nil) BT.nil) (BT.node (o_253 P) BT.nil BT.nil))))) (BT.node (o_315 P) (BT.node (o_12 P) (BT.node (o_28 P) (BT.node (o_64 P) (BT.node (o_131 P) (BT.node (o_265 P) BT.nil BT.nil) BT.nil) (BT.node (o_198 P) (BT.node (o_332 P) BT.nil BT.nil) BT.nil)) (BT.node (o_99 P) (BT.node (o_163 P) (BT.node (o_297 P) BT.nil BT.nil) BT.nil) (BT.node (o_233 P) BT.nil BT.nil))) (BT.node (o_48 P) (BT.node (o_80 P) (BT.node (o_147 P) (BT.node (o_281 P) BT.nil BT.nil) BT.nil) (BT.node (o_214 P) BT.nil BT.nil)) (BT.node (o_115 P) (BT.node (o_182 P) (BT.node (o_316 P) BT.nil BT.nil) BT.nil) (BT.node (o_249 P) BT.nil BT.nil)))) (BT.node (o_20 P) (BT.node (o_36 P) (BT.node (o_72 P) (BT.node (o_139 P) (BT.node (o_273 P) BT.nil BT.nil) BT.nil) (BT.node (o_206 P) (BT.node (o_340 P) BT.nil BT.nil) BT.nil)) (BT.node (o_107 P) (BT.node (o_174 P) (BT.node (o_305 P) BT.nil BT.nil) BT.nil) (BT.node (o_241 P) BT.nil BT.nil))) (BT.node (o_56 P) (BT.node (o_88 P) (BT.node (o_155 P) (BT.node (o_289 P) BT.nil BT.nil) BT.nil) (BT.node (o_222 P) BT.nil BT.nil)) (BT.node (o_123 P) (BT.node (o_190 P) (BT.node (o_324 P) BT.nil BT.nil) BT.nil) (BT.node (o_257 P) BT.nil BT.nil)))))) (BT.node (boot_o_6 P) (BT.node (boot_o_10 P) (BT.node (o_10 P) (BT.node (o_26 P) (BT.node (o_62 P) (BT.node (o_129 P) (BT.node (o_263 P) BT.nil BT.nil) BT.nil) (BT.node (o_196 P) (BT.node (o_330 P) BT.nil BT.nil) BT.nil)) (BT.node (o_97 P) (BT.node (o_161 P) (BT.node (o_295 P) BT.nil BT.nil) BT.nil) (BT.node (o_228 P) BT.nil BT.nil))) (BT.node (o_46 P) (BT.node (o_78 P) (BT.node (o_145 P) (BT.node (o_279 P) BT.nil BT.nil) BT.nil) (BT.node (o_212 P) (BT.node (o_346 P) BT.nil BT.nil) BT.nil)) (BT.node (o_113 P) (BT.node (o_180 P) (BT.node (o_311 P) BT.nil BT.nil) BT.nil) (BT.node (o_247 P) BT.nil BT.nil)))) (BT.node (o_18 P) (BT.node (o_34 P) (BT.node (o_70 P) (BT.node (o_137 P) (BT.node (o_271 P) BT.nil BT.nil) BT.nil) (BT.node (o_204 P) (BT.node (o_338 P) BT.nil BT.nil) BT.nil)) (BT.node (o_105 P) (BT.node (o_172 P) (BT.node (o_303 P) BT.nil BT.nil) BT.nil) (BT.node (o_239 P) BT.nil BT.nil))) (BT.node (o_54 P) (BT.node (o_86 P) (BT.node (o_153 P) (BT.node (o_287 P) BT.nil BT.nil) BT.nil) (BT.node (o_220 P) BT.nil BT.nil)) (BT.node (o_121 P) (BT.node (o_188 P) (BT.node (o_322 P) BT.nil BT.nil) BT.nil) (BT.node (o_255 P) BT.nil BT.nil))))) (BT.node (o_4 P) (BT.node (o_14 P) (BT.node (o_30 P) (BT.node (o_66 P) (BT.node (o_133 P) (BT.node (o_267 P) BT.nil BT.nil) BT.nil) (BT.node (o_200 P) (BT.node (o_334 P) BT.nil BT.nil) BT.nil)) (BT.node (o_101 P) (BT.node (o_168 P) (BT.node (o_299 P) BT.nil BT.nil) BT.nil) (BT.node (o_235 P) BT.nil BT.nil))) (BT.node (o_50 P) (BT.node (o_82 P) (BT.node (o_149 P) (BT.node (o_283 P) BT.nil BT.nil) BT.nil) (BT.node (o_216 P) BT.nil BT.nil)) (BT.node (o_117 P) (BT.node (o_184 P) (BT.node (o_318 P) BT.nil BT.nil) BT.nil) (BT.node (o_251 P) BT.nil BT.nil)))) (BT.node (o_22 P) (BT.node (o_38 P) (BT.node (o_74 P) (BT.node (o_141 P) (BT.node (o_275 P) BT.nil BT.nil) BT.nil) (BT.node (o_208 P) (BT.node (o_342 P) BT.nil BT.nil) BT.nil)) (BT.node (o_109 P) (BT.node (o_176 P) (BT.node (o_307 P) BT.nil BT.nil) BT.nil) (BT.node (o_243 P) BT.nil BT.nil))) (BT.node (o_58 P) (BT.node (o_90 P) (BT.node (o_157 P) (BT.node (o_291 P) BT.nil BT.nil) BT.nil) (BT.node (o_224 P) BT.nil BT.nil)) (BT.node (o_125 P) (BT.node (o_192 P) (BT.node (o_326 P) BT.nil BT.nil) BT.nil) (BT.node (o_259 P) BT.nil BT.nil)))))))
noncomputable def env_1 : Env := { scope := Challenge.pw_pd0061_01.main.scope, locals := mainNs, globals := mainNs, cells := [], code := Value.ref 13, frame := some 14 }
noncomputable def sts_4 : List Stmt := ((behindTheImports PySem.Challenge.pw_pd0061_01).drop 0).take 6
noncomputable def sts_41 : List Stmt := ((behindTheImports PySem.Challenge.pw_pd0061_01).drop 6).take 5
noncomputable def sts_92 : List Stmt := ((behindTheImports PySem.Challenge.pw_pd0061_01).drop 11).take 19
noncomputable def sts_165 : List Stmt := ((behindTheImports PySem.Challenge.pw_pd0061_01).drop 30).take 21
noncomputable def sts_231 : List Stmt := ((behindTheImports PySem.Challenge.pw_pd0061_01).drop 51).take 9
noncomputable def sts_314 : List Stmt := ((behindTheImports PySem.Challenge.pw_pd0061_01).drop 60).take 5
theorem run_4 (w : World) (p : Program) (b : List Stmt) (os : OsState) : segRunT treeTable p w 11 (some (Value.ref 6)) 1 297 (SharedT.mk (tree_4 w.params) 15 {} (Array.mk []) {} 187 os) (piecesOf sts_4 env_1 (Code.body b env_1) { line := 0, col := 0, endLine := 0, endCol := 0 } [topFrame (posAt 0 0 0 0)]) = some (Flow.next, SharedT.mk (tree_39 w.params) 48 {} (Array.mk []) {} 233 os, Code.body b env_1, { line := 15, col := 0, endLine := 15, endCol := 8 }) := by kernel_rfl
theorem run_41 (w : World) (p : Program) (b : List Stmt) (os : OsState) : segRunT treeTable p w 11 (some (Value.ref 6)) 1 389 (SharedT.mk (tree_39 w.params) 48 {} (Array.mk []) {} 233 os) (piecesOf sts_41 env_1 (Code.body b env_1) { line := 15, col := 0, endLine := 15, endCol := 8 } [topFrame (posAt 0 0 0 0)]) = some (Flow.next, SharedT.mk (tree_90 w.params) 95 {} (Array.mk []) {} 295 os, Code.body b env_1, { line := 51, col := 0, endLine := 51, endCol := 8 }) := by kernel_rfl
theorem run_92 (w : World) (p : Program) (b : List Stmt) (os : OsState) : segRunT treeTable p w 11 (some (Value.ref 6)) 1 396 (SharedT.mk (tree_90 w.params) 95 {} (Array.mk []) {} 295 os) (piecesOf sts_92 env_1 (Code.body b env_1) { line := 51, col := 0, endLine := 51, endCol := 8 } [topFrame (posAt 0 0 0 0)]) = some (Flow.next, SharedT.mk (tree_163 w.params) 165 {} (Array.mk []) {} 407 os, Code.body b env_1, { line := 150, col := 0, endLine := 151, endCol := 34 }) := by kernel_rfl
theorem run_165 (w : World) (p : Program) (b : List Stmt) (os : OsState) : segRunT treeTable p w 11 (some (Value.ref 6)) 1 370 (SharedT.mk (tree_163 w.params) 165 {} (Array.mk []) {} 407 os) (piecesOf sts_165 env_1 (Code.body b env_1) { line := 150, col := 0, endLine := 151, endCol := 34 } [topFrame (posAt 0 0 0 0)]) = some (Flow.next, SharedT.mk (tree_229 w.params) 228 {} (Array.mk []) {} 494 os, Code.body b env_1, { line := 181, col := 0, endLine := 181, endCol := 7 }) := by kernel_rfl
theorem run_231 (w : World) (p : Program) (b : List Stmt) (os : OsState) : segRunT treeTable p w 11 (some (Value.ref 6)) 1 390 (SharedT.mk (tree_229 w.params) 228 {} (Array.mk []) {} 494 os) (piecesOf sts_231 env_1 (Code.body b env_1) { line := 181, col := 0, endLine := 181, endCol := 7 } [topFrame (posAt 0 0 0 0)]) = some (Flow.next, SharedT.mk (tree_312 w.params) 308 {} (Array.mk []) {} 589 os, Code.body b env_1, { line := 243, col := 0, endLine := 250, endCol := 15 }) := by kernel_rfl
theorem run_314 (w : World) (p : Program) (b : List Stmt) (os : OsState) : segRunT treeTable p w 11 (some (Value.ref 6)) 1 150 (SharedT.mk (tree_312 w.params) 308 {} (Array.mk []) {} 589 os) (piecesOf sts_314 env_1 (Code.body b env_1) { line := 243, col := 0, endLine := 250, endCol := 15 } [topFrame (posAt 0 0 0 0)]) = some (Flow.next, SharedT.mk (tree_346 w.params) 339 {} (Array.mk []) {} 632 os, Code.body b env_1, { line := 283, col := 0, endLine := 296, endCol := 15 }) := by kernel_rfl
theorem chain (p : Program) (b : List Stmt) (w : World) (os : OsState) (rest : List Stmt) (N : Nat) (r : Shared)
    (h : topRun treeTable p w 11 (some (Value.ref 6)) N (SharedT.mk (tree_346 w.params) 339 {} (Array.mk []) {} 632 os).abs (restOf rest env_1 (Code.body b env_1) { line := 283, col := 0, endLine := 296, endCol := 15 } [topFrame (posAt 0 0 0 0)]) = some r) :
    topRun treeTable p w 11 (some (Value.ref 6)) (297 + (389 + (396 + (370 + (390 + (150 + N)))))) (SharedT.mk (tree_4 w.params) 15 {} (Array.mk []) {} 187 os).abs (restOf (sts_4 ++ (sts_41 ++ (sts_92 ++ (sts_165 ++ (sts_231 ++ (sts_314 ++ rest)))))) env_1 (Code.body b env_1) { line := 0, col := 0, endLine := 0, endCol := 0 } [topFrame (posAt 0 0 0 0)]) = some r :=
  piece_app (segRun_of (run_4 w p b os)) (piece_app (segRun_of (run_41 w p b os)) (piece_app (segRun_of (run_92 w p b os)) (piece_app (segRun_of (run_165 w p b os)) (piece_app (segRun_of (run_231 w p b os)) (piece_app (segRun_of (run_314 w p b os)) h)))))
end top
end Mine

end SHT
section SHL
open PySem PySem.W PySem.W.X PyProof.Rows PySem.Calls
set_option maxRecDepth 100000
set_option maxHeartbeats 0
namespace Mine
noncomputable abbrev pw := PySem.Challenge.pw_pd0061_01
theorem hd_open : ∀ w : World, (fencedOpening treeTable PySem.Challenge.pw_pd0061_01 w 4098).map (fun s => (s.heap, s.gens, s.drawn, s.toks)) = some (boot_heap w.params, Array.mk [], boot_drawn, boot_toks) :=
  boot_open (by kernel_rfl) (by decide) (fun s => by kernel_rfl)
theorem hd_size : ∀ w : World, ((boot_heap w.params).isNs mainGlobals && (Array.mk [] : Array GenState).size == 0, (boot_heap w.params).objs.size, (boot_heap w.params).nsMap mainGlobals "__annotations__") = (true, 11, some (.ref 6)) := fun w => by kernel_rfl
noncomputable def sB (w : World) (os : OsState) : Shared := (SharedT.mk (top.tree_4 w.params) 15 {} (Array.mk []) {} 187 os).abs
noncomputable def sK (w : World) (os : OsState) : Shared := (SharedT.mk (top.tree_346 w.params) 339 {} (Array.mk []) {} 632 os).abs
noncomputable def cE : Code := Code.body (behindTheImports PySem.Challenge.pw_pd0061_01) top.env_1
noncomputable def pos0 : Pos := { line := 0, col := 0, endLine := 0, endCol := 0 }
theorem hd_fin (w : World) (os : OsState) : topRun treeTable PySem.Challenge.pw_pd0061_01 w 11 (some (Value.ref 6)) 2 (sK w os) (restOf [] top.env_1 cE { line := 283, col := 0, endLine := 296, endCol := 15 } [topFrame pos0]) = some (sK w os) := by kernel_rfl
end Mine

end SHL
section SHM
open PySem PySem.W PySem.W.X PyProof.Rows PySem.Calls
set_option maxRecDepth 100000
set_option maxHeartbeats 0
namespace Mine
theorem hd_block (w : World) (os : OsState) : segRun treeTable PySem.Challenge.pw_pd0061_01 w 11 (some (Value.ref 6)) 1 1 (sB w os) (blockOf (behindTheImports PySem.Challenge.pw_pd0061_01) top.env_1 cE pos0 [topFrame pos0]) = some (.next, sB w os, cE, pos0) := by kernel_rfl
theorem hd_sts : behindTheImports PySem.Challenge.pw_pd0061_01 = (top.sts_4 ++ (top.sts_41 ++ (top.sts_92 ++ (top.sts_165 ++ (top.sts_231 ++ (top.sts_314 ++ [])))))) := by kernel_rfl
theorem hd_pre (w : World) (os : OsState) : topGo treeTable PySem.Challenge.pw_pd0061_01 w 11 (some (Value.ref 6)) 12 ⟨boot_heap w.params, Array.mk [], boot_drawn, boot_toks, os⟩ (topStub PySem.Challenge.pw_pd0061_01) = some (sB w os, ⟨denote treeTable cE, cE, pos0, [topFrame pos0]⟩) := by kernel_rfl
end Mine

end SHM
section SHN
open PySem PySem.W PySem.W.X PyProof.Rows PySem.Calls
set_option maxRecDepth 100000
set_option maxHeartbeats 0
namespace Mine
noncomputable def hE (P : Params) : Heap := absHeap (top.tree_346 P) 339 {}
theorem hd_run (w : World) (os : OsState) : topRun treeTable PySem.Challenge.pw_pd0061_01 w 11 (some (Value.ref 6)) 2007 ⟨boot_heap w.params, Array.mk [], boot_drawn, boot_toks, os⟩ (topStub PySem.Challenge.pw_pd0061_01) = some ⟨hE w.params, Array.mk [], {}, 632, os⟩ :=
  go_top (N := 1995) (hd_pre w os) (piece_block (n := 1) (N := 1994) (hd_block w os) (by
    rw [hd_sts]
    exact top.chain PySem.Challenge.pw_pd0061_01 _ w os [] 2 _ (hd_fin w os)))
noncomputable def keepIx : List Nat := [0, 2, 4, 6, 7, 9, 11, 13, 14, 15, 16, 17, 18, 20, 21, 22, 23, 24, 25, 26, 27, 28, 29, 30, 31, 32, 33, 34, 35, 36, 37, 38, 39, 40, 41, 42, 43, 44, 45, 46, 47, 48, 49, 50, 51, 52, 54, 55, 56, 57, 58, 59, 60, 61, 62, 63, 64]
noncomputable def vw : Program := { PySem.Challenge.pw_pd0061_01 with main := { PySem.Challenge.pw_pd0061_01.main with body := keepIx.filterMap fun i => PySem.Challenge.pw_pd0061_01.main.body[i]? } }
theorem lk_a (w : World) : staticsOk (importedModules PySem.Challenge.pw_pd0061_01.main.body) (boot_heap w.params) (hE w.params) = true := by kernel_rfl
end Mine

end SHN
section SHO
open PySem PySem.W PySem.W.X PyProof.Rows PySem.Calls
set_option maxRecDepth 100000
set_option maxHeartbeats 0
namespace Mine
theorem lk_b (w : World) : namesBound PySem.Challenge.pw_pd0061_01 (hE w.params) = true := by kernel_rfl
theorem lk_c (w : World) (os : OsState) : gensDone ⟨hE w.params, Array.mk [], {}, 632, os⟩ = true := by kernel_rfl
theorem lk_d (w : World) : laidKept (boot_heap w.params) (hE w.params) = true := by kernel_rfl
end Mine

end SHO
section SHP
open PySem PySem.W PySem.W.X PyProof.Rows PySem.Calls
set_option maxRecDepth 100000
set_option maxHeartbeats 0
namespace Mine
noncomputable abbrev loose : List Str := [Str.ofString "_filemode_table"]
theorem lk_1 (w : World) (os : OsState) : seen ((recsOf vw).map (·.name)) (ownsOf vw) [] ⟨hE w.params, #[], {}, 632, os⟩ = expectedOf vw := by kernel_rfl
theorem lk_2 (w : World) : (hE w.params).bltView = bltViewBooted := by kernel_rfl
end Mine

end SHP
section SHQ
open PySem PySem.W PySem.W.X PyProof.Rows PySem.Calls
set_option maxRecDepth 100000
set_option maxHeartbeats 0
namespace Mine
noncomputable abbrev lv : List (Str × WData) := [(Str.ofString "_filemode_table",
          WData.tuple
            [WData.tuple
                [WData.tuple [WData.int 40960, WData.str { cps := #[108] }],
                  WData.tuple [WData.int 49152, WData.str { cps := #[115] }],
                  WData.tuple [WData.int 32768, WData.str { cps := #[45] }],
                  WData.tuple [WData.int 24576, WData.str { cps := #[98] }],
                  WData.tuple [WData.int 16384, WData.str { cps := #[100] }],
                  WData.tuple [WData.int 8192, WData.str { cps := #[99] }],
                  WData.tuple [WData.int 4096, WData.str { cps := #[112] }]],
              WData.tuple [WData.tuple [WData.int 256, WData.str { cps := #[114] }]],
              WData.tuple [WData.tuple [WData.int 128, WData.str { cps := #[119] }]],
              WData.tuple
                [WData.tuple [WData.int 2112, WData.str { cps := #[115] }],
                  WData.tuple [WData.int 2048, WData.str { cps := #[83] }],
                  WData.tuple [WData.int 64, WData.str { cps := #[120] }]],
              WData.tuple [WData.tuple [WData.int 32, WData.str { cps := #[114] }]],
              WData.tuple [WData.tuple [WData.int 16, WData.str { cps := #[119] }]],
              WData.tuple
                [WData.tuple [WData.int 1032, WData.str { cps := #[115] }],
                  WData.tuple [WData.int 1024, WData.str { cps := #[83] }],
                  WData.tuple [WData.int 8, WData.str { cps := #[120] }]],
              WData.tuple [WData.tuple [WData.int 4, WData.str { cps := #[114] }]],
              WData.tuple [WData.tuple [WData.int 2, WData.str { cps := #[119] }]],
              WData.tuple
                [WData.tuple [WData.int 513, WData.str { cps := #[116] }],
                  WData.tuple [WData.int 512, WData.str { cps := #[84] }],
                  WData.tuple [WData.int 1, WData.str { cps := #[120] }]]])]
theorem lk_3 (w : World) : (hE w.params).keysOk (looseW vw loose) ((recsOf vw).map (·.name)) ((litsOf vw).map (·.1)) ((clssOf vw (looseW vw loose)).map (·.name)) = true := by kernel_rfl
theorem lk_3b (w : World) : (hE w.params).accountedOkI (importedModules PySem.Challenge.pw_pd0061_01.main.body) = true := by kernel_rfl
theorem lk_3c (w : World) : (hE w.params).isNs mainGlobals = true := by kernel_rfl
theorem lk_3d (w : World) : (hE w.params).isNs builtinsNs = true := by kernel_rfl
theorem lk_3e (w : World) : tablesOk vw (hE w.params) = true := by kernel_rfl
theorem lk_3f (w : World) (os : OsState) : xlAt vw lv ⟨hE w.params, Array.mk [], {}, 632, os⟩ = true := by kernel_rfl
theorem lk_3g (w : World) (os : OsState) : recOk (PySem.Challenge.rw_pd0061_01.row.toRowW.records) ⟨hE w.params, Array.mk [], {}, 632, os⟩ = true := by kernel_rfl
theorem lk_4 (w : World) (os : OsState) : tabsOk vw ⟨hE w.params, Array.mk [], {}, 632, os⟩ = true := by kernel_rfl
theorem lk_5 (w : World) (os : OsState) : pinSeenD vw (drecsOf vw) ⟨hE w.params, Array.mk [], {}, 632, os⟩ = pinGoodD (drecsOf vw) := by kernel_rfl
theorem lk_6 (w : World) (os : OsState) : plainSeenE vw (looseW vw loose) ⟨hE w.params, Array.mk [], {}, 632, os⟩ = plainGoodE vw (looseW vw loose) := by kernel_rfl
theorem lk_7 (w : World) (os : OsState) : plainSeenD vw loose ⟨hE w.params, Array.mk [], {}, 632, os⟩ = plainGoodD vw loose := by kernel_rfl
theorem lk_8 (w : World) (os : OsState) : wideSeen vw ⟨hE w.params, Array.mk [], {}, 632, os⟩ = wideGood vw := by kernel_rfl
theorem lk_9 (w : World) (os : OsState) : clsSeenW vw loose ⟨hE w.params, Array.mk [], {}, 632, os⟩ = clsGoodW vw loose := by kernel_rfl
end Mine

end SHQ
section SHR
open PySem PySem.W PySem.W.X PyProof.Rows PySem.Calls
set_option maxRecDepth 100000
set_option maxHeartbeats 0
namespace Mine
noncomputable def KK (P : Params) : Frag := 
  (nat_lit 2, PySem.W.boot_o_2 P) :: (nat_lit 3, top.o_314 P) :: (nat_lit 15, top.o_7 P) :: (nat_lit 17, top.o_9 P) :: (nat_lit 18, top.o_10 P) :: (nat_lit 20, top.o_12 P) ::
  (nat_lit 21, top.o_13 P) :: (nat_lit 22, top.o_14 P) :: (nat_lit 24, top.o_16 P) :: (nat_lit 25, top.o_17 P) :: (nat_lit 27, top.o_19 P) :: (nat_lit 28, top.o_20 P) ::
  (nat_lit 29, top.o_21 P) :: (nat_lit 36, top.o_28 P) :: (nat_lit 38, top.o_30 P) :: (nat_lit 39, top.o_31 P) :: (nat_lit 41, top.o_33 P) :: (nat_lit 42, top.o_34 P) ::
  (nat_lit 43, top.o_35 P) :: (nat_lit 44, top.o_36 P) :: (nat_lit 45, top.o_43 P) :: (nat_lit 48, top.o_44 P) :: (nat_lit 55, top.o_51 P) :: (nat_lit 57, top.o_53 P) ::
  (nat_lit 58, top.o_54 P) :: (nat_lit 60, top.o_56 P) :: (nat_lit 61, top.o_57 P) :: (nat_lit 62, top.o_58 P) :: (nat_lit 64, top.o_60 P) :: (nat_lit 65, top.o_61 P) ::
  (nat_lit 67, top.o_63 P) :: (nat_lit 68, top.o_64 P) :: (nat_lit 69, top.o_65 P) :: (nat_lit 71, top.o_67 P) :: (nat_lit 72, top.o_68 P) :: (nat_lit 74, top.o_70 P) ::
  (nat_lit 75, top.o_71 P) :: (nat_lit 76, top.o_72 P) :: (nat_lit 77, top.o_73 P) :: (nat_lit 78, top.o_74 P) :: (nat_lit 81, top.o_77 P) :: (nat_lit 83, top.o_79 P) ::
  (nat_lit 84, top.o_80 P) :: (nat_lit 86, top.o_82 P) :: (nat_lit 87, top.o_83 P) :: (nat_lit 88, top.o_84 P) :: (nat_lit 90, top.o_86 P) :: (nat_lit 91, top.o_87 P) ::
  (nat_lit 93, top.o_89 P) :: (nat_lit 94, top.o_90 P) :: (nat_lit 95, top.o_94 P) :: (nat_lit 97, top.o_96 P) :: (nat_lit 98, top.o_97 P) :: (nat_lit 100, top.o_99 P) ::
  (nat_lit 101, top.o_100 P) :: (nat_lit 102, top.o_101 P) :: (nat_lit 104, top.o_103 P) :: (nat_lit 105, top.o_104 P) :: (nat_lit 107, top.o_106 P) :: (nat_lit 108, top.o_107 P) ::
  (nat_lit 109, top.o_108 P) :: (nat_lit 111, top.o_110 P) :: (nat_lit 112, top.o_111 P) :: (nat_lit 114, top.o_113 P) :: (nat_lit 115, top.o_114 P) :: (nat_lit 116, top.o_115 P) ::
  (nat_lit 118, top.o_117 P) :: (nat_lit 119, top.o_118 P) :: (nat_lit 121, top.o_120 P) :: (nat_lit 122, top.o_121 P) :: (nat_lit 123, top.o_122 P) :: (nat_lit 125, top.o_124 P) ::
  (nat_lit 126, top.o_125 P) :: (nat_lit 128, top.o_127 P) :: (nat_lit 129, top.o_128 P) :: (nat_lit 130, top.o_129 P) :: (nat_lit 132, top.o_131 P) :: (nat_lit 133, top.o_132 P) ::
  (nat_lit 135, top.o_134 P) :: (nat_lit 136, top.o_135 P) :: (nat_lit 137, top.o_136 P) :: (nat_lit 139, top.o_138 P) :: (nat_lit 140, top.o_139 P) :: (nat_lit 142, top.o_141 P) ::
  (nat_lit 143, top.o_142 P) :: (nat_lit 144, top.o_143 P) :: (nat_lit 146, top.o_145 P) :: (nat_lit 147, top.o_146 P) :: (nat_lit 149, top.o_148 P) :: (nat_lit 150, top.o_149 P) ::
  (nat_lit 151, top.o_150 P) :: (nat_lit 153, top.o_152 P) :: (nat_lit 154, top.o_153 P) :: (nat_lit 156, top.o_155 P) :: (nat_lit 157, top.o_156 P) :: (nat_lit 158, top.o_157 P) ::
  (nat_lit 160, top.o_159 P) :: (nat_lit 161, top.o_160 P) :: (nat_lit 163, top.o_162 P) :: (nat_lit 164, top.o_163 P) :: (nat_lit 165, top.o_167 P) :: (nat_lit 167, top.o_169 P) ::
  (nat_lit 168, top.o_170 P) :: (nat_lit 170, top.o_172 P) :: (nat_lit 171, top.o_173 P) :: (nat_lit 172, top.o_174 P) :: (nat_lit 174, top.o_176 P) :: (nat_lit 175, top.o_177 P) ::
  (nat_lit 177, top.o_179 P) :: (nat_lit 178, top.o_180 P) :: (nat_lit 179, top.o_181 P) :: (nat_lit 181, top.o_183 P) :: (nat_lit 182, top.o_184 P) :: (nat_lit 184, top.o_186 P) ::
  (nat_lit 185, top.o_187 P) :: (nat_lit 186, top.o_188 P) :: (nat_lit 188, top.o_190 P) :: (nat_lit 189, top.o_191 P) :: (nat_lit 191, top.o_193 P) :: (nat_lit 192, top.o_194 P) ::
  (nat_lit 193, top.o_195 P) :: (nat_lit 195, top.o_197 P) :: (nat_lit 196, top.o_198 P) :: (nat_lit 198, top.o_200 P) :: (nat_lit 199, top.o_201 P) :: (nat_lit 200, top.o_202 P) ::
  (nat_lit 202, top.o_204 P) :: (nat_lit 203, top.o_205 P) :: (nat_lit 205, top.o_207 P) :: (nat_lit 206, top.o_208 P) :: (nat_lit 207, top.o_209 P) :: (nat_lit 209, top.o_211 P) ::
  (nat_lit 210, top.o_212 P) :: (nat_lit 212, top.o_214 P) :: (nat_lit 213, top.o_215 P) :: (nat_lit 214, top.o_216 P) :: (nat_lit 216, top.o_218 P) :: (nat_lit 217, top.o_219 P) ::
  (nat_lit 219, top.o_221 P) :: (nat_lit 220, top.o_222 P) :: (nat_lit 221, top.o_223 P) :: (nat_lit 223, top.o_225 P) :: (nat_lit 224, top.o_226 P) :: (nat_lit 226, top.o_228 P) ::
  (nat_lit 227, top.o_229 P) :: (nat_lit 228, top.o_233 P) :: (nat_lit 229, top.o_234 P) :: (nat_lit 230, top.o_235 P) :: (nat_lit 231, top.o_236 P) :: (nat_lit 232, top.o_237 P) ::
  (nat_lit 233, top.o_238 P) :: (nat_lit 234, top.o_239 P) :: (nat_lit 235, top.o_240 P) :: (nat_lit 236, top.o_241 P) :: (nat_lit 237, top.o_242 P) :: (nat_lit 238, top.o_243 P) ::
  (nat_lit 239, top.o_244 P) :: (nat_lit 240, top.o_245 P) :: (nat_lit 241, top.o_246 P) :: (nat_lit 242, top.o_247 P) :: (nat_lit 243, top.o_248 P) :: (nat_lit 244, top.o_249 P) ::
  (nat_lit 245, top.o_250 P) :: (nat_lit 246, top.o_251 P) :: (nat_lit 247, top.o_252 P) :: (nat_lit 248, top.o_253 P) :: (nat_lit 249, top.o_254 P) :: (nat_lit 250, top.o_255 P) ::
  (nat_lit 251, top.o_256 P) :: (nat_lit 252, top.o_257 P) :: (nat_lit 253, top.o_258 P) :: (nat_lit 254, top.o_259 P) :: (nat_lit 255, top.o_260 P) :: (nat_lit 256, top.o_261 P) ::
  (nat_lit 257, top.o_262 P) :: (nat_lit 258, top.o_263 P) :: (nat_lit 259, top.o_264 P) :: (nat_lit 260, top.o_265 P) :: (nat_lit 261, top.o_266 P) :: (nat_lit 263, top.o_268 P) ::
  (nat_lit 264, top.o_269 P) :: (nat_lit 266, top.o_271 P) :: (nat_lit 267, top.o_272 P) :: (nat_lit 268, top.o_273 P) :: (nat_lit 270, top.o_275 P) :: (nat_lit 271, top.o_276 P) ::
  (nat_lit 273, top.o_278 P) :: (nat_lit 274, top.o_279 P) :: (nat_lit 275, top.o_280 P) :: (nat_lit 277, top.o_282 P) :: (nat_lit 278, top.o_283 P) :: (nat_lit 280, top.o_285 P) ::
  (nat_lit 281, top.o_286 P) :: (nat_lit 282, top.o_287 P) :: (nat_lit 285, top.o_290 P) :: (nat_lit 286, top.o_291 P) :: (nat_lit 287, top.o_292 P) :: (nat_lit 289, top.o_294 P) ::
  (nat_lit 290, top.o_295 P) :: (nat_lit 292, top.o_297 P) :: (nat_lit 293, top.o_298 P) :: (nat_lit 294, top.o_299 P) :: (nat_lit 296, top.o_301 P) :: (nat_lit 297, top.o_302 P) ::
  (nat_lit 299, top.o_304 P) :: (nat_lit 300, top.o_305 P) :: (nat_lit 301, top.o_306 P) :: (nat_lit 303, top.o_308 P) :: (nat_lit 304, top.o_309 P) :: (nat_lit 306, top.o_311 P) ::
  (nat_lit 307, top.o_312 P) :: (nat_lit 308, top.o_316 P) :: (nat_lit 310, top.o_318 P) :: (nat_lit 311, top.o_319 P) :: (nat_lit 313, top.o_321 P) :: (nat_lit 314, top.o_322 P) ::
  (nat_lit 315, top.o_323 P) :: (nat_lit 317, top.o_325 P) :: (nat_lit 318, top.o_326 P) :: (nat_lit 320, top.o_328 P) :: (nat_lit 321, top.o_329 P) :: (nat_lit 322, top.o_330 P) ::
  (nat_lit 324, top.o_332 P) :: (nat_lit 325, top.o_333 P) :: (nat_lit 327, top.o_335 P) :: (nat_lit 328, top.o_336 P) :: (nat_lit 329, top.o_337 P) :: (nat_lit 332, top.o_340 P) ::
  (nat_lit 333, top.o_341 P) :: (nat_lit 334, top.o_342 P) :: (nat_lit 337, top.o_345 P) :: (nat_lit 338, top.o_346 P) :: []
noncomputable def kAt : List Addr := [2, 3, 15, 17, 18, 20, 21, 22, 24, 25, 27, 28, 29, 36, 38, 39, 41, 42, 43, 44, 45, 48, 55, 57, 58, 60, 61, 62, 64, 65, 67, 68, 69, 71, 72, 74, 75, 76, 77, 78, 81, 83, 84, 86, 87, 88, 90, 91, 93, 94, 95, 97, 98, 100, 101, 102, 104, 105, 107, 108, 109, 111, 112, 114, 115, 116, 118, 119, 121, 122, 123, 125, 126, 128, 129, 130, 132, 133, 135, 136, 137, 139, 140, 142, 143, 144, 146, 147, 149, 150, 151, 153, 154, 156, 157, 158, 160, 161, 163, 164, 165, 167, 168, 170, 171, 172, 174, 175, 177, 178, 179, 181, 182, 184, 185, 186, 188, 189, 191, 192, 193, 195, 196, 198, 199, 200, 202, 203, 205, 206, 207, 209, 210, 212, 213, 214, 216, 217, 219, 220, 221, 223, 224, 226, 227, 228, 229, 230, 231, 232, 233, 234, 235, 236, 237, 238, 239, 240, 241, 242, 243, 244, 245, 246, 247, 248, 249, 250, 251, 252, 253, 254, 255, 256, 257, 258, 259, 260, 261, 263, 264, 266, 267, 268, 270, 271, 273, 274, 275, 277, 278, 280, 281, 282, 285, 286, 287, 289, 290, 292, 293, 294, 296, 297, 299, 300, 301, 303, 304, 306, 307, 308, 310, 311, 313, 314, 315, 317, 318, 320, 321, 322, 324, 325, 327, 328, 329, 332, 333, 334, 337, 338]

theorem lk_h (w : World) (os : OsState) : (kHook KK kAt (fun _ => by kernel_rfl)).obs ⟨hE w.params, Array.mk [], {}, 632, os⟩ = (kHook KK kAt (fun _ => by kernel_rfl)).val w := by kernel_rfl
noncomputable abbrev Xt : Shared → Bool := fun s => xlAt vw lv s && recOk (PySem.Challenge.rw_pd0061_01.row.toRowW.records) s
theorem lk_b3 (w : World) (os : OsState) : ((hE w.params).keysOk (looseW vw loose) ((recsOf vw).map (·.name)) ((litsOf vw).map (·.1)) ((clssOf vw (looseW vw loose)).map (·.name)) && (hE w.params).accountedOkI (importedModules PySem.Challenge.pw_pd0061_01.main.body) && (hE w.params).isNs mainGlobals && (hE w.params).isNs builtinsNs && tablesOk vw (hE w.params) && Xt ⟨hE w.params, Array.mk [], {}, 632, os⟩ && (if true then (Array.mk [] : Array GenState).size == 0 else !leftWithCleanup (Array.mk []))) = true := by
  rw [lk_3, lk_3b, lk_3c, lk_3d, lk_3e]
  unfold Xt
  rw [lk_3f, lk_3g]
  rfl
theorem lk_seen (w : World) (os : OsState) : openSeen vw loose (importedModules PySem.Challenge.pw_pd0061_01.main.body) Xt true ⟨hE w.params, Array.mk [], {}, 632, os⟩ = openGood vw loose :=
  looks_pair (lk_1 w os) (looks_pair (lk_2 w) (looks_pair (lk_b3 w os) (looks_pair (lk_4 w os) (looks_pair (lk_5 w os) (looks_pair (lk_6 w os) (looks_pair (lk_7 w os) (looks_pair (lk_8 w os) (lk_9 w os))))))))
theorem lk_bools (w : World) (os : OsState) : (staticsOk (importedModules PySem.Challenge.pw_pd0061_01.main.body) (boot_heap w.params) (hE w.params) && namesBound PySem.Challenge.pw_pd0061_01 (hE w.params) && gensDone ⟨hE w.params, Array.mk [], {}, 632, os⟩ && laidKept (boot_heap w.params) (hE w.params)) = true := by
  rw [lk_a, lk_b, lk_c, lk_d]
  rfl
theorem hd_left : LeftO PySem.Challenge.pw_pd0061_01 vw loose Xt (kHook KK kAt (fun _ => by kernel_rfl)).obs (kHook KK kAt (fun _ => by kernel_rfl)).val 4098 :=
  LeftO.of_pieces (H₀ := boot_heap) (H₁ := hE) (gs₀ := Array.mk []) (gs₁ := Array.mk []) (d₀ := boot_drawn) (d₁ := {}) (k₀ := boot_toks) (k₁ := 632) (m₀ := 11) (ann := some (.ref 6)) (M := 2007)
    hd_open hd_size hd_run (by decide) (fun w => funext fun os => looks_pair (lk_bools w os) (looks_pair (lk_seen w os) (lk_h w os)))
theorem road_cut {lk : Look} : ∀ (k : Nat) (l : List Stmt), noRoadLSs lk (l.take k) = true → noRoadLSs lk (l.drop k) = true → noRoadLSs lk l = true
  | 0, _, _, h => h
  | _ + 1, [], _, _ => rfl
  | k + 1, s :: r, h1, h2 => by
    have h1' : (noRoadLS lk s && noRoadLSs lk (r.take k)) = true := h1
    have h2' : noRoadLSs lk (r.drop k) = true := h2
    show (noRoadLS lk s && noRoadLSs lk r) = true
    rw [Bool.and_eq_true] at h1' ⊢
    exact ⟨h1'.1, road_cut k r h1'.2 h2'⟩
theorem bare_is : (["vars", "dir", "locals"] : List Str).filter (readsOut PySem.Challenge.rw_pd0061_01.row.prog PySem.Challenge.rw_pd0061_01.row.prog.main.body) = [] := by kernel_rfl
theorem strict_is : (!(importedModules PySem.Challenge.rw_pd0061_01.row.prog.main.body).all cThrough.contains) = false := by kernel_rfl
theorem said0 : OpenLaw.wellSaid PySem.Challenge.rw_pd0061_01 = true := by
  unfold OpenLaw.wellSaid OpenRow.wellSaid OpenRow.partSaid looksOpen
  rw [bare_is, strict_is]
  repeat' (with_reducible refine look_both ?_ ?_)
  all_goals first
    | (with_reducible refine road_cut 13 _ ?_ ?_
       · decide +kernel
       · with_reducible refine road_cut 13 _ ?_ ?_
         · decide +kernel
         · with_reducible refine road_cut 13 _ ?_ ?_
           · decide +kernel
           · with_reducible refine road_cut 13 _ ?_ ?_
             · decide +kernel
             · decide +kernel)
    | decide +kernel
theorem hd0 {d : DefRec} {kwd : List (Str × Expr)} (a1 : defOf vw PySem.Challenge.rw_pd0061_01.row.name = some (d, kwd)) (a2 : PySem.Challenge.rw_pd0061_01.row.prog.theDef PySem.Challenge.rw_pd0061_01.row.name = some (d.params, d.body, d.scope)) (a3 : kwWritten? d.params.kwonlyargs d.params.kw_defaults = some kwd)
    (walk : WalkO vw loose (XL vw lv) (kHook KK kAt (fun _ => by kernel_rfl)).says PySem.Challenge.rw_pd0061_01.row.toRowW d kwd fun f vs => PySem.call f vs) : PySem.Challenge.rw_pd0061_01.Holds := by
  w_on
  refine holds_law said0 fun said => ?_
  refine holds_open (q := vw) (loose := loose) (Xt := Xt) (XP := XL vw lv) (Yf := (kHook KK kAt (fun _ => by kernel_rfl)).obs) (Ya := (kHook KK kAt (fun _ => by kernel_rfl)).val) (YP := (kHook KK kAt (fun _ => by kernel_rfl)).says) (N := 4098) hd_left (Hook.of _) (Hook.keeps _) (fun s e => xl_of s (Bool.and_eq_true_iff.mp e).1) XL.keeps a1 a2 a3 (fun s e => recFacts_of (Bool.and_eq_true_iff.mp e).2) (by rfl) (by assumption) (by decide +kernel) ⟨rfl, rfl, rfl, rfl, rfl, by decide +kernel⟩ ?hw walk
  case hw => w_witness2
end Mine

end SHR
section SBase
open PySem PySem.W PySem.Spec PySem.Calls PyProof.Rows
namespace Mine
set_option maxRecDepth 100000
set_option maxHeartbeats 8000000
/-- what a call of the def at f with the arguments vs hands back, from any frame of a def and over any ledger: how a contract is used -/
noncomputable abbrev Pure (n : Nat) (w : World) (mean : ExcName → Option Value) (mg mb : Str → Option Value) (f : Addr) (vs : List Value) (R : Tok → Value) : Prop :=
  ∀ (dp un : Nat) (gd : Option (List Code)) (cn : Str) (cs : Scope) (a : Addr) (ccd : Value) (cl : List (Str × Addr)) (outer : List Env) (A₀ : Around) (base h₀ : Heap) (L : Addr) (m : Str → Option Value) (s : Shared) (Q E : Value → Shared → Prop),
    Below A₀ base outer h₀ → Fr h₀ L s.heap m → (KK w.params).In h₀ → Top vw (looseW vw loose) mean mg mb h₀ → cs.kind = .function →
    dp + n < recursionLimit → un + 8 * n < cLine →
    (∀ (t : Tok) (h' : Heap) (tk' : Nat), Fr h₀ L h' m → (∀ b o, s.heap.get? b = some o → h'.get? b = some o) → Q (R t) { s with heap := h', toks := tk' }) →
    wpAny (model PySem.Challenge.rw_pd0061_01.row.prog w) (ktrTop dp un gd cn cs L a ccd cl outer) (call (.ref f) vs) Q E s
theorem Pure.use {n : Nat} {w : World} {mean : ExcName → Option Value} {mg mb : Str → Option Value} {f : Addr} {vs : List Value} {R : Tok → Value} (C : Pure n w mean mg mb f vs R)
    {dp un : Nat} {gd : Option (List Code)} {cn : Str} {cs : Scope} {a : Addr} {ccd : Value} {cl : List (Str × Addr)} {outer : List Env} {A₀ : Around} {base h₀ : Heap} {L : Addr} {m : Str → Option Value} {news : CbLed} {s : Shared} {Q E : Value → Shared → Prop}
    (B : Below A₀ base outer h₀) (F : Fr h₀ L s.heap m) (X : (KK w.params).In h₀) (N : News h₀ L s.heap news) (T : Top vw (looseW vw loose) mean mg mb h₀) (hk : cs.kind = .function) (hd : dp + n < recursionLimit) (hu : un + 8 * n < cLine)
    (k : ∀ (t : Tok) (h' : Heap) (tk' : Nat), Fr h₀ L h' m → News h₀ L h' news → Q (R t) { s with heap := h', toks := tk' }) :
    wpAny (model PySem.Challenge.rw_pd0061_01.row.prog w) (ktrTop dp un gd cn cs L a ccd cl outer) (call (.ref f) vs) Q E s :=
  C dp un gd cn cs a ccd cl outer A₀ base h₀ L m s Q E B F X T hk hd hu fun t h' tk' F' kp => k t h' tk' F' fun p hp => ⟨kp _ _ (N p hp).1, (N p hp).2⟩
theorem gs_nil {H g h : Heap} {L : Addr} {m : Str → Option Value} (G : GSub H g (([] : List (Addr × Obj)).map (·.1))) (F : Fr g L h m) : ∀ b o, H.get? b = some o → h.get? b = some o :=
  fun b o e => F.keep b o (G b o e (fun h => nomatch h))
/-- the same where the call makes objects: tl, all new, and what is told of them -/
noncomputable abbrev Made (n : Nat) (w : World) (mean : ExcName → Option Value) (mg mb : Str → Option Value) (f : Addr) (pre : Heap → Prop) (vs : List Value) (Out : Value → CbLed → Prop) : Prop :=
  ∀ (dp un : Nat) (gd : Option (List Code)) (cn : Str) (cs : Scope) (a : Addr) (ccd : Value) (cl : List (Str × Addr)) (outer : List Env) (A₀ : Around) (base h₀ : Heap) (L : Addr) (m : Str → Option Value) (s : Shared) (Q E : Value → Shared → Prop),
    Below A₀ base outer h₀ → Fr h₀ L s.heap m → (KK w.params).In h₀ → Top vw (looseW vw loose) mean mg mb h₀ → cs.kind = .function →
    dp + n < recursionLimit → un + 8 * n < cLine → pre s.heap →
    (∀ (r : Value) (tl : CbLed) (h' : Heap) (tk' : Nat), Fr h₀ L h' m → (∀ b o, s.heap.get? b = some o → h'.get? b = some o) → News h₀ L h' tl → (∀ p ∈ tl, s.heap.get? p.1 = none) → Out r tl → Q r { s with heap := h', toks := tk' }) →
    wpAny (model PySem.Challenge.rw_pd0061_01.row.prog w) (ktrTop dp un gd cn cs L a ccd cl outer) (call (.ref f) vs) Q E s
theorem Made.use {n : Nat} {w : World} {mean : ExcName → Option Value} {mg mb : Str → Option Value} {f : Addr} {pre : Heap → Prop} {vs : List Value} {Out : Value → CbLed → Prop} (C : Made n w mean mg mb f pre vs Out)
    {dp un : Nat} {gd : Option (List Code)} {cn : Str} {cs : Scope} {a : Addr} {ccd : Value} {cl : List (Str × Addr)} {outer : List Env} {A₀ : Around} {base h₀ : Heap} {L : Addr} {m : Str → Option Value} {news : CbLed} {s : Shared} {Q E : Value → Shared → Prop}
    (B : Below A₀ base outer h₀) (F : Fr h₀ L s.heap m) (X : (KK w.params).In h₀) (N : News h₀ L s.heap news) (T : Top vw (looseW vw loose) mean mg mb h₀) (hk : cs.kind = .function) (hd : dp + n < recursionLimit) (hu : un + 8 * n < cLine) (hp : pre s.heap)
    (k : ∀ (r : Value) (tl : CbLed) (h' : Heap) (tk' : Nat), Fr h₀ L h' m → News h₀ L h' (tl ++ news) → (∀ p ∈ news, ∀ q ∈ tl, p.1 ≠ q.1) → Out r tl → Q r { s with heap := h', toks := tk' }) :
    wpAny (model PySem.Challenge.rw_pd0061_01.row.prog w) (ktrTop dp un gd cn cs L a ccd cl outer) (call (.ref f) vs) Q E s :=
  C dp un gd cn cs a ccd cl outer A₀ base h₀ L m s Q E B F X T hk hd hu hp fun r tl h' tk' F' kp N' fr o => k r tl h' tk' F'
    (fun p hp => (List.mem_append.mp hp).elim (fun hp => N' p hp) fun hp => ⟨kp _ _ (N p hp).1, (N p hp).2⟩)
    (fun p hp q hq e => by have h1 := (N p hp).1; rw [e, fr q hq] at h1; cases h1) o
theorem gs_fresh {H g h : Heap} {L : Addr} {tl : CbLed} (G : GSub H g (([] : List (Addr × Obj)).map (·.1))) (N : News g L h tl) : ∀ p ∈ tl, H.get? p.1 = none := fun p hp => by
  cases e : H.get? p.1 with
  | none => rfl
  | some o => have z := G _ _ e (fun h => nomatch h); rw [(N p hp).2.2] at z; cases z
noncomputable def AllNe (d : Nat) : List (Addr × Obj) → Prop
  | [] => True
  | p :: r => @Ne Nat p.1 d ∧ AllNe d r
theorem allNe_of {d : Addr} : ∀ {l : List (Addr × Obj)}, (∀ p ∈ l, p.1 ≠ d) → AllNe d l
  | [], _ => trivial
  | p :: _, h => ⟨h p (.head _), allNe_of fun q hq => h q (.tail _ hq)⟩
noncomputable def tupO (vs : List Value) : Obj := { cls := .type "tuple", data := .seq vs.toArray }
theorem sz_le {l : List Value} (h : Nat.ble l.length 100 = true) : l.length ≤ sizeLine := by rw [sizeLine_eq]; have := Nat.le_of_ble_eq_true h; omega
theorem gen_tk {α : Type} {M : Model} {A : Around} {c : Sem α} {Q : α → Shared → Prop} {E : Value → Shared → Prop} {h : Heap} {g : Array GenState} {d : Drawn} {t n : Nat} {os : OsState} (k : ∀ t', wpAny M A c Q E ⟨h, g, d, t', os⟩) : wpAny M A c Q E ⟨h, g, d, t + n, os⟩ := k _
theorem nx {p : Prop} [Decidable p] {α : Type} {a b c : α} (h : ¬ p) (e : b = c) : (if p then a else b) = c := (if_neg h).trans e
theorem nx2 {p : Prop} [Decidable p] {α : Type} {a b c : α} (h : ¬ p) (e : c = b) : c = (if p then a else b) := e.trans (if_neg h).symm
end Mine

end SBase
section SSub
open PySem PySem.W PySem.Spec PySem.Calls PyProof.Rows
namespace Mine
set_option maxRecDepth 100000
set_option maxHeartbeats 8000000
theorem sub_kind : builtinKind "issubclass.nested" = none := by decide +kernel
theorem sub_plain : plainId "issubclass.nested" = true := by decide +kernel
theorem sub_args (a b c : Value) : argsOk "issubclass.nested" ⟨[a, b, c], []⟩ := by unfold argsOk; kernel_rfl
theorem sub_str : isSubtype (.type "str") (.type "str") = pure true := by rw [isSubtype_type]; kernel_rfl
theorem typeOf_strT : typeOf (.type "str") = pure (.type "type") := by kernel_rfl
section
variable {prog : Program} {w : World} {A : Around} {E : Value → Shared → Prop}
theorem sub_self {s : Shared} {k : Value} {dep : Int} {tk : Tok} {Q : Fin → Shared → Prop} (hk : k = .int dep tk) (hq : Q (.done (.ret (.bool true))) s) :
    wpAny (model prog w) A (Builtin.«issubclass.nested» ⟨[.type "str", .type "str", k], []⟩) Q E s := by
  subst hk
  have hm := typeOf_strT
  have hs := sub_str
  repeat (any_goals (first | assumption | (rw [hs]) | wp_step))
theorem sub_meets (dep : Int) (tk : Tok) : Meets (Builtin.«issubclass.nested» ⟨[.type "str", .type "str", .int dep tk], []⟩) (fun _ R s => R (.ok (.ret (.bool true))) s) :=
  fun _ _ _ _ _ hs => sub_self rfl hs
theorem sub_tuple {tp : Addr} {cs : List Value} {n : Nat} {tk : Tok} {s : Shared} {Q : Fin → Shared → Prop} (hcs : cs = [.type "str", .type "bytes"]) (htp : s.heap.get? tp = some { cls := .type "tuple", data := .seq cs.toArray n })
    (hq : Q (.done (.ret (.bool true))) s) : wpAny (model prog w) A (Builtin.«issubclass.nested» ⟨[.type "str", .ref tp, .int 0 tk], []⟩) Q E s := by
  obtain ⟨h, g, d, t, os⟩ := s
  have hT2 : (⟨h, g, d, t, os⟩ : Shared).TypeIs (.ref tp) "tuple" := ⟨_, htp, rfl⟩
  have f1 := F.isi_sub_tuple
  repeat (any_goals (first | assumption | wp_step))
  refine wpAny_arrayLoop ?_
  simp only [Option.getD_some, List.toList_toArray]
  subst hcs
  rw [List.forIn_cons]
  refine wpAny_bind (wpAny_bind (call_function_meets sub_kind sub_plain F.entry_issubclass_nested (sub_args _ _ _) (sub_meets _ _) ?_))
  show wpAny _ _ (truthy (.bool true) >>= _) _ _ _
  refine wpAny_bind (m := truthy (.bool true)) (wpAny_pure ?_)
  refine wpAny_bind (wpAny_pure (wpAny_pure (wpAny_pure ?_)))
  repeat (any_goals (first | assumption | wp_step))
theorem issub_call {tp : Addr} {n : Nat} {s : Shared} {Q : Value → Shared → Prop} (htp : s.heap.get? tp = some { cls := .type "tuple", data := .seq #[.type "str", .type "bytes"] n })
    (h : Q (.bool true) s) : wpAny (model prog w) A (call (.builtin "issubclass") [.type "str", .ref tp]) Q E s :=
  call_issubclass (S := fun _ R s => s.heap.get? tp = some { cls := .type "tuple", data := .seq #[.type "str", .type "bytes"] n } ∧ R (.ok (.ret (.bool true))) s)
    (fun _ _ _ _ _ hs => issubclass_outer (sub_tuple rfl hs.1 hs.2)) ⟨htp, h⟩
theorem issub_K {h₀ : Heap} {L : Addr} {news : List (Addr × Obj)} {tp : Addr} {n : Nat} {s : Shared} {Q : Value → Shared → Prop} (N : News h₀ L s.heap news)
    (hm : (tp, ({ cls := .type "tuple", data := .seq #[.type "str", .type "bytes"] n } : Obj)) ∈ news) (h : Q (.bool true) s) : wpAny (model prog w) A (call (.builtin "issubclass") [.type "str", .ref tp]) Q E s :=
  issub_call (N _ hm).1 h
end
end Mine

end SSub
section Walk
open PySem PySem.W PySem.Spec PySem.Calls PyProof.Rows
namespace Mine
set_option maxRecDepth 100000
set_option maxHeartbeats 8000000
local macro_rules | `(tactic| walk_at "my memx") => `(tactic| first | exact List.Mem.head _ | assumption | exact List.mem_append_left _ (by assumption) | exact List.mem_append_right _ (by assumption) | (refine List.Mem.tail _ ?_; walk_at "my memx"))
local macro_rules | `(tactic| k_room) => `(tactic| ktr_room)
local macro_rules | `(tactic| walk_at "call builtin:issubclass") => `(tactic| (k_here; k_dflt (refine' issub_K ?k1 ?k2 ?_; (case k1 => k_asm); (case k2 => k_mem); k_whole)))
local macro_rules | `(tactic| walk_at "compareOp Eq ref ref") => `(tactic| (k_here; (with_reducible show wpAny _ _ (compareOp CmpOp.Eq (Value.ref _) (Value.ref _)) _ _ _); k_dflt (refine ke_eq_ints (by is_list) (by is_list) (by l_ints) (by l_ints) (by ktr_units) ?_); ke_norm))
local macro_rules | `(tactic| walk_at "compareOp NotEq ref ref") => `(tactic| (k_here; (with_reducible show wpAny _ _ (compareOp CmpOp.NotEq (Value.ref _) (Value.ref _)) _ _ _); k_dflt (refine ke_ne_ints (by is_list) (by is_list) (by l_ints) (by l_ints) (by ktr_units) ?_); ke_norm))
local macro_rules | `(tactic| walk_at "newList") => `(tactic| (k_here; k_dflt (refine' newList_K ?k1 ?k2 ?_ ?hz; (case k1 => k_asm); (case k2 => k_asm); (case hz => exact sz_le rfl); k_whole); intro l' h' F' N' l1; (try k_lt l1); (try k_sweep)))
local macro_rules | `(tactic| walk_at "execs cons") => `(tactic| (k_here; with_reducible refine gen_tk ?_; intro tk))
local macro_rules | `(tactic| walk_at "execs nil") => `(tactic| (k_here; with_reducible refine gen_tk ?_; intro tk))
-- 09_enter
/-- a tree that looks about, makes one object and gives back what hangs on its address -/
theorem alloc_peek {α : Type} {K : Frag} {M : Model} {A : Around} {E : Value → Shared → Prop} {Q : α → Shared → Prop} {s : Shared} {o : Obj} {r : Addr → α} (X : K.In s.heap) (q : Q (r s.heap.objs.size) { s with heap := s.heap.push o }) :
    ∀ (t : Sem α) (g : Addr → Option α), peek1 K ⟨M.prog, M.w.params⟩ t = some (o, g) → (∀ D, g D = some (r D)) → wpAny M A t Q E s := by
  intro t
  induction t with
  | alloc ob k _ =>
    intro g e hg
    obtain ⟨rfl, rfl⟩ := Prod.mk.inj (Option.some.inj (show some (ob, fun D => peek K ⟨M.prog, M.w.params⟩ (k D)) = some (o, g) from e))
    show wpAny M A (alloc ob >>= k) Q E s
    refine wpAny_bind (wpAny_alloc ?_)
    exact (Looks.of_peek (M := M) (h := s.heap.push ob) (X.keeps fun b x hb => Heap.get?_push_of_some _ hb) (hg s.heap.objs.size)).here (s := { s with heap := s.heap.push ob }) q
  | load a _ k ih =>
    intro g e hg Γ p hΓ
    simp only [peek1] at e
    split at e
    · rename_i ob ho; exact ⟨ob, X _ _ ho, ih ob g e hg Γ p hΓ⟩
    · cases e
  | rule _ k ih => intro g e hg Γ p hΓ; exact ih () g e hg Γ p hΓ
  | point _ k ih => intro g e hg Γ p hΓ; exact ih () g e hg Γ p hΓ
  | ask k ih => intro g e hg Γ p hΓ; exact ih _ g e hg Γ p hΓ
  | _ => intro g e; cases e
/-- the entry into a def with a starred parameter, over no ledger: what stood stays -/
theorem rest_enter {prog : Program} {w : World} {A A₀ : Around} {s : Shared} {K : Frag} {L : Addr} {h₀ base : Heap} {m mg mb : Str → Option Value} {p : Program} {loose : List Str} {mean : ExcName → Option Value}
    {env : Env} {outer : List Env} {R : Result → Shared → Prop} {name qual : Str} {params : Arguments} {body : List Stmt} {scope : Scope} {dV kV doc pm cdv ct oc : Value} {an od : Option Addr} {osl : Array (Option Value)} {f : Addr} {args : Args} {vs : List Value} {g₁ : Addr → Option (List (Str × Value))} {binds : Addr → List (Str × Value)}
    (B : Below A₀ base outer h₀) (F : Fr h₀ L s.heap m) (X₀ : K.In h₀) (T : Top p loose mean mg mb h₀) (hA : A.frames = some (env :: outer)) (hf : env.frame = some L) (hke : env.scope.kind = .function)
    (ho : K.lookup f = some ⟨oc, od, .func (fnOf name qual params body scope dV kV doc pm an cdv ct), osl⟩) (hcd : codeIn K cdv qual = true) (hroom : A.depth < recursionLimit)
    (hv : args.pos.drop (params.posonlyargs.length + params.args.length) = vs)
    (hp : peek1 K ⟨prog, w.params⟩ (bindArgs (fnOf name qual params body scope dV kV doc pm an cdv ct) args) = some (({ cls := .type "tuple", data := .seq vs.toArray } : Obj), g₁))
    (hg : ∀ D, g₁ D = some (binds D)) (hloc : ∀ D, ∀ y ∈ binds D, scope.names.lookup y.1 = some .local)
    (h : ∀ D g L' h₁, Fr h₀ L g m → Fr g L' h₁ (fun y => (binds D).reverse.lookup y) → News g L' h₁ [(D, ({ cls := .type "tuple", data := .seq vs.toArray } : Obj))] → Below A base (env :: outer) g → K.In g → Top p loose mean mg mb g → GSub s.heap g (([] : List (Addr × Obj)).map (·.1)) →
      wpAny (model prog w) (A.deeper (envOf qual scope L' f cdv)) (execs body (envOf qual scope L' f cdv))
        (fun fl s' => LeaveK h₀ L m g R (match fl with | .ret v => v | _ => .none) s')
        (fun e s' => wpAny (model prog w) (A.deeper (envOf qual scope L' f cdv)) (PySem.leaving (envOf qual scope L' f cdv) e) (fun _ s'' => R (.error e) s'') (fun e' s'' => R (.error e') s'') s')
        { s with heap := h₁, toks := s.toks + (binds D).length })
    (hco : scope.isCoroutine = false) (hgen : scope.isGenerator = false) (hk : scope.kind = .function)
    (hcell : ∀ x ∈ scope.names, x.2 ≠ .cell) : codeAny (model prog w) A (.call (.ref f) args) R s := by
  have _ := hv
  refine codeAny_call_function (fd := fnOf name qual params body scope dV kV doc pm an cdv ct) (body := body) hroom ((X₀.keeps F.keep) _ _ ho) rfl hco hgen rfl (codeRec_of (X₀.keeps F.keep) hcd) ?_
  refine alloc_peek (K := K) (o := ({ cls := .type "tuple", data := .seq vs.toArray } : Obj)) (r := binds) (X₀.keeps F.keep) ?_ _ g₁ hp hg
  have F₁ := F.push ({ cls := .type "tuple", data := .seq vs.toArray } : Obj)
  have N₁ := News.push F (News.nil (h₀ := h₀) (L := L)) ({ cls := .type "tuple", data := .seq vs.toArray } : Obj) rfl
  obtain ⟨FG, BG, st, lv⟩ := groundX (R := R) (s := { s with heap := s.heap.push ({ cls := .type "tuple", data := .seq vs.toArray } : Obj) }) B F₁ N₁ hA hf hke
  refine wpAny_newFunctionEnv hcell (hloc _) (fun h₁ hns hsb => ⟨(T.nolimit.keeps F₁.keep).fresh _ hsb, codeAny_func ?_⟩) hk
  have hk₁ : ∀ b o, (s.heap.push ({ cls := .type "tuple", data := .seq vs.toArray } : Obj)).get? b = some o → h₁.get? b = some o := fun b o e => hsb.extBut b o (Nat.ne_of_lt (Heap.lt_size e)) (Heap.get?_push_of_some _ e)
  exact wpAny_mono (h s.heap.objs.size _ _ h₁ FG ⟨hns, fun b o e => hk₁ b o (of_hideAll _ e), Nat.le_of_eq (hideAll_size _ _)⟩
    (fun p hp => ⟨hk₁ _ _ (N₁ p hp).1, Nat.ne_of_lt (Heap.lt_size (N₁ p hp).1), hideAll_none _ (List.mem_map_of_mem hp)⟩) BG (X₀.keeps st) (T.keeps st)
    (fun b o e _ => hideAll_get _ (Heap.get?_push_of_some _ e) (fun q => by
      have : b = s.heap.objs.size := by simpa using q
      exact absurd (Heap.lt_size e) (this ▸ Nat.lt_irrefl _)))) (fun fl s' hl => lv _ _ hl) fun _ _ y => y
/-- a goal at which the walk is to stop -/
noncomputable def Halt (P : Prop) : Prop := P
theorem halt {P : Prop} (h : Halt P) : P := h
theorem allObj_mono : ∀ {ws : List (Addr × String)} {k k' : List (Addr × Obj) → Prop}, (∀ its, k its → k' its) → AllObj ws k → AllObj ws k'
  | [], _, _, hk, h => hk _ h
  | _ :: _, _, _, hk, h => fun o ho => allObj_mono (fun its => hk _) (h o ho)
/-- a loop over a row of values by what holds between its turns -/
theorem items_vals {α : Type} {val : α → Value} {prog : Program} {w : World} {A : Around} {E : Value → Shared → Prop} {h₀ : Heap} {env : Env} {target : Expr} {body : List Stmt} {Q : Flow → Shared → Prop} {s : Shared} {ws : List (Addr × String)} {keep : List (Addr × Obj)}
    (J : List α → (Str → Option Value) → List (Addr × Obj) → Prop)
    (done : ∀ m news h tk, J [] m news → Fr h₀ env.locals h m → News h₀ env.locals h news → Q .next { s with heap := h, toks := tk })
    (turn : ∀ p r m news h tk, J (p :: r) m news → Fr h₀ env.locals h m → AllObj ws (fun its => News h₀ env.locals h (its ++ news) →
      wpAny (model prog w) A (assign target env (val p)) (fun _ s₂ => wpAny (model prog w) A (execs body env) (UnrPostW h₀ env.locals { s with heap := h, toks := tk } its (fun m' n' => SubL keep n' ∧ J r m' n') Q) E s₂) E { s with heap := h, toks := tk })) :
    ∀ (ps : List α) (m : Str → Option Value) (news : List (Addr × Obj)), J ps m news → ItemsRest prog w A E h₀ env target body Q s ws keep (ps.map fun p => .val (val p)) m news
  | [], m, news, hJ => ItemsRest.zero fun h tk F N => done m news h tk hJ F N
  | p :: r, m, news, hJ => ItemsRest.val fun h tk F => allObj_mono (fun its hk N => wpAny_mono (hk N) (fun _ s₂ h₂ => wpAny_mono h₂ (fun f s₃ h₃ => by
      cases f with
      | ret v => exact h₃
      | brk => exact h₃
      | cont =>
        obtain ⟨h', tk', m', news', e, F', N', ne, sb, hj⟩ := h₃
        exact ⟨h', tk', m', news', e, F', N', ne, sb, items_vals J done turn r m' news' hj⟩
      | next =>
        obtain ⟨h', tk', m', news', e, F', N', ne, sb, hj⟩ := h₃
        exact ⟨h', tk', m', news', e, F', N', ne, sb, items_vals J done turn r m' news' hj⟩) fun _ _ x => x) fun _ _ x => x) (turn p r m news h tk hJ F)

local macro_rules | `(tactic| walk_at "call ref") => `(tactic| (k_here; refine halt ?_))
-- 10_text
section
variable (w : World) (mean : ExcName → Option Value) (mg mb : Str → Option Value)
theorem fspath_c (x : Str) (t : Tok) : Pure 2 w mean mg mb 94 [.str x t] (fun t' => .str x t') := by
  dsimp only [Pure]; k_fill; intros; rename_i hret
  refine wpAny_call ?_
  k_dflt (((refine' code_defG ?k1 ?k2 ?k3 ?k4 ?k5 ?kA ?kF ?kK ?k6 ?k7 ?k8 ?k9 ?kB ?_ ?c2 ?c3 ?c4 ?c5; (case kA => exact rfl); (case kF => exact rfl); (case kK => assumption); (case k1 => k_asm); (case k2 => k_asm); (case k3 => k_asm); (case k4 => exact News.nil); (case k5 => k_asm); (case k6 => k_is); (case k7 => k_is); (case k8 => k_room); (case k9 => exact BindsTo.of_eq rfl); (case c5 => decide); (case kB => exact locs rfl); (case c2 => exact rfl); (case c3 => exact rfl); (case c4 => exact rfl); k_whole; intro g' L' h' FG' F' N' B' X' T' GS'; (try dsimp only); (try k_lift B'); (try k_fold))))
  k_steps
  all_goals exact hret _ _ _ (by k_asm) (gs_nil (by assumption) (by assumption))
theorem sep_c (x : Str) (t : Tok) : Pure 2 w mean mg mb 108 [.str x t] (fun t' => .str (Str.ofString "/") t') := by
  dsimp only [Pure]; k_fill; intros; rename_i hret
  refine wpAny_call ?_
  k_dflt (((refine' code_defG ?k1 ?k2 ?k3 ?k4 ?k5 ?kA ?kF ?kK ?k6 ?k7 ?k8 ?k9 ?kB ?_ ?c2 ?c3 ?c4 ?c5; (case kA => exact rfl); (case kF => exact rfl); (case kK => assumption); (case k1 => k_asm); (case k2 => k_asm); (case k3 => k_asm); (case k4 => exact News.nil); (case k5 => k_asm); (case k6 => k_is); (case k7 => k_is); (case k8 => k_room); (case k9 => exact BindsTo.of_eq rfl); (case c5 => decide); (case kB => exact locs rfl); (case c2 => exact rfl); (case c3 => exact rfl); (case c4 => exact rfl); k_whole; intro g' L' h' FG' F' N' B' X' T' GS'; (try dsimp only); (try k_lift B'); (try k_fold))))
  k_steps
  all_goals exact hret _ _ _ (by k_asm) (gs_nil (by assumption) (by assumption))
end

-- 11_base
/-- what basename gives -/
noncomputable def baseF (x : Str) : Str := Txt.slice x (some (Txt.rfind x (Str.ofString "/") + 1)) none
noncomputable def rootF (x : Str) : Str := if (Txt.slice x none (some 1) != Str.ofString "/") = true then Str.ofString "" else if (Txt.slice x (some 1) (some 2) != Str.ofString "/") = true ∨ (Txt.slice x (some 2) (some 3) == Str.ofString "/") = true then Str.ofString "/" else Txt.slice x none (some 2)
noncomputable def restF (x : Str) : Str := if (Txt.slice x none (some 1) != Str.ofString "/") = true then x else if (Txt.slice x (some 1) (some 2) != Str.ofString "/") = true ∨ (Txt.slice x (some 2) (some 3) == Str.ofString "/") = true then Txt.slice x (some 1) none else Txt.slice x (some 2) none
theorem nf {b : Bool} (h : b = false) : ¬ b = true := fun e => by rw [h] at e; cases e
theorem root_e {x : Str} (h : (Str.ofString "").length = 0) : (Str.ofString "").length ≤ x.length := by rw [h]; exact Nat.zero_le _
theorem root_l {x : Str} (h1 : (Txt.slice x none (some 1) != Str.ofString "/") = false) : (Str.ofString "/").length ≤ x.length := by
  have h2 := nf h1
  rw [bne_iff_ne, Decidable.not_not] at h2; rw [← h2]; exact Txt.slice_le _ _ _
theorem root_1 {x : Str} (h : (Txt.slice x none (some 1) != Str.ofString "/") = true) : Str.ofString "" = rootF x := (if_pos h).symm
theorem rest_1 {x : Str} (h : (Txt.slice x none (some 1) != Str.ofString "/") = true) : x = restF x := (if_pos h).symm
theorem root_2 {x : Str} (h : (Txt.slice x none (some 1) != Str.ofString "/") = false) (h2 : (Txt.slice x (some 1) (some 2) != Str.ofString "/") = true ∨ (Txt.slice x (some 2) (some 3) == Str.ofString "/") = true) : Str.ofString "/" = rootF x := by
  unfold rootF; rw [if_neg (nf h), if_pos h2]
theorem rest_2 {x : Str} (h : (Txt.slice x none (some 1) != Str.ofString "/") = false) (h2 : (Txt.slice x (some 1) (some 2) != Str.ofString "/") = true ∨ (Txt.slice x (some 2) (some 3) == Str.ofString "/") = true) : Txt.slice x (some 1) none = restF x := by
  unfold restF; rw [if_neg (nf h), if_pos h2]
theorem root_3 {x : Str} (h : (Txt.slice x none (some 1) != Str.ofString "/") = false) (h2 : (Txt.slice x (some 1) (some 2) != Str.ofString "/") = false) (h3 : (Txt.slice x (some 2) (some 3) == Str.ofString "/") = false) : Txt.slice x none (some 2) = rootF x := by
  unfold rootF; rw [if_neg (nf h), if_neg (fun e => e.elim (nf h2) (nf h3))]
theorem rest_3 {x : Str} (h : (Txt.slice x none (some 1) != Str.ofString "/") = false) (h2 : (Txt.slice x (some 1) (some 2) != Str.ofString "/") = false) (h3 : (Txt.slice x (some 2) (some 3) == Str.ofString "/") = false) : Txt.slice x (some 2) none = restF x := by
  unfold restF; rw [if_neg (nf h), if_neg (fun e => e.elim (nf h2) (nf h3))]
section
variable (w : World) (mean : ExcName → Option Value) (mg mb : Str → Option Value)
theorem basename_c (x : Str) (t : Tok) (hx : x.length ≤ 1048576) : Pure 4 w mean mg mb 136 [.str x t] (fun t' => .str (baseF x) t') := by
  dsimp only [Pure]; k_fill; intros; rename_i hret
  refine wpAny_call ?_
  k_dflt (((refine' code_defG ?k1 ?k2 ?k3 ?k4 ?k5 ?kA ?kF ?kK ?k6 ?k7 ?k8 ?k9 ?kB ?_ ?c2 ?c3 ?c4 ?c5; (case kA => exact rfl); (case kF => exact rfl); (case kK => assumption); (case k1 => k_asm); (case k2 => k_asm); (case k3 => k_asm); (case k4 => exact News.nil); (case k5 => k_asm); (case k6 => k_is); (case k7 => k_is); (case k8 => k_room); (case k9 => exact BindsTo.of_eq rfl); (case c5 => decide); (case kB => exact locs rfl); (case c2 => exact rfl); (case c3 => exact rfl); (case c4 => exact rfl); k_whole; intro g' L' h' FG' F' N' B' X' T' GS'; (try dsimp only); (try k_lift B'); (try k_fold))))
  (k_steps; repeat (any_goals (unfold Halt; (first | ((with_reducible show wpAny _ _ (call (Value.ref 108) _) _ _ _); k_dflt (refine' Pure.use (sep_c _ _ _ _ _ _) ?k1 ?k2 ?k3 ?k4 ?k5 ?kK ?kd ?ku ?_; (((case k1 => k_asm); (case k2 => k_asm); (case k3 => k_asm); (case k4 => k_asm); (case k5 => k_asm); (case kK => first | exact rfl | assumption); (case kd => ktr_room); (case ku => ktr_units); k_whole; intro t9 h9 tk9 F9 N9; (try dsimp only); (try k_fold))))) | ((with_reducible show wpAny _ _ (call (Value.ref 94) _) _ _ _); k_dflt (refine' Pure.use (fspath_c _ _ _ _ _ _) ?k1 ?k2 ?k3 ?k4 ?k5 ?kK ?kd ?ku ?_; (((case k1 => k_asm); (case k2 => k_asm); (case k3 => k_asm); (case k4 => k_asm); (case k5 => k_asm); (case kK => first | exact rfl | assumption); (case kd => ktr_room); (case ku => ktr_units); k_whole; intro t9 h9 tk9 F9 N9; (try dsimp only); (try k_fold)))))) <;> ((try dsimp only); k_steps))))
  all_goals exact hret _ _ _ (by k_asm) (gs_nil (by assumption) (by assumption))
theorem splitroot_c (x : Str) (t : Tok) (hx : x.length ≤ 1048576) : Made 4 w mean mg mb 129 (fun _ => True) [.str x t] (fun r tl => ∃ D t1 t2 t3 a b, r = .ref D ∧ tl = [(D, tupO [.str (Str.ofString "") t1, .str a t2, .str b t3])] ∧ a = rootF x ∧ b = restF x ∧ a.length ≤ x.length ∧ b.length ≤ x.length) := by
  have hl : (Str.ofString "").length = 0 := by decide +kernel
  dsimp only [Made]; k_fill; intros; rename_i hret
  refine wpAny_call ?_
  k_dflt (((refine' code_defG ?k1 ?k2 ?k3 ?k4 ?k5 ?kA ?kF ?kK ?k6 ?k7 ?k8 ?k9 ?kB ?_ ?c2 ?c3 ?c4 ?c5; (case kA => exact rfl); (case kF => exact rfl); (case kK => assumption); (case k1 => k_asm); (case k2 => k_asm); (case k3 => k_asm); (case k4 => exact News.nil); (case k5 => k_asm); (case k6 => k_is); (case k7 => k_is); (case k8 => k_room); (case k9 => exact BindsTo.of_eq rfl); (case c5 => decide); (case kB => exact locs rfl); (case c2 => exact rfl); (case c3 => exact rfl); (case c4 => exact rfl); k_whole; intro g' L' h' FG' F' N' B' X' T' GS'; (try dsimp only); (try k_lift B'); (try k_fold))))
  (k_steps; repeat (any_goals (unfold Halt; (first | ((with_reducible show wpAny _ _ (call (Value.ref 108) _) _ _ _); k_dflt (refine' Pure.use (sep_c _ _ _ _ _ _) ?k1 ?k2 ?k3 ?k4 ?k5 ?kK ?kd ?ku ?_; (((case k1 => k_asm); (case k2 => k_asm); (case k3 => k_asm); (case k4 => k_asm); (case k5 => k_asm); (case kK => first | exact rfl | assumption); (case kd => ktr_room); (case ku => ktr_units); k_whole; intro t9 h9 tk9 F9 N9; (try dsimp only); (try k_fold))))) | ((with_reducible show wpAny _ _ (call (Value.ref 94) _) _ _ _); k_dflt (refine' Pure.use (fspath_c _ _ _ _ _ _) ?k1 ?k2 ?k3 ?k4 ?k5 ?kK ?kd ?ku ?_; (((case k1 => k_asm); (case k2 => k_asm); (case k3 => k_asm); (case k4 => k_asm); (case k5 => k_asm); (case kK => first | exact rfl | assumption); (case kd => ktr_room); (case ku => ktr_units); k_whole; intro t9 h9 tk9 F9 N9; (try dsimp only); (try k_fold)))))) <;> ((try dsimp only); k_steps))))
  all_goals refine hret _ _ _ _ (by k_asm) (gs_nil (by assumption) (by assumption)) (by assumption) (gs_fresh (by assumption) (by assumption)) ⟨_, _, _, _, _, _, rfl, rfl, ?_, ?_, ?_, ?_⟩
  all_goals with_reducible first | exact Nat.le_refl _ | exact Txt.slice_le _ _ _ | exact root_e hl | exact root_1 (by assumption) | exact rest_1 (by assumption) | exact root_l (by assumption) | exact root_2 (by assumption) (.inl (by assumption)) | exact rest_2 (by assumption) (.inl (by assumption)) | exact root_2 (by assumption) (.inr (by assumption)) | exact rest_2 (by assumption) (.inr (by assumption)) | exact root_3 (by assumption) (by assumption) (by assumption) | exact rest_3 (by assumption) (by assumption) (by assumption)
end

-- 12_split
theorem news_head {h₀ h : Heap} {L : Addr} {p : Addr × Obj} {r : List (Addr × Obj)} (N : News h₀ L h (p :: r)) : News h₀ L h [p] := fun q hq => by
  rw [List.mem_singleton.mp hq]; exact N p (.head _)
noncomputable def headF (x : Str) : Str := if ((Txt.slice x none (some (Txt.rfind x (Str.ofString "/") + 1))).length : Int) ≠ 0 ∧ (Txt.slice x none (some (Txt.rfind x (Str.ofString "/") + 1)) != Txt.mul (Str.ofString "/") ((Txt.slice x none (some (Txt.rfind x (Str.ofString "/") + 1))).length : Int)) = true
  then Txt.rstripChars (Txt.slice x none (some (Txt.rfind x (Str.ofString "/") + 1))) (Str.ofString "/") else Txt.slice x none (some (Txt.rfind x (Str.ofString "/") + 1))
theorem headF_a {x : Str} (h1 : ((Txt.slice x none (some (Txt.rfind x (Str.ofString "/") + 1))).length : Int) ≠ 0) (h2 : (Txt.slice x none (some (Txt.rfind x (Str.ofString "/") + 1)) != Txt.mul (Str.ofString "/") ((Txt.slice x none (some (Txt.rfind x (Str.ofString "/") + 1))).length : Int)) = true) :
    Txt.rstripChars (Txt.slice x none (some (Txt.rfind x (Str.ofString "/") + 1))) (Str.ofString "/") = headF x := by unfold headF; rw [if_pos ⟨h1, h2⟩]
theorem headF_b {x : Str} (h2 : (Txt.slice x none (some (Txt.rfind x (Str.ofString "/") + 1)) != Txt.mul (Str.ofString "/") ((Txt.slice x none (some (Txt.rfind x (Str.ofString "/") + 1))).length : Int)) = false) :
    Txt.slice x none (some (Txt.rfind x (Str.ofString "/") + 1)) = headF x := by unfold headF; rw [if_neg]; intro h; rw [h2] at h; exact absurd h.2 (by decide)
theorem headF_c {x : Str} (h1 : ((Txt.slice x none (some (Txt.rfind x (Str.ofString "/") + 1))).length : Int) = 0) :
    Txt.slice x none (some (Txt.rfind x (Str.ofString "/") + 1)) = headF x := by unfold headF; rw [if_neg]; intro h; exact h.1 h1
section
variable (w : World) (mean : ExcName → Option Value) (mg mb : Str → Option Value)
theorem split_c (x : Str) (t : Tok) (hx : x.length ≤ 1048576) : Made 4 w mean mg mb 122 (fun _ => True) [.str x t] (fun r tl => ∃ D t1 t2 a b, r = .ref D ∧ tl = [(D, tupO [.str a t1, .str b t2])] ∧ a = headF x ∧ b = baseF x ∧ a.length ≤ x.length ∧ b.length ≤ x.length) := by
  dsimp only [Made]; k_fill; intros; rename_i hret
  refine wpAny_call ?_
  k_dflt (((refine' code_defG ?k1 ?k2 ?k3 ?k4 ?k5 ?kA ?kF ?kK ?k6 ?k7 ?k8 ?k9 ?kB ?_ ?c2 ?c3 ?c4 ?c5; (case kA => exact rfl); (case kF => exact rfl); (case kK => assumption); (case k1 => k_asm); (case k2 => k_asm); (case k3 => k_asm); (case k4 => exact News.nil); (case k5 => k_asm); (case k6 => k_is); (case k7 => k_is); (case k8 => k_room); (case k9 => exact BindsTo.of_eq rfl); (case c5 => decide); (case kB => exact locs rfl); (case c2 => exact rfl); (case c3 => exact rfl); (case c4 => exact rfl); k_whole; intro g' L' h' FG' F' N' B' X' T' GS'; (try dsimp only); (try k_lift B'); (try k_fold))))
  (k_steps; repeat (any_goals (unfold Halt; (first | ((with_reducible show wpAny _ _ (call (Value.ref 108) _) _ _ _); k_dflt (refine' Pure.use (sep_c _ _ _ _ _ _) ?k1 ?k2 ?k3 ?k4 ?k5 ?kK ?kd ?ku ?_; (((case k1 => k_asm); (case k2 => k_asm); (case k3 => k_asm); (case k4 => k_asm); (case k5 => k_asm); (case kK => first | exact rfl | assumption); (case kd => ktr_room); (case ku => ktr_units); k_whole; intro t9 h9 tk9 F9 N9; (try dsimp only); (try k_fold))))) | ((with_reducible show wpAny _ _ (call (Value.ref 94) _) _ _ _); k_dflt (refine' Pure.use (fspath_c _ _ _ _ _ _) ?k1 ?k2 ?k3 ?k4 ?k5 ?kK ?kd ?ku ?_; (((case k1 => k_asm); (case k2 => k_asm); (case k3 => k_asm); (case k4 => k_asm); (case k5 => k_asm); (case kK => first | exact rfl | assumption); (case kd => ktr_room); (case ku => ktr_units); k_whole; intro t9 h9 tk9 F9 N9; (try dsimp only); (try k_fold)))))) <;> ((try dsimp only); k_steps))))
  all_goals refine hret _ _ _ _ (by k_asm) (gs_nil (by assumption) (by assumption)) (news_head (by assumption)) (gs_fresh (by assumption) (news_head (by assumption))) ⟨_, _, _, _, _, rfl, rfl, ?_, ?_, ?_, ?_⟩
  all_goals first | with_reducible exact headF_a (by assumption) (by assumption) | with_reducible exact headF_b (by assumption) | with_reducible exact headF_c (by assumption) | (unfold baseF; with_reducible rfl) | with_reducible exact Txt.slice_le _ _ _ | (refine Nat.le_trans (by assumption) ?_; exact Txt.slice_le _ _ _)
end

-- 13_join
noncomputable def pieceF (path b : Str) : Str := if Txt.startswith b (Str.ofString "/") = true ∨ (path.length : Int) = 0 then b else if Txt.endswith path (Str.ofString "/") = true then path ++ b else path ++ (Str.ofString "/" ++ b)
noncomputable def joinF : Str → List Str → Str
  | path, [] => path
  | path, b :: r => joinF (pieceF path b) r
noncomputable def lens : List (Str × Tok) → Nat
  | [] => 0
  | p :: r => p.1.length + 1 + lens r
noncomputable def JJoin (m₀ : Str → Option Value) (n₀ : List (Addr × Obj)) (z : Str) (ps : List (Str × Tok)) (m : Str → Option Value) (n : List (Addr × Obj)) : Prop :=
  n = n₀ ∧ (∀ y, y ≠ Str.ofString "b" → y ≠ Str.ofString "path" → m y = m₀ y) ∧ ∃ path tp, m (Str.ofString "path") = some (.str path tp) ∧ joinF path (ps.map (·.1)) = z ∧ path.length + lens ps ≤ 1048576
theorem map_two {m m₀ : Str → Option Value} {a b : Str} {v : Option Value} (hb : m b = v) (h : ∀ y, y ≠ a → y ≠ b → m y = m₀ y) : m = fun y => if y = a then m a else if y = b then v else m₀ y := by
  funext y
  by_cases ha : y = a
  · subst ha; simp
  · by_cases hb' : y = b
    · subst hb'; simp [ha, hb]
    · simp [ha, hb', h y ha hb']
theorem piece_a {path b : Str} (h : Txt.startswith b (Str.ofString "/") = true) : b = pieceF path b := by unfold pieceF; rw [if_pos (.inl h)]
theorem piece_d {path b : Str} (h : (path.length : Int) = 0) : b = pieceF path b := by unfold pieceF; rw [if_pos (.inr h)]
theorem piece_no {path b : Str} (h : Txt.startswith b (Str.ofString "/") = false) (h2 : (path.length : Int) ≠ 0) : ¬ (Txt.startswith b (Str.ofString "/") = true ∨ (path.length : Int) = 0) := fun q => q.elim (fun e => by rw [h] at e; cases e) h2
theorem piece_b {path b : Str} (h : Txt.startswith b (Str.ofString "/") = false) (h2 : (path.length : Int) ≠ 0) (h3 : Txt.endswith path (Str.ofString "/") = true) : path ++ b = pieceF path b := by unfold pieceF; rw [if_neg (piece_no h h2), if_pos h3]
theorem piece_c {path b : Str} (h : Txt.startswith b (Str.ofString "/") = false) (h2 : (path.length : Int) ≠ 0) (h3 : Txt.endswith path (Str.ofString "/") = false) : path ++ (Str.ofString "/" ++ b) = pieceF path b := by unfold pieceF; rw [if_neg (piece_no h h2), if_neg (by rw [h3]; decide)]
theorem slash_len : (Str.ofString "/").length = 1 := by decide +kernel
section
local macro_rules | `(tactic| walk_at "exec For Name Name cons nil") => `(tactic| refine halt ?_)
local macro_rules | `(tactic| walk_at "pyIter ref") => `(tactic| (k_here; refine halt ?_))
variable (w : World) (mean : ExcName → Option Value) (mg mb : Str → Option Value)
theorem join_any (x : Str) (t : Tok) (ps : List (Str × Tok)) (hps : ps.length ≤ 3) (hx : x.length + lens ps ≤ 1048576) : Pure 4 w mean mg mb 115 (.str x t :: strValues ps) (fun t' => .str (joinF x (ps.map (·.1))) t') := by
  dsimp only [Pure]; k_fill; intros; rename_i hret
  refine wpAny_call ?_
  k_dflt (refine' rest_enter (g₁ := fun D => some [(Str.ofString "a", .str x t), (Str.ofString "p", .ref D)]) (binds := fun D => [(Str.ofString "a", .str x t), (Str.ofString "p", .ref D)]) ?k1 ?k2 ?k3 ?k5 ?kA ?kF ?kK ?k6 ?k7 ?k8 ?kV ?kP ?kG ?kB ?_ ?c2 ?c3 ?c4 ?c5; (case kA => exact rfl); (case kF => exact rfl); (case kK => assumption); (case k1 => k_asm); (case k2 => k_asm); (case k3 => k_asm); (case k5 => k_asm); (case k6 => k_is); (case k7 => k_is); (case k8 => k_room); (case kV => exact (rfl : strValues ps = strValues ps)); (case kP => (clear hx; rcases ps with _ | ⟨a, _ | ⟨b, _ | ⟨c, _ | ⟨d, r⟩⟩⟩⟩; exact rfl; exact rfl; exact rfl; exact rfl; exact absurd hps (by simp))); (case kG => exact fun _ => rfl); (case kB => exact fun _ => locs rfl); (case c5 => decide); (case c2 => exact rfl); (case c3 => exact rfl); (case c4 => exact rfl); k_whole; intro D' g' L' h' FG' F' N' B' X' T' GS'; (try dsimp only); (try k_lift B'); (try k_fold))
  (k_steps; repeat (any_goals (unfold Halt; (first | ((rename Fr _ _ _ _ => lF'); (with_unfolding_all refine' For_turns lF' ?_; k_whole)) | ((with_reducible show wpAny _ _ (call (Value.ref 108) _) _ _ _); k_dflt (refine' Pure.use (sep_c _ _ _ _ _ _) ?k1 ?k2 ?k3 ?k4 ?k5 ?kK ?kd ?ku ?_; (((case k1 => k_asm); (case k2 => k_asm); (case k3 => k_asm); (case k4 => k_asm); (case k5 => k_asm); (case kK => first | exact rfl | assumption); (case kd => ktr_room); (case ku => ktr_units); k_whole; intro t9 h9 tk9 F9 N9; (try dsimp only); (try k_fold))))) | ((with_reducible show wpAny _ _ (call (Value.ref 94) _) _ _ _); k_dflt (refine' Pure.use (fspath_c _ _ _ _ _ _) ?k1 ?k2 ?k3 ?k4 ?k5 ?kK ?kd ?ku ?_; (((case k1 => k_asm); (case k2 => k_asm); (case k3 => k_asm); (case k4 => k_asm); (case k5 => k_asm); (case kK => first | exact rfl | assumption); (case kd => ktr_room); (case ku => ktr_units); k_whole; intro t9 h9 tk9 F9 N9; (try dsimp only); (try k_fold)))))) <;> ((try dsimp only); k_steps))))
  unfold Halt
  rename Fr _ _ _ _ => lF
  rename News _ _ _ _ => lN
  with_unfolding_all refine iter_tupTurns (lo := ({ cls := .type "tuple", data := .seq (strValues ps).toArray } : Obj)) (vs := strValues ps) (by rfl) lF lN (by k_mem) (by rfl) (by rfl) ?_
  clear lF lN
  intro I l1
  have e9 : (strValues ps).map Itm.val = ps.map (fun p => Itm.val (Value.str p.1 p.2)) := by unfold strValues; rw [List.map_map]; rfl
  rw [e9]
  refine items_vals (val := fun p : Str × Tok => Value.str p.1 p.2) (JJoin _ _ (joinF x (ps.map (·.1)))) ?done ?turn ps _ _ ⟨rfl, fun _ _ _ => rfl, _, _, rfl, rfl, hx⟩
  case done =>
    intro m news h tk hJ F N
    obtain ⟨rfl, hm, path, tp, hp, hj, hl⟩ := hJ
    rw [map_two hp hm] at F
    clear hm
    (k_steps; repeat (any_goals (unfold Halt; (first | ((rename Fr _ _ _ _ => lF'); (with_unfolding_all refine' For_turns lF' ?_; k_whole)) | ((with_reducible show wpAny _ _ (call (Value.ref 108) _) _ _ _); k_dflt (refine' Pure.use (sep_c _ _ _ _ _ _) ?k1 ?k2 ?k3 ?k4 ?k5 ?kK ?kd ?ku ?_; (((case k1 => k_asm); (case k2 => k_asm); (case k3 => k_asm); (case k4 => k_asm); (case k5 => k_asm); (case kK => first | exact rfl | assumption); (case kd => ktr_room); (case ku => ktr_units); k_whole; intro t9 h9 tk9 F9 N9; (try dsimp only); (try k_fold))))) | ((with_reducible show wpAny _ _ (call (Value.ref 94) _) _ _ _); k_dflt (refine' Pure.use (fspath_c _ _ _ _ _ _) ?k1 ?k2 ?k3 ?k4 ?k5 ?kK ?kd ?ku ?_; (((case k1 => k_asm); (case k2 => k_asm); (case k3 => k_asm); (case k4 => k_asm); (case k5 => k_asm); (case kK => first | exact rfl | assumption); (case kd => ktr_room); (case ku => ktr_units); k_whole; intro t9 h9 tk9 F9 N9; (try dsimp only); (try k_fold)))))) <;> ((try dsimp only); k_steps))))
    have e : path = joinF x (ps.map (·.1)) := hj
    subst e
    exact hret _ _ _ (by k_asm) (gs_nil (by assumption) (by assumption))
  case turn =>
    intro p r m news h tk hJ F
    obtain ⟨rfl, hm, path, tp, hp, hj, hl⟩ := hJ
    rw [map_two hp hm] at F
    generalize m (Str.ofString "b") = vb at F
    clear hm hp
    obtain ⟨b, tb⟩ := p
    have hl' : path.length + (b.length + 1 + lens r) ≤ 1048576 := hl
    dsimp only
    ktu_objs
    (k_steps; repeat (any_goals (unfold Halt; (first | ((rename Fr _ _ _ _ => lF'); (with_unfolding_all refine' For_turns lF' ?_; k_whole)) | ((with_reducible show wpAny _ _ (call (Value.ref 108) _) _ _ _); k_dflt (refine' Pure.use (sep_c _ _ _ _ _ _) ?k1 ?k2 ?k3 ?k4 ?k5 ?kK ?kd ?ku ?_; (((case k1 => k_asm); (case k2 => k_asm); (case k3 => k_asm); (case k4 => k_asm); (case k5 => k_asm); (case kK => first | exact rfl | assumption); (case kd => ktr_room); (case ku => ktr_units); k_whole; intro t9 h9 tk9 F9 N9; (try dsimp only); (try k_fold))))) | ((with_reducible show wpAny _ _ (call (Value.ref 94) _) _ _ _); k_dflt (refine' Pure.use (fspath_c _ _ _ _ _ _) ?k1 ?k2 ?k3 ?k4 ?k5 ?kK ?kd ?ku ?_; (((case k1 => k_asm); (case k2 => k_asm); (case k3 => k_asm); (case k4 => k_asm); (case k5 => k_asm); (case kK => first | exact rfl | assumption); (case kd => ktr_room); (case ku => ktr_units); k_whole; intro t9 h9 tk9 F9 N9; (try dsimp only); (try k_fold)))))) <;> ((try dsimp only); k_steps))))
    all_goals refine ⟨rfl, ?_, _, _, rfl, Eq.trans (congrArg (joinF · _) ?_) hj, ?_⟩
    all_goals first | exact piece_a (by assumption) | exact piece_b (by assumption) (by assumption) (by assumption) | exact piece_c (by assumption) (by assumption) (by assumption) | exact piece_d (by assumption) | (intro y h1 h2; (repeat with_reducible first | rfl | refine nx h1 ?_ | refine nx h2 ?_ | refine nx2 h1 ?_ | refine nx2 h2 ?_); done) | (have hs := slash_len; omega)
theorem join_c (x : Str) (t : Tok) (y : Str) (u : Tok) (hx : x.length + lens [(y, u)] ≤ 1048576) : Pure 4 w mean mg mb 115 [.str x t, .str y u] (fun t' => .str (joinF x [y]) t') := join_any w mean mg mb x t [(y, u)] (by simp) hx
theorem join2_c (x : Str) (t : Tok) (y : Str) (u : Tok) (y2 : Str) (u2 : Tok) (hx : x.length + lens [(y, u), (y2, u2)] ≤ 1048576) : Pure 4 w mean mg mb 115 [.str x t, .str y u, .str y2 u2] (fun t' => .str (joinF x [y, y2]) t') := join_any w mean mg mb x t [(y, u), (y2, u2)] (by simp) hx
theorem join3_c (x : Str) (t : Tok) (y : Str) (u : Tok) (y2 : Str) (u2 : Tok) (y3 : Str) (u3 : Tok) (hx : x.length + lens [(y, u), (y2, u2), (y3, u3)] ≤ 1048576) : Pure 4 w mean mg mb 115 [.str x t, .str y u, .str y2 u2, .str y3 u3] (fun t' => .str (joinF x [y, y2, y3]) t') := join_any w mean mg mb x t [(y, u), (y2, u2), (y3, u3)] (by simp) hx
end

-- 14_norm
-- lists of texts of unknown length in the ledger
section
variable {prog : Program} {w : World} {A : Around} {E : Value → Shared → Prop} {s : Shared} {h₀ : Heap} {L a : Addr} {m : Str → Option Value} {news news' : List (Addr × Obj)} {cs : List (Str × Tok)} {n : Nat}
theorem strs_isList (N : News h₀ L s.heap news) (hm : (a, W.listOf (strValues cs).toArray n) ∈ news) : s.heap.IsList a (strValues cs).toArray := ⟨_, (N _ hm).1, rfl, n, rfl⟩
theorem strs_truthy {Q : Bool → Shared → Prop} (N : News h₀ L s.heap news) (hm : (a, W.listOf (strValues cs).toArray n) ∈ news) (hb : cs.length ≤ 1048576) (h : ∀ tk, Q (!cs.isEmpty) { s with toks := tk }) : wpAny (model prog w) A (truthy (.ref a)) Q E s := by
  refine wpAny_truthy_list (strs_isList N hm) (by simp only [List.size_toArray, strValues, List.length_map]; omega) ?_
  have e : (strValues cs).toArray.isEmpty = cs.isEmpty := by cases cs <;> rfl
  rw [e]; exact h _
theorem strs_truthy1 {Q : Bool → Shared → Prop} {p : Str × Tok} (N : News h₀ L s.heap news) (hm : (a, W.listOf (strValues (cs ++ [p])).toArray n) ∈ news) (hb : (cs ++ [p]).length ≤ 1048576) (h : ∀ tk, Q true { s with toks := tk }) : wpAny (model prog w) A (truthy (.ref a)) Q E s :=
  strs_truthy N hm hb fun tk => by have e : (cs ++ [p]).isEmpty = false := by simp
                                   rw [e]; exact h tk
theorem strs_last {value slice : Expr} {Q : Value → Shared → Prop} {u : Tok} {l : Str} {t : Tok} (N : News h₀ L s.heap news) (hm : (a, W.listOf (strValues (cs ++ [(l, t)])).toArray n) ∈ news) (h : Q (.str l t) s)
    (hs : subscripted slice false (.ref a) (.int (-1) u) = operate [.ref a, .int (-1) u] (getItem (.ref a) (.int (-1) u)) := by with_unfolding_all rfl) : wpAny (model prog w) A (subscriptTail value slice (.ref a) (.int (-1) u)) Q E s := by
  refine kde_neg (j := cs.length) (v := .str l t) (strs_isList N hm) (by decide) (by decide) ?_ ?_ h hs
  · unfold seqIndex?; simp [strValues]; omega
  · simp [strValues]
theorem strs_pop {Q : Value → Shared → Prop} {l : Str} {t : Tok} (F : Fr h₀ L s.heap m) (N : News h₀ L s.heap news) (U : Upd a (W.listOf (strValues (cs ++ [(l, t)])).toArray n) (W.listOf (strValues cs).toArray (n + 1)) news news') (hb : cs.length ≤ 1048576)
    (h : ∀ h', Fr h₀ L h' m → News h₀ L h' news' → Q (.str l t) { s with heap := h' }) : wpAny (model prog w) A (call (.builtin "list.pop") [.ref a]) Q E s := by
  refine kl_pop (p := strValues cs) (y := .str l t) F N ?_ U ?_ h
  · simp only [List.toList_toArray, strValues, List.map_append, List.map_cons, List.map_nil]; exact kpa_last _ _
  · rw [sizeLine_eq]; simp [strValues]; omega
theorem strs_join {Q : Value → Shared → Prop} {x : Str} {t : Tok} (N : News h₀ L s.heap news) (hm : (a, W.listOf (strValues cs).toArray n) ∈ news) (hw : ((cs.map (·.1)).map (·.length)).sum + (cs.map (·.1)).length ≤ 1048576) (hx : x.length ≤ 16)
    (h : ∀ z t' k, z = Txt.join x (cs.map (·.1)) → Q (.str z t') { s with toks := k }) : wpAny (model prog w) A (call (.builtin "str.join") [.str x t, .ref a]) Q E s :=
  SC.join (strs_isList N hm) rfl (joinOk_of_weight hw hx) fun t' k => h _ t' k rfl
theorem strs_append {Q : Value → Shared → Prop} {c : Str} {t : Tok} (F : Fr h₀ L s.heap m) (N : News h₀ L s.heap news) (U : Upd a (W.listOf (strValues cs).toArray n) (W.listOf (strValues (cs ++ [(c, t)])).toArray (n + 1)) news news') (hb : cs.length ≤ 1048576)
    (h : ∀ h', Fr h₀ L h' m → News h₀ L h' news' → Q .none { s with heap := h' }) : wpAny (model prog w) A (call (.builtin "list.append") [.ref a, .str c t]) Q E s := by
  have e : (strValues cs).toArray.push (.str c t) = (strValues (cs ++ [(c, t)])).toArray := by simp [strValues]
  refine append_K (hsz := ?_) F N (e ▸ U) h
  rw [sizeLine_eq]; simp [strValues]; omega
theorem strs_push (cs : List (Str × Tok)) (c : Str) (t : Tok) : (strValues cs).toArray.push (.str c t) = (strValues (cs ++ [(c, t)])).toArray := by simp [strValues]
end
noncomputable def stepN (root : Str) (cs : List Str) (c : Str) : List Str :=
  if (c.length : Int) = 0 ∨ (c == Str.ofString ".") = true then cs
  else if (c != Str.ofString "..") = true ∨ ((root.length : Int) = 0 ∧ cs = []) ∨ cs.getLast? = some (Str.ofString "..") then cs ++ [c]
  else cs.dropLast
noncomputable def partsF (x : Str) : List Str := (Txt.split (restF x) (Str.ofString "/")).foldl (stepN (rootF x)) []
noncomputable def bodyF (x : Str) : Str := rootF x ++ Txt.join (Str.ofString "/") (partsF x)
noncomputable def normF (x : Str) : Str := if (x.length : Int) = 0 then Str.ofString "." else if ((bodyF x).length : Int) = 0 then Str.ofString "." else bodyF x
noncomputable def weight (l : List Str) : Nat := (l.map (·.length)).sum + l.length
noncomputable def JNorm (m₀ : Str → Option Value) (l : Addr) (n₀ : List (Addr × Obj)) (root : Str) (z : List Str) (ps : List (Str × Tok)) (m : Str → Option Value) (n : List (Addr × Obj)) : Prop :=
  (∀ y, y ≠ Str.ofString "comp" → m y = m₀ y) ∧ ∃ cs k, n = (l, W.listOf (strValues cs).toArray k) :: n₀ ∧ (ps.map (·.1)).foldl (stepN root) (cs.map (·.1)) = z ∧ weight (cs.map (·.1)) + weight (ps.map (·.1)) ≤ 1040000
theorem map_one {m m₀ : Str → Option Value} {a : Str} (h : ∀ y, y ≠ a → m y = m₀ y) : m = fun y => if y = a then m a else m₀ y := by
  funext y
  by_cases ha : y = a
  · subst ha; simp
  · simp [ha, h y ha]
theorem join_len (sep : Str) (hs : sep.length = 1) : ∀ ts : List Str, (Str.join sep ts).length ≤ weight ts
  | [] => by simp [Str.join, weight]; decide
  | [x] => by simp [Str.join, weight]
  | x :: y :: r => by
    have ih := join_len sep hs (y :: r)
    simp only [Str.join, Str.length_append, weight, List.map_cons, List.sum_cons, List.length_cons] at ih ⊢
    omega
theorem joinT_len (ts : List Str) : (Txt.join (Str.ofString "/") ts).length ≤ weight ts := by
  have e : Txt.join (Str.ofString "/") ts = Str.join (Str.ofString "/") ts := StrLaws.glued_eq_join _ _
  rw [e]; exact join_len _ slash_len ts
theorem joinT_len' {z : Str} {ts : List Str} {n : Nat} (h : z = Txt.join (Str.ofString "/") ts) (hn : weight ts ≤ n) : z.length ≤ n := by subst h; exact Nat.le_trans (joinT_len ts) hn
theorem normF_a {x : Str} (h0 : (x.length : Int) = 0) : Str.ofString "." = normF x := by unfold normF; rw [if_pos h0]
theorem normF_b {x a z : Str} {ts : List Str} (h0 : (x.length : Int) ≠ 0) (ha : a = rootF x) (hz : z = Txt.join (Str.ofString "/") ts) (ht : ts = partsF x) (h1 : ((a ++ z).length : Int) ≠ 0) : a ++ z = normF x := by
  subst ha hz ht; unfold normF; rw [if_neg h0]; unfold bodyF; rw [if_neg h1]
theorem normF_c {x a z : Str} {ts : List Str} (h0 : (x.length : Int) ≠ 0) (ha : a = rootF x) (hz : z = Txt.join (Str.ofString "/") ts) (ht : ts = partsF x) (h1 : ((a ++ z).length : Int) = 0) : Str.ofString "." = normF x := by
  subst ha hz ht; unfold normF; rw [if_neg h0]; unfold bodyF; rw [if_pos h1]
theorem weight_snoc (l : List Str) (c : Str) : weight (l ++ [c]) = weight l + (c.length + 1) := by simp [weight]; omega
theorem weight_cons (l : List Str) (c : Str) : weight (c :: l) = weight l + (c.length + 1) := by simp [weight]; omega
theorem weight_len (l : List Str) : l.length ≤ weight l := by simp [weight]
theorem step_skip {root : Str} {cs : List Str} {c : Str} (h : (c.length : Int) = 0) : stepN root cs c = cs := by unfold stepN; rw [if_pos (.inl h)]
theorem step_dot {root : Str} {cs : List Str} {c : Str} (h : (c == Str.ofString ".") = true) : stepN root cs c = cs := by unfold stepN; rw [if_pos (.inr h)]
theorem step_no {c : Str} (h : (c.length : Int) ≠ 0) (h2 : (c == Str.ofString ".") = false) : ¬ ((c.length : Int) = 0 ∨ (c == Str.ofString ".") = true) := fun q => q.elim h (fun e => by rw [h2] at e; cases e)
theorem step_add {root : Str} {cs : List Str} {c : Str} (h : (c.length : Int) ≠ 0) (h2 : (c == Str.ofString ".") = false) (h3 : (c != Str.ofString "..") = true ∨ ((root.length : Int) = 0 ∧ cs = []) ∨ cs.getLast? = some (Str.ofString "..")) : stepN root cs c = cs ++ [c] := by unfold stepN; rw [if_neg (step_no h h2), if_pos h3]
theorem step_up {root : Str} {cs : List Str} {c : Str} (h : (c.length : Int) ≠ 0) (h2 : (c == Str.ofString ".") = false) (h3 : (c != Str.ofString "..") = false) (h4 : ¬ ((root.length : Int) = 0 ∧ cs = [])) (h5 : cs.getLast? ≠ some (Str.ofString "..")) : stepN root cs c = cs.dropLast := by
  unfold stepN; rw [if_neg (step_no h h2), if_neg (fun q => q.elim (fun e => by rw [h3] at e; cases e) (fun q => q.elim h4 h5))]
theorem fold_step {root : Str} {cs cs2 : List Str} {c : Str} {r z : List Str} (e : stepN root cs c = cs2) (hj : (c :: r).foldl (stepN root) cs = z) : r.foldl (stepN root) cs2 = z := e ▸ hj
theorem snoc_cases {α : Type} (l : List α) : l = [] ∨ ∃ l' p, l = l' ++ [p] := by
  rcases List.eq_nil_or_concat l with h | ⟨l', p, h⟩
  · exact .inl h
  · exact .inr ⟨l', p, by rw [h, List.concat_eq_append]⟩
theorem stepA {root : Str} {cs : List (Str × Tok)} {c : Str} {tc : Tok} (h : (c.length : Int) ≠ 0) (h2 : (c == Str.ofString ".") = false) (h3 : (c != Str.ofString "..") = true) : stepN root (cs.map (·.1)) c = (cs ++ [(c, tc)]).map (·.1) := by
  rw [step_add h h2 (.inl h3)]; simp
theorem stepB {root : Str} {c : Str} {tc : Tok} (h : (c.length : Int) ≠ 0) (h2 : (c == Str.ofString ".") = false) (h3 : (root.length : Int) = 0) : stepN root (([] : List (Str × Tok)).map (·.1)) c = (([] : List (Str × Tok)) ++ [(c, tc)]).map (·.1) := by
  rw [List.map_nil, step_add h h2 (.inr (.inl ⟨h3, rfl⟩))]; simp
theorem stepC {root : Str} {cs : List (Str × Tok)} {c lc : Str} {tc lt : Tok} (h : (c.length : Int) ≠ 0) (h2 : (c == Str.ofString ".") = false) (h3 : (lc == Str.ofString "..") = true) : stepN root ((cs ++ [(lc, lt)]).map (·.1)) c = (cs ++ [(lc, lt)] ++ [(c, tc)]).map (·.1) := by
  rw [step_add h h2 (.inr (.inr (by simp [eq_of_beq h3])))]; simp
theorem stepD {root : Str} {c : Str} (h : (c.length : Int) ≠ 0) (h2 : (c == Str.ofString ".") = false) (h3 : (c != Str.ofString "..") = false) (h4 : (root.length : Int) ≠ 0) : stepN root (([] : List (Str × Tok)).map (·.1)) c = ([] : List (Str × Tok)).map (·.1) := by
  rw [step_up h h2 h3 (fun q => h4 q.1) (by simp)]; simp
theorem stepE {root : Str} {cs : List (Str × Tok)} {c lc : Str} {lt : Tok} (h : (c.length : Int) ≠ 0) (h2 : (c == Str.ofString ".") = false) (h3 : (c != Str.ofString "..") = false) (h4 : (lc == Str.ofString "..") = false) : stepN root ((cs ++ [(lc, lt)]).map (·.1)) c = cs.map (·.1) := by
  rw [step_up h h2 h3 (by simp) (by simp; intro e; rw [e] at h4; simp at h4)]; simp
theorem wA {cs : List (Str × Tok)} {c : Str} {tc : Tok} {n k : Nat} (h : weight (cs.map (·.1)) + (n + (c.length + 1)) ≤ k) : weight ((cs ++ [(c, tc)]).map (·.1)) + n ≤ k := by
  have e : weight ((cs ++ [(c, tc)]).map (·.1)) = weight (cs.map (·.1)) + (c.length + 1) := by rw [List.map_append, List.map_cons, List.map_nil, weight_snoc]
  omega
theorem wE {cs : List (Str × Tok)} {c lc : Str} {lt : Tok} {n k : Nat} (h : weight ((cs ++ [(lc, lt)]).map (·.1)) + (n + (c.length + 1)) ≤ k) : weight (cs.map (·.1)) + n ≤ k := by
  have e : weight ((cs ++ [(lc, lt)]).map (·.1)) = weight (cs.map (·.1)) + (lc.length + 1) := by rw [List.map_append, List.map_cons, List.map_nil, weight_snoc]
  omega
theorem wZ {n k : Nat} (h : n ≤ k) : weight (([] : List (Str × Tok)).map (·.1)) + n ≤ k := by rw [List.map_nil, weight, List.map_nil, List.sum_nil, List.length_nil, Nat.add_zero, Nat.zero_add]; exact h
theorem wS {a n c k : Nat} (h : a + (n + (c + 1)) ≤ k) : a + n ≤ k := by omega
section
local macro_rules | `(tactic| walk_at "exec For Name Name cons nil") => `(tactic| refine halt ?_)
local macro_rules | `(tactic| walk_at "pyIter ref") => `(tactic| (k_here; refine halt ?_))
local macro_rules | `(tactic| walk_at "truthy ref") => `(tactic| refine halt ?_)
local macro_rules | `(tactic| walk_at "subscriptTail Name UnaryOp ref int") => `(tactic| refine halt ?_)
local macro_rules | `(tactic| walk_at "call builtin:list.pop") => `(tactic| refine halt ?_)
local macro_rules | `(tactic| walk_at "call builtin:list.append") => `(tactic| refine halt ?_)
local macro_rules | `(tactic| walk_at "call builtin:str.join") => `(tactic| refine halt ?_)
variable (w : World) (mean : ExcName → Option Value) (mg mb : Str → Option Value)
theorem norm_c (x : Str) (t : Tok) (hx : x.length ≤ 1000) (hw : weight (Txt.split (restF x) (Str.ofString "/")) ≤ 1040000) : Pure 6 w mean mg mb 143 [.str x t] (fun t' => .str (normF x) t') := by
  generalize hW : weight (Txt.split (restF x) (Str.ofString "/")) = W at hw
  dsimp only [Pure]; k_fill; intros; rename_i hret
  refine wpAny_call ?_
  k_dflt (((refine' code_defG ?k1 ?k2 ?k3 ?k4 ?k5 ?kA ?kF ?kK ?k6 ?k7 ?k8 ?k9 ?kB ?_ ?c2 ?c3 ?c4 ?c5; (case kA => exact rfl); (case kF => exact rfl); (case kK => assumption); (case k1 => k_asm); (case k2 => k_asm); (case k3 => k_asm); (case k4 => exact News.nil); (case k5 => k_asm); (case k6 => k_is); (case k7 => k_is); (case k8 => k_room); (case k9 => exact BindsTo.of_eq rfl); (case c5 => decide); (case kB => exact locs rfl); (case c2 => exact rfl); (case c3 => exact rfl); (case c4 => exact rfl); k_whole; intro g' L' h' FG' F' N' B' X' T' GS'; (try dsimp only); (try k_lift B'); (try k_fold))))
  (k_steps; repeat (any_goals (unfold Halt; (first | (k_dflt (refine' strs_join ?kN ?km ?kw ?kx ?_; (case kN => k_asm); (case km => k_mem); (case kw => assumption); (case kx => decide +kernel); k_whole); intro z' t' k' hz'; (have hz2 := joinT_len' hz' (by assumption))) | (k_dflt (refine' strs_append ?kF ?kN ?kU ?kb ?_; (case kF => k_asm); (case kN => k_asm); (case kU => k_upd); (case kb => omega); k_whole); intro h' F' N') | (k_dflt (refine' strs_pop ?kF ?kN ?kU ?kb ?_; (case kF => k_asm); (case kN => k_asm); (case kU => k_upd); (case kb => omega); k_whole); intro h' F' N') | (k_dflt (refine' strs_last ?kN ?km ?_ ?hs; (case kN => k_asm); (case km => k_mem); (case hs => with_unfolding_all rfl); k_whole)) | (k_dflt (first | (refine' strs_truthy1 ?kN ?km ?kb ?_; (case kN => k_asm); (case km => k_mem); (case kb => omega); k_whole) | (refine' strs_truthy ?kN ?km ?kb ?_; (case kN => k_asm); (case km => k_mem); (case kb => omega); k_whole)); intro tk') | ((rename Fr _ _ _ _ => lF'); (with_unfolding_all refine' For_turns lF' ?_; k_whole)) | ((with_reducible show wpAny _ _ (call (Value.ref 129) _) _ _ _); k_dflt (refine' Made.use (splitroot_c _ _ _ _ _ _ ?hx) ?k1 ?k2 ?k3 ?k4 ?k5 ?kK ?kd ?ku trivial ?_; (case hx => size_fits); (((case k1 => k_asm); (case k2 => k_asm); (case k3 => k_asm); (case k4 => k_asm); (case k5 => k_asm); (case kK => first | exact rfl | assumption); (case kd => ktr_room); (case ku => ktr_units))); k_whole; intro r9 tl9 h9 tk9 F9 N9 ne9 o9; obtain ⟨D9, t1, t2, t3, a9, b9, e1, e2, ha9, hb9, hla9, hlb9⟩ := o9; subst e1 e2; (try simp only [List.cons_append, List.nil_append] at N9); (replace ne9 := allNe_of (fun p hp => ne9 p hp _ (List.Mem.head _))); (try simp only [AllNe, and_true] at ne9); (try dsimp only); (try k_fold))) | ((with_reducible show wpAny _ _ (call (Value.ref 94) _) _ _ _); k_dflt (refine' Pure.use (fspath_c _ _ _ _ _ _) ?k1 ?k2 ?k3 ?k4 ?k5 ?kK ?kd ?ku ?_; (((case k1 => k_asm); (case k2 => k_asm); (case k3 => k_asm); (case k4 => k_asm); (case k5 => k_asm); (case kK => first | exact rfl | assumption); (case kd => ktr_room); (case ku => ktr_units); k_whole; intro t9 h9 tk9 F9 N9; (try dsimp only); (try k_fold)))))) <;> ((try dsimp only); k_steps))))
  case' _ => skip
  · unfold Halt
    with_reducible rename Fr _ _ _ _ => lF
    with_reducible rename News _ _ _ _ => lN
    with_reducible rename _ = rootF x => ha9
    with_reducible rename _ = restF x => hb9
    with_reducible rename List.map _ _ = Txt.split _ _ => hsp
    subst hb9
    with_reducible rename Str => a9
    with_reducible rename List (Str × Tok) => l
    with_unfolding_all refine iter_listTurns (lo := ({ cls := .type "list", data := .seq (strValues l).toArray } : Obj)) (vs := strValues l) (by rfl) lF lN (by k_mem) (by rfl) (by rfl) ?_
    clear lF lN
    intro I l1
    k_lt l1
    have e9 : (strValues l).map Itm.val = l.map (fun p => Itm.val (Value.str p.1 p.2)) := by unfold strValues; rw [List.map_map]; rfl
    rw [e9]
    have hZ : weight (([] : List (Str × Tok)).map (·.1)) + weight (l.map (·.1)) ≤ 1040000 := by rw [hsp, hW]; exact wZ hw
    refine items_vals (val := fun p : Str × Tok => Value.str p.1 p.2) (JNorm _ _ _ a9 (partsF x)) ?done ?turn l _ _ ⟨fun _ _ => rfl, [], 0, rfl, by rw [hsp, ha9]; rfl, hZ⟩
    case done =>
      intro m news h tk hJ F N
      obtain ⟨hm, cs, k, rfl, hj, hl⟩ := hJ
      rw [map_one hm] at F
      clear hm
      have hw2 : ((cs.map (·.1)).map (·.length)).sum + (cs.map (·.1)).length ≤ 1048576 := by have := hl; unfold weight at this; omega
      have hl3 : weight (cs.map (·.1)) ≤ 1040000 := by omega
      have e9 : cs.map (·.1) = partsF x := hj
      (k_steps; repeat (any_goals (unfold Halt; (first | (k_dflt (refine' strs_join ?kN ?km ?kw ?kx ?_; (case kN => k_asm); (case km => k_mem); (case kw => assumption); (case kx => decide +kernel); k_whole); intro z' t' k' hz'; (have hz2 := joinT_len' hz' (by assumption))) | (k_dflt (refine' strs_append ?kF ?kN ?kU ?kb ?_; (case kF => k_asm); (case kN => k_asm); (case kU => k_upd); (case kb => omega); k_whole); intro h' F' N') | (k_dflt (refine' strs_pop ?kF ?kN ?kU ?kb ?_; (case kF => k_asm); (case kN => k_asm); (case kU => k_upd); (case kb => omega); k_whole); intro h' F' N') | (k_dflt (refine' strs_last ?kN ?km ?_ ?hs; (case kN => k_asm); (case km => k_mem); (case hs => with_unfolding_all rfl); k_whole)) | (k_dflt (first | (refine' strs_truthy1 ?kN ?km ?kb ?_; (case kN => k_asm); (case km => k_mem); (case kb => omega); k_whole) | (refine' strs_truthy ?kN ?km ?kb ?_; (case kN => k_asm); (case km => k_mem); (case kb => omega); k_whole)); intro tk') | ((rename Fr _ _ _ _ => lF'); (with_unfolding_all refine' For_turns lF' ?_; k_whole)) | ((with_reducible show wpAny _ _ (call (Value.ref 129) _) _ _ _); k_dflt (refine' Made.use (splitroot_c _ _ _ _ _ _ ?hx) ?k1 ?k2 ?k3 ?k4 ?k5 ?kK ?kd ?ku trivial ?_; (case hx => size_fits); (((case k1 => k_asm); (case k2 => k_asm); (case k3 => k_asm); (case k4 => k_asm); (case k5 => k_asm); (case kK => first | exact rfl | assumption); (case kd => ktr_room); (case ku => ktr_units))); k_whole; intro r9 tl9 h9 tk9 F9 N9 ne9 o9; obtain ⟨D9, t1, t2, t3, a9, b9, e1, e2, ha9, hb9, hla9, hlb9⟩ := o9; subst e1 e2; (try simp only [List.cons_append, List.nil_append] at N9); (replace ne9 := allNe_of (fun p hp => ne9 p hp _ (List.Mem.head _))); (try simp only [AllNe, and_true] at ne9); (try dsimp only); (try k_fold))) | ((with_reducible show wpAny _ _ (call (Value.ref 94) _) _ _ _); k_dflt (refine' Pure.use (fspath_c _ _ _ _ _ _) ?k1 ?k2 ?k3 ?k4 ?k5 ?kK ?kd ?ku ?_; (((case k1 => k_asm); (case k2 => k_asm); (case k3 => k_asm); (case k4 => k_asm); (case k5 => k_asm); (case kK => first | exact rfl | assumption); (case kd => ktr_room); (case ku => ktr_units); k_whole; intro t9 h9 tk9 F9 N9; (try dsimp only); (try k_fold)))))) <;> ((try dsimp only); k_steps))))
      · with_reducible rename _ = Txt.join _ _ => hz
        rw [normF_b (by with_reducible assumption) ha9 hz e9 (by with_reducible assumption)]
        exact hret _ _ _ (by k_asm) (gs_nil (by with_reducible assumption) (by with_reducible assumption))
      · with_reducible rename _ = Txt.join _ _ => hz
        rw [normF_c (by with_reducible assumption) ha9 hz e9 (by with_reducible assumption)]
        exact hret _ _ _ (by k_asm) (gs_nil (by with_reducible assumption) (by with_reducible assumption))
    case turn =>
      intro p r m news h tk hJ F
      obtain ⟨hm, cs, k, rfl, hj, hl⟩ := hJ
      rw [map_one hm] at F
      generalize m (Str.ofString "comp") = vb at F
      clear hm
      obtain ⟨c, tc⟩ := p
      have hc1 := weight_len (cs.map (·.1))
      have hc2 : weight (cs.map (·.1)) + (weight (r.map (·.1)) + (c.length + 1)) ≤ 1040000 := by rw [← weight_cons]; exact hl
      rw [List.length_map] at hc1
      dsimp only
      clear e9 hsp
      rcases snoc_cases cs with rfl | ⟨cs', ⟨lc, lt⟩, rfl⟩
      · ktu_objs
        (k_steps; repeat (any_goals (unfold Halt; (first | (k_dflt (refine' strs_join ?kN ?km ?kw ?kx ?_; (case kN => k_asm); (case km => k_mem); (case kw => assumption); (case kx => decide +kernel); k_whole); intro z' t' k' hz'; (have hz2 := joinT_len' hz' (by assumption))) | (k_dflt (refine' strs_append ?kF ?kN ?kU ?kb ?_; (case kF => k_asm); (case kN => k_asm); (case kU => k_upd); (case kb => omega); k_whole); intro h' F' N') | (k_dflt (refine' strs_pop ?kF ?kN ?kU ?kb ?_; (case kF => k_asm); (case kN => k_asm); (case kU => k_upd); (case kb => omega); k_whole); intro h' F' N') | (k_dflt (refine' strs_last ?kN ?km ?_ ?hs; (case kN => k_asm); (case km => k_mem); (case hs => with_unfolding_all rfl); k_whole)) | (k_dflt (first | (refine' strs_truthy1 ?kN ?km ?kb ?_; (case kN => k_asm); (case km => k_mem); (case kb => omega); k_whole) | (refine' strs_truthy ?kN ?km ?kb ?_; (case kN => k_asm); (case km => k_mem); (case kb => omega); k_whole)); intro tk') | ((rename Fr _ _ _ _ => lF'); (with_unfolding_all refine' For_turns lF' ?_; k_whole)) | ((with_reducible show wpAny _ _ (call (Value.ref 129) _) _ _ _); k_dflt (refine' Made.use (splitroot_c _ _ _ _ _ _ ?hx) ?k1 ?k2 ?k3 ?k4 ?k5 ?kK ?kd ?ku trivial ?_; (case hx => size_fits); (((case k1 => k_asm); (case k2 => k_asm); (case k3 => k_asm); (case k4 => k_asm); (case k5 => k_asm); (case kK => first | exact rfl | assumption); (case kd => ktr_room); (case ku => ktr_units))); k_whole; intro r9 tl9 h9 tk9 F9 N9 ne9 o9; obtain ⟨D9, t1, t2, t3, a9, b9, e1, e2, ha9, hb9, hla9, hlb9⟩ := o9; subst e1 e2; (try simp only [List.cons_append, List.nil_append] at N9); (replace ne9 := allNe_of (fun p hp => ne9 p hp _ (List.Mem.head _))); (try simp only [AllNe, and_true] at ne9); (try dsimp only); (try k_fold))) | ((with_reducible show wpAny _ _ (call (Value.ref 94) _) _ _ _); k_dflt (refine' Pure.use (fspath_c _ _ _ _ _ _) ?k1 ?k2 ?k3 ?k4 ?k5 ?kK ?kd ?ku ?_; (((case k1 => k_asm); (case k2 => k_asm); (case k3 => k_asm); (case k4 => k_asm); (case k5 => k_asm); (case kK => first | exact rfl | assumption); (case kd => ktr_room); (case ku => ktr_units); k_whole; intro t9 h9 tk9 F9 N9; (try dsimp only); (try k_fold)))))) <;> ((try dsimp only); k_steps))))
        all_goals refine ⟨?_, _, _, rfl, ?_, ?_⟩
        all_goals first | (intro y h1; (repeat with_reducible first | rfl | refine nx h1 ?_ | refine nx2 h1 ?_); done) | with_reducible exact wA hc2 | with_reducible exact wS hc2 | (refine fold_step ?_ hj; with_reducible first | exact step_skip (by with_reducible assumption) | exact step_dot (by with_reducible assumption) | exact stepA (by with_reducible assumption) (by with_reducible assumption) (by with_reducible assumption) | exact stepB (by with_reducible assumption) (by with_reducible assumption) (by with_reducible assumption) | exact stepD (by with_reducible assumption) (by with_reducible assumption) (by with_reducible assumption) (by with_reducible assumption))
      · have hc4 : (cs' ++ [(lc, lt)]).length ≤ 1040000 := by omega
        have hc5 : cs'.length ≤ 1040000 := by rw [List.length_append] at hc4; omega
        ktu_objs
        (k_steps; repeat (any_goals (unfold Halt; (first | (k_dflt (refine' strs_join ?kN ?km ?kw ?kx ?_; (case kN => k_asm); (case km => k_mem); (case kw => assumption); (case kx => decide +kernel); k_whole); intro z' t' k' hz'; (have hz2 := joinT_len' hz' (by assumption))) | (k_dflt (refine' strs_append ?kF ?kN ?kU ?kb ?_; (case kF => k_asm); (case kN => k_asm); (case kU => k_upd); (case kb => omega); k_whole); intro h' F' N') | (k_dflt (refine' strs_pop ?kF ?kN ?kU ?kb ?_; (case kF => k_asm); (case kN => k_asm); (case kU => k_upd); (case kb => omega); k_whole); intro h' F' N') | (k_dflt (refine' strs_last ?kN ?km ?_ ?hs; (case kN => k_asm); (case km => k_mem); (case hs => with_unfolding_all rfl); k_whole)) | (k_dflt (first | (refine' strs_truthy1 ?kN ?km ?kb ?_; (case kN => k_asm); (case km => k_mem); (case kb => omega); k_whole) | (refine' strs_truthy ?kN ?km ?kb ?_; (case kN => k_asm); (case km => k_mem); (case kb => omega); k_whole)); intro tk') | ((rename Fr _ _ _ _ => lF'); (with_unfolding_all refine' For_turns lF' ?_; k_whole)) | ((with_reducible show wpAny _ _ (call (Value.ref 129) _) _ _ _); k_dflt (refine' Made.use (splitroot_c _ _ _ _ _ _ ?hx) ?k1 ?k2 ?k3 ?k4 ?k5 ?kK ?kd ?ku trivial ?_; (case hx => size_fits); (((case k1 => k_asm); (case k2 => k_asm); (case k3 => k_asm); (case k4 => k_asm); (case k5 => k_asm); (case kK => first | exact rfl | assumption); (case kd => ktr_room); (case ku => ktr_units))); k_whole; intro r9 tl9 h9 tk9 F9 N9 ne9 o9; obtain ⟨D9, t1, t2, t3, a9, b9, e1, e2, ha9, hb9, hla9, hlb9⟩ := o9; subst e1 e2; (try simp only [List.cons_append, List.nil_append] at N9); (replace ne9 := allNe_of (fun p hp => ne9 p hp _ (List.Mem.head _))); (try simp only [AllNe, and_true] at ne9); (try dsimp only); (try k_fold))) | ((with_reducible show wpAny _ _ (call (Value.ref 94) _) _ _ _); k_dflt (refine' Pure.use (fspath_c _ _ _ _ _ _) ?k1 ?k2 ?k3 ?k4 ?k5 ?kK ?kd ?ku ?_; (((case k1 => k_asm); (case k2 => k_asm); (case k3 => k_asm); (case k4 => k_asm); (case k5 => k_asm); (case kK => first | exact rfl | assumption); (case kd => ktr_room); (case ku => ktr_units); k_whole; intro t9 h9 tk9 F9 N9; (try dsimp only); (try k_fold)))))) <;> ((try dsimp only); k_steps))))
        all_goals refine ⟨?_, _, _, rfl, ?_, ?_⟩
        all_goals first | (intro y h1; (repeat with_reducible first | rfl | refine nx h1 ?_ | refine nx2 h1 ?_); done) | with_reducible exact wA hc2 | with_reducible exact wE hc2 | with_reducible exact wS hc2 | (refine fold_step ?_ hj; with_reducible first | exact step_skip (by with_reducible assumption) | exact step_dot (by with_reducible assumption) | exact stepA (by with_reducible assumption) (by with_reducible assumption) (by with_reducible assumption) | exact stepC (by with_reducible assumption) (by with_reducible assumption) (by with_reducible assumption) | exact stepE (by with_reducible assumption) (by with_reducible assumption) (by with_reducible assumption) (by with_reducible assumption))
  · rw [normF_a (by with_reducible assumption)]
    exact hret _ _ _ (by k_asm) (gs_nil (by with_reducible assumption) (by with_reducible assumption))
end

-- 15_loops
-- loops over tuples of the top: enumerate, for .. else
section
variable {prog : Program} {w : World} {A : Around} {E : Value → Shared → Prop} {s : Shared}
theorem next_tup_item {it l : Addr} {i : Nat} {items : Array Value} {x : Value} {Q : Value → Shared → Prop} (hit : s.heap.IsTupleIter it l i) (hl : s.heap.IsTuple l items) (hx : items[i]? = some x)
    (hQ : ∀ h', h'.IsTupleIter it l (i + 1) → Heap.SameBut it s.heap h' → Q x { s with heap := h' }) : wpAny (model prog w) A (Builtin.SmallTypes.nextOf (.ref it)) Q E s := by
  obtain ⟨o, ho, hc, hd⟩ := id hit
  obtain ⟨ol, hol, _, nl, hdl⟩ := hl
  unfold Builtin.SmallTypes.nextOf
  refine wpAny_bind (wpAny_callSpecial?_slot (name := Str.ofString "__next__") hit.typeIs F.slot_tuple_iterator_next
    (wpAny_call_entry F.slot_tuple_iterator_next hit.typeIs F.entry_tuple_iterator_next ?_ (F.args_tuple_iterator_next_1 _)))
  show wpAny _ _ (field (.ref it) 0 >>= _) _ _ s
  refine wpAny_bind (wpAny_field ho hd (x := .ref l) rfl ?_)
  show wpAny _ _ (if (Value.ref l == Value.none) = true then _ else _) _ _ s
  rw [if_neg (show ¬ ((Value.ref l == Value.none) = true) from Bool.false_ne_true)]
  show wpAny _ _ (field (.ref it) 1 >>= _) _ _ s
  refine wpAny_bind (wpAny_field ho hd (x := .int i 0) rfl ?_)
  show wpAny _ _ (seqItems? (.ref l) >>= _) _ _ s
  refine wpAny_bind (wpAny_seqItems hol hdl ?_)
  simp only [Int.toNat_natCast, hx]
  refine wpAny_bind (wpAny_setField ho hd (by simp) (wpAny_pure ⟨x, rfl, wpAny_pure (hQ _ ?_ (Heap.SameBut.update ..))⟩))
  exact ⟨_, Heap.get?_update_self _ ho (Obj.isFreed_of_fields (Obj.data_mapFields hd _)), (Obj.cls_mapFields ..).trans hc, by rw [Obj.data_mapFields hd]; simp [rawInt]⟩
theorem next_tup_end {it l : Addr} {i : Nat} {items : Array Value} {Q : Value → Shared → Prop} (hh : A.handled = none) (hit : s.heap.IsTupleIter it l i) (hl : s.heap.IsTuple l items) (hx : items[i]? = none)
    (hE : ∀ h' e, Heap.ExtBut it s.heap h' → (∃ o, h'.get? e = some o ∧ o.cls = .type "StopIteration") → E (.ref e) { s with heap := h' }) : wpAny (model prog w) A (Builtin.SmallTypes.nextOf (.ref it)) Q E s := by
  obtain ⟨o, ho, hc, hd⟩ := id hit
  obtain ⟨ol, hol, _, nl, hdl⟩ := hl
  unfold Builtin.SmallTypes.nextOf
  refine wpAny_bind (wpAny_callSpecial?_slot (name := Str.ofString "__next__") hit.typeIs F.slot_tuple_iterator_next
    (wpAny_call_entry F.slot_tuple_iterator_next hit.typeIs F.entry_tuple_iterator_next ?_ (F.args_tuple_iterator_next_1 _)))
  show wpAny _ _ (field (.ref it) 0 >>= _) _ _ s
  refine wpAny_bind (wpAny_field ho hd (x := .ref l) rfl ?_)
  show wpAny _ _ (if (Value.ref l == Value.none) = true then _ else _) _ _ s
  rw [if_neg (show ¬ ((Value.ref l == Value.none) = true) from Bool.false_ne_true)]
  show wpAny _ _ (field (.ref it) 1 >>= _) _ _ s
  refine wpAny_bind (wpAny_field ho hd (x := .int i 0) rfl ?_)
  show wpAny _ _ (seqItems? (.ref l) >>= _) _ _ s
  refine wpAny_bind (wpAny_seqItems hol hdl ?_)
  simp only [Int.toNat_natCast, hx]
  refine wpAny_bind (wpAny_rule (wpAny_bind (wpAny_setField ho hd (by simp) ?_)))
  show wpAny _ _ (newExc (.type "StopIteration") [] >>= _) _ _ _
  refine wpAny_bind ?_
  simp only [newExc, newTuple]
  refine wpAny_bind (wpAny_newObj_type ?_ (by size_fits))
  refine wpAny_bind (m := firstArgMember _ _) (wpAny_of_eq (a := Value.none) (by first | rfl | (simp only [firstArgMember]; rfl)) ?_)
  refine wpAny_newObj_type ?_ (by size_fits)
  simp only [raiseNew]
  refine wpAny_bind (wpAny_handled ?_)
  first | rw [show A.in1.handled = none from hh] | rw [hh]
  refine wpAny_bind (wpAny_pure (wpAny_throw ?_))
  exact hE _ _ (((Heap.SameBut.update ..).extBut.push _).push _) ⟨_, Heap.get?_push_size _ rfl, rfl⟩
end
theorem draws_tup {prog : Program} {w : World} {A : Around} (hh : A.handled = none) (it l : Addr) (hne : l ≠ it) (items : Array Value) :
    Draws prog w A it [it, l] items.size (fun i v => items[i]? = some v) (fun i h => h.IsTupleIter it l i ∧ h.IsTuple l items) where
  live := fun _ _ st => let ⟨o, ho, _⟩ := st.1; ⟨o, ho⟩
  frame := fun _ _ _ st hk => ⟨st.1.at fun o e => hk it (by simp) o e, st.2.at fun o e => hk l (by simp) o e⟩
  item := fun i s Q E hi st hQ => by
    refine next_tup_item st.1 st.2 (x := items[i]) (by simp [hi]) fun h' hit' hs' => ?_
    exact hQ _ h' s.toks (by simp [hi]) ⟨hit', st.2.extBut hs'.extBut hne⟩ hs'
  done := fun s Q E st hE => next_tup_end hh st.1 st.2 (by simp) hE
theorem enum_newT (l : Addr) (items : Array Value) (n : Nat) (dct : Option Addr) (sl : Array (Option Value)) :
    Meets (Builtin.«enumerate.__new__» ⟨[.type "enumerate", .ref l], []⟩) (fun _ R s => s.heap.get? l = some { cls := .type "tuple", dict := dct, data := .seq items n, slots := sl } ∧
      R (.ok (.ret (.ref (s.heap.push { cls := .type "tuple_iterator", data := .fields #[.ref l, .int 0 0] }).objs.size)))
        { s with heap := (s.heap.push { cls := .type "tuple_iterator", data := .fields #[.ref l, .int 0 0] }).push { cls := .type "enumerate", data := .fields #[.none, .bool false, .ref s.heap.objs.size, rawInt 0, .none, .none] } }) :=
  .of_wp fun prog w A R s h => by
    obtain ⟨hp, g, d, tk, os⟩ := s; obtain ⟨hl, h⟩ := h
    have hsub := sub_enumerate
    have hL : Heap.IsTuple (Shared.heap ⟨hp, g, d, tk, os⟩) l items := ⟨_, hl, rfl, n, rfl⟩
    wp_walk using AutoSeq1.wpAny_loadPart' hl
    refine wpAny_stack_any fun st => wpAny_pure ?_
    split
    · rename_i c _ _ _ _ _
      cases (c == Value.type "enumerate")
      · wp_walk using AutoSeq1.wpAny_loadPart' hl, wpAny_pyIter_tuple hL
        exact ⟨_, rfl, h⟩
      · wp_walk using AutoSeq1.wpAny_loadPart' hl, wpAny_pyIter_tuple hL
        exact ⟨_, rfl, h⟩
    · wp_walk using AutoSeq1.wpAny_loadPart' hl, wpAny_pyIter_tuple hL
      exact ⟨_, rfl, h⟩
section
variable {prog : Program} {w : World} {A : Around} {E : Value → Shared → Prop} {s : Shared}
theorem call_enumT {l : Addr} {items : Array Value} {Q : Value → Shared → Prop} (hL : s.heap.IsTuple l items)
    (h : ∀ h', IsEnum h' (s.heap.objs.size + 1) s.heap.objs.size 0 .none → h'.IsTupleIter s.heap.objs.size l 0 → h'.objs.size = s.heap.objs.size + 2 →
      (∀ b o, s.heap.get? b = some o → h'.get? b = some o) → Q (.ref (s.heap.objs.size + 1)) { s with heap := h' }) :
    wpAny (model prog w) A (call (.type "enumerate") [.ref l]) Q E s := by
  obtain ⟨⟨c, dct, dt, sl⟩, hl, hc, n, hd⟩ := hL
  replace hc : c = .type "tuple" := hc
  replace hd : dt = .seq items n := hd
  subst hc hd
  refine callType_new F.called_enumerate (by decide) (F.typeCall_enumerate_1 _) (F.newCall_enumerate_1 _) (fun obj => F.args_object_init_2 obj _) F.entry_enumerate_new (enum_newT l items n dct sl) ⟨hl, ?_⟩
  have hz : (s.heap.push { cls := .type "tuple_iterator", data := .fields #[.ref l, .int 0 0] }).objs.size = s.heap.objs.size + 1 := Heap.size_push ..
  show _ ∧ _
  rw [hz]
  have he : IsEnum ((s.heap.push { cls := .type "tuple_iterator", data := .fields #[.ref l, .int 0 0] }).push
      { cls := .type "enumerate", data := .fields #[.none, .bool false, .ref s.heap.objs.size, rawInt 0, .none, .none] }) (s.heap.objs.size + 1) s.heap.objs.size 0 .none := by
    have := Heap.get?_push_size (s.heap.push { cls := .type "tuple_iterator", data := .fields #[.ref l, .int 0 0] })
      (o := { cls := .type "enumerate", data := .fields #[.none, .bool false, .ref s.heap.objs.size, rawInt 0, .none, .none] }) rfl
    rw [hz] at this; exact this
  exact ⟨⟨_, he, rfl⟩, h _ he ⟨_, Heap.get?_push_of_some _ (Heap.get?_push_size _ rfl), rfl, rfl⟩ (by rw [Heap.size_push, hz]) fun b o x => Heap.get?_push_of_some _ (Heap.get?_push_of_some _ x)⟩
variable {env : Env} {h₀ : Heap} {body : List Stmt} {Q : Flow → Shared → Prop}
theorem enum_tupK {elts : List Expr} {k : Nat} {pos : Pos} {ax : Addr} {lo : Obj} {vs : List Value} {n : Nat} {m₀ : Str → Option Value} {news : List (Addr × Obj)}
    (hh : A.handled = none) (F : Fr h₀ env.locals s.heap m₀) (N : News h₀ env.locals s.heap news) (hg : h₀.get? ax = some lo) (hc : lo.cls = .type "tuple") (hd : lo.data = .seq vs.toArray n)
    (rest₀ : ∀ I : Addr, (∀ p ∈ news, p.1 < I) → ItemsRest prog w A E h₀ env (.Tuple elts k pos) body Q s [(I + 1, "enumerate"), (I, "tuple_iterator")] [] (enumItems 0 vs) m₀ news) :
    wpAny (model prog w) A (call (.type "enumerate") [.ref ax]) (fun xv s₁ => wpAny (model prog w) A (pyIter xv) (fun it s₂ => TurnsAt prog w A h₀ env (.Tuple elts k pos) body Q E it s₂) E s₁) E s := by
  have hax : s.heap.get? ax = some lo := F.keep _ _ hg
  have hl : s.heap.IsTuple ax vs.toArray := ⟨lo, hax, hc, n, hd⟩
  have hlt : ax < s.heap.objs.size := Heap.lt_size hax
  have hLs : env.locals < s.heap.objs.size := F.ns.lt
  refine call_enumT hl fun h' hE hI hsz hk => ?_
  refine wpAny_pyIter_enum hE ?_
  refine ktg_core (tk0 := s.toks) (keep := []) (KTurns.ofWalksU (WalksT.enumerateD (draws_tup (A := A.in1) hh s.heap.objs.size ax (Nat.ne_of_lt hlt) vs.toArray) (s.heap.objs.size + 1) (Nat.succ_ne_self _) (by
      intro h
      have h' : s.heap.objs.size + 1 = s.heap.objs.size ∨ s.heap.objs.size + 1 = ax := by simpa using h
      rcases h' with e | e
      · exact Nat.succ_ne_self _ e
      · exact ktu_ne 1 hlt e.symm) (by simp)).toU) (by simp [enumItems_length]) ?_ ?_ ?_ ?_ ?_ ?_ ?_ ?_ (F.keeps hk) (N.grown hk) trivial (rest₀ _ fun p hp => Heap.lt_size (N p hp).1)
  · rintro i v h ⟨T, vals, rfl, ⟨t, x, hx, rfl⟩, hT⟩
    refine ⟨_, enumItems_get vs 0 i (v := x) (by simpa using hx), T, t, rfl, ?_⟩
    show IsTup h T #[.int ((0 + i : Nat) : Int) t, x]
    rw [Nat.zero_add]
    exact hT
  · rintro i h ⟨⟨old, he⟩, ⟨oi, hoi, hic, _⟩, _⟩
    have he' : ∃ oe : Obj, h.get? (s.heap.objs.size + 1) = some oe ∧ oe.cls = .type "enumerate" := ⟨_, he, rfl⟩
    obtain ⟨oe, h1, h2⟩ := he'
    refine ⟨[(s.heap.objs.size + 1, oe), (s.heap.objs.size, oi)], ⟨⟨rfl, h2⟩, ⟨rfl, hic⟩, trivial⟩, fun p hp => ?_⟩
    rcases List.mem_cons.mp hp with rfl | hp
    · exact h1
    · rw [List.mem_singleton.mp hp]; exact hoi
  · intro b hb
    have hb' : b = s.heap.objs.size + 1 ∨ b = s.heap.objs.size := by simpa using hb
    rcases hb' with rfl | rfl
    · exact ⟨by simp, ktu_new F (Nat.le_add_right _ _)⟩
    · exact ⟨by simp, ktu_new F (Nat.le_refl _)⟩
  · intro b hb
    simpa using hb
  · intro b hb
    have hb' : b = s.heap.objs.size + 1 ∨ b = s.heap.objs.size ∨ b = ax := by simpa using hb
    rcases hb' with rfl | rfl | rfl
    · exact .inl (by simp)
    · exact .inl (by simp)
    · exact .inr (.inr ⟨lo, hg⟩)
  · intro hI'
    have hb' : env.locals = s.heap.objs.size + 1 ∨ env.locals = s.heap.objs.size ∨ env.locals = ax := by simpa using hI'
    rcases hb' with e | e | e
    · exact ktu_ne 1 hLs e
    · exact Nat.ne_of_lt hLs e
    · exact absurd (Heap.lt_size hg) (Nat.not_lt.mpr (e ▸ F.above))
  · intro p hp hI'
    have hb' : p.1 = s.heap.objs.size + 1 ∨ p.1 = s.heap.objs.size := by simpa using hI'
    have hlp := Heap.lt_size (N p hp).1
    rcases hb' with e | e
    · exact ktu_ne 1 hlp e
    · exact Nat.ne_of_lt hlp e
  · exact ⟨⟨.none, hE⟩, hI, hl.at fun o e => hk ax o e⟩
end
/-- a loop over items of any kind by what holds between its turns -/
theorem items_any {prog : Program} {w : World} {A : Around} {E : Value → Shared → Prop} {h₀ : Heap} {env : Env} {target : Expr} {body : List Stmt} {Q : Flow → Shared → Prop} {s : Shared} {ws : List (Addr × String)} {keep : List (Addr × Obj)}
    (J : List Itm → (Str → Option Value) → List (Addr × Obj) → Prop)
    (done : ∀ m news h tk, J [] m news → Fr h₀ env.locals h m → News h₀ env.locals h news → Q .next { s with heap := h, toks := tk })
    (turn : ∀ a r m news v h tk, J (a :: r) m news → a.Is v h → Fr h₀ env.locals h m → AllObj ws (fun its => News h₀ env.locals h (its ++ news) →
      wpAny (model prog w) A (assign target env v) (fun _ s₂ => wpAny (model prog w) A (execs body env) (UnrPostW h₀ env.locals { s with heap := h, toks := tk } its (fun m' n' => SubL keep n' ∧ J r m' n') Q) E s₂) E { s with heap := h, toks := tk })) :
    ∀ (xs : List Itm) (m : Str → Option Value) (news : List (Addr × Obj)), J xs m news → ItemsRest prog w A E h₀ env target body Q s ws keep xs m news
  | [], m, news, hJ => ItemsRest.zero fun h tk F N => done m news h tk hJ F N
  | a :: r, m, news, hJ => fun v h tk hv F => allObj_mono (fun _ hk N => wpAny_mono (hk N) (fun _ s₂ h₂ => wpAny_mono h₂ (fun f s₃ h₃ => by
      cases f with
      | ret v => exact h₃
      | brk => exact h₃
      | cont =>
        obtain ⟨h', tk', m', news', e, F', N', ne, sb, hj⟩ := h₃
        exact ⟨h', tk', m', news', e, F', N', ne, sb, items_any J done turn r m' news' hj⟩
      | next =>
        obtain ⟨h', tk', m', news', e, F', N', ne, sb, hj⟩ := h₃
        exact ⟨h', tk', m', news', e, F', N', ne, sb, items_any J done turn r m' news' hj⟩) fun _ _ x => x) fun _ _ x => x) (turn a r m news v h tk hJ hv F)
section
variable {prog : Program} {w : World} {A : Around} {E : Value → Shared → Prop} {s : Shared} {env : Env} {h₀ : Heap} {target : Expr} {body orelse : List Stmt} {Q : Flow → Shared → Prop}
/-- what a turn's break leads to, where there is an else -/
noncomputable def Brk (Q : Flow → Shared → Prop) (f : Flow) (s' : Shared) : Prop := match f with
  | .ret v => Q (.ret v) s'
  | _ => Q .next s'
/-- for .. else over a tuple of the top, by what holds between the turns -/
theorem else_tupK {iter : Expr} {pos : Pos} {ax : Addr} {lo : Obj} {vs : List Value} {n : Nat} {m₀ : Str → Option Value} {news₀ : List (Addr × Obj)}
    (hh : A.handled = none) (F : Fr h₀ env.locals s.heap m₀) (N : News h₀ env.locals s.heap news₀) (hg : h₀.get? ax = some lo) (hc : lo.cls = .type "tuple") (hd : lo.data = .seq vs.toArray n)
    (hev : ∀ Q' : Value → Shared → Prop, Q' (.ref ax) s → wpAny (model prog w) A (eval iter env) Q' E s)
    (J : List Value → (Str → Option Value) → List (Addr × Obj) → Prop) (start : J vs m₀ news₀)
    (done : ∀ m news h tk, J [] m news → Fr h₀ env.locals h m → News h₀ env.locals h news → wpAny (model prog w) A (execs orelse env) Q E { s with heap := h, toks := tk })
    (turn : ∀ v r m news h tk I oI, J (v :: r) m news → oI.cls = .type "tuple_iterator" → AllNe I news → Fr h₀ env.locals h m → News h₀ env.locals h ((I, oI) :: news) →
      wpAny (model prog w) A (assign target env v) (fun _ s₂ => wpAny (model prog w) A (execs body env) (UnrPostW h₀ env.locals { s with heap := h, toks := tk } [(I, oI)] (J r) (Brk Q)) E s₂) E { s with heap := h, toks := tk })
    (hs : ∀ x, foldedSetIterable iter env x = pure x := by intro _; rfl)
    (hE : PassesOwn (model prog w) A env E := by passes_own) :
    wpAny (model prog w) A (exec (.For target iter body orelse pos) env) Q E s := by
  have hax : s.heap.get? ax = some lo := F.keep _ _ hg
  have hl : s.heap.IsTuple ax vs.toArray := ⟨lo, hax, hc, n, hd⟩
  have hlt : ax < s.heap.objs.size := Heap.lt_size hax
  have hLs : env.locals < s.heap.objs.size := F.ns.lt
  refine wpAny_For (hev _ (wpAny_pyIter_tuple hl ?_)) hs
  have W := Walks.tuple (prog := prog) (w := w) hh s.heap.objs.size ax (Nat.ne_of_lt hlt) vs.toArray
  refine codeAny_forLoop_any
    (fun k s' => ∃ h' tk m' news' i, s' = { s with heap := h', toks := tk } ∧ (h'.IsTupleIter s.heap.objs.size ax i ∧ h'.IsTuple ax vs.toArray) ∧ Fr h₀ env.locals h' m' ∧ News h₀ env.locals h' news' ∧ (∀ p ∈ news', p.1 ≠ s.heap.objs.size) ∧ J (vs.drop i) m' news' ∧ i ≤ vs.length ∧ k = vs.length + 1 - i) ?_ (vs.length + 1)
    ⟨_, s.toks, m₀, news₀, 0, rfl, ⟨⟨_, Heap.get?_push_size _ rfl, rfl, rfl⟩, hl.push _⟩, F.push _, (fun p hp => ⟨Heap.get?_push_of_some _ (N p hp).1, (N p hp).2⟩), (fun p hp => Nat.ne_of_lt (Heap.lt_size (N p hp).1)), by rw [List.drop_zero]; exact start, Nat.zero_le _, rfl⟩
  rintro k s' ⟨h', tk, m', news', i, rfl, hst', F', N', hne', hJ, hi, rfl⟩
  have next : ∀ h₁ : Heap, (∀ b o, b ∉ [s.heap.objs.size] → h'.get? b = some o → h₁.get? b = some o) → Fr h₀ env.locals h₁ m' ∧ News h₀ env.locals h₁ news' := fun h₁ hk₁ =>
    ⟨⟨F'.ns.at' fun o e => hk₁ _ o (by simp; exact Nat.ne_of_lt hLs) e, fun b o e => hk₁ b o (by
      have : b < s.heap.objs.size := Nat.lt_trans (Nat.lt_of_lt_of_le (Heap.lt_size e) F.above) hLs
      simp; exact Nat.ne_of_lt this) (F'.keep b o e), F'.above⟩, fun p hp => ⟨hk₁ _ _ (by simp; exact hne' p hp) (N' p hp).1, (N' p hp).2⟩⟩
  have sz : vs.toArray.size = vs.length := by simp
  by_cases hlt' : i < vs.length
  · refine W.item i _ _ _ (by rw [sz]; exact hlt') hst' fun v h₁ tk₁ hP hst₁ hk₁ => ?_
    refine letGo_tupleiter hst₁.1 ?_
    obtain ⟨F₁, N₁⟩ := next h₁ hk₁
    obtain ⟨oI, hoI, hcI, hdI⟩ := id hst₁.1
    have hdrop : vs.drop i = v :: vs.drop (i + 1) := by
      rw [List.drop_eq_getElem_cons hlt']
      congr 1
      have hP' : vs.toArray[i]? = some v := hP
      simp only [List.getElem?_toArray] at hP'
      exact Option.some.inj ((List.getElem?_eq_getElem hlt').symm.trans hP')
    rw [hdrop] at hJ
    have NI : News h₀ env.locals h₁ ((s.heap.objs.size, oI) :: news') := fun p hp => by
      rcases List.mem_cons.mp hp with rfl | hp
      · exact ⟨hoI, Nat.ne_of_gt hLs, ktu_new F (Nat.le_refl _)⟩
      · exact N₁ p hp
    refine wpAny_mono (turn v (vs.drop (i + 1)) m' news' h₁ tk₁ s.heap.objs.size oI hJ hcI (allNe_of hne') F₁ NI) (fun _ s₂ h₂ => wpAny_passesOwn hE (wpAny_mono h₂ (fun f s₃ h₃ => ?_) fun _ _ x => x)) hE
    have fin : UnrEndW h₀ env.locals { s with heap := h₁, toks := tk₁ } [(s.heap.objs.size, oI)] (J (vs.drop (i + 1))) s₃ → ∃ m, m < vs.length + 1 - i ∧ ∃ h' tk m' news' j, s₃ = { s with heap := h', toks := tk } ∧ (h'.IsTupleIter s.heap.objs.size ax j ∧ h'.IsTuple ax vs.toArray) ∧ Fr h₀ env.locals h' m' ∧ News h₀ env.locals h' news' ∧ (∀ p ∈ news', p.1 ≠ s.heap.objs.size) ∧ J (vs.drop j) m' news' ∧ j ≤ vs.length ∧ m = vs.length + 1 - j := by
      rintro ⟨h₃', tk₃, m₂, news₂, rfl, F₃, N₃, hn₃, hJ₃⟩
      exact ⟨vs.length + 1 - (i + 1), by omega, h₃', tk₃, m₂, news₂, i + 1, rfl, ⟨⟨oI, (N₃ _ (.head _)).1, hcI, hdI⟩, ⟨lo, F₃.keep _ _ hg, hc, n, hd⟩⟩, F₃, fun p hp => N₃ p (.tail _ hp), fun p hp => hn₃ p hp _ (.head _), hJ₃, hlt', rfl⟩
    cases f with
    | ret v => exact h₃
    | brk => exact h₃
    | cont => exact fin h₃
    | next => exact fin h₃
  · have hin : i = vs.length := by omega
    subst hin
    rw [List.drop_length] at hJ
    refine W.done _ _ _ (by rw [sz]; exact hst') fun h₁ tk₁ hk₁ => ?_
    obtain ⟨F₁, N₁⟩ := next h₁ hk₁
    exact wpAny_passesOwn hE (done m' news' h₁ tk₁ hJ F₁ N₁)
end
noncomputable def AllOff : List (Addr × Obj) → List (Addr × Obj) → Prop
  | [], _ => True
  | q :: r, n => AllNe q.1 n ∧ AllOff r n
theorem allNe_at {d : Nat} : ∀ {l : List (Addr × Obj)}, AllNe d l → ∀ p ∈ l, p.1 ≠ d
  | [], _, _, h => nomatch h
  | _ :: _, x, p, h => by
    rcases List.mem_cons.mp h with rfl | h
    · exact x.1
    · exact allNe_at x.2 p h
theorem allOff_at : ∀ {its n : List (Addr × Obj)}, AllOff its n → ∀ p ∈ n, ∀ q ∈ its, p.1 ≠ q.1
  | [], _, _, _, _, _, h => nomatch h
  | _ :: _, _, x, p, hp, q, h => by
    rcases List.mem_cons.mp h with rfl | h
    · exact allNe_at x.1 p hp
    · exact allOff_at x.2 p hp q h
theorem unr_end {h₀ h' : Heap} {L : Addr} {s₁ : Shared} {its : List (Addr × Obj)} {rest : (Str → Option Value) → List (Addr × Obj) → Prop} {tk : Nat} {m' : Str → Option Value} {all : List (Addr × Obj)} (F : Fr h₀ L h' m') (N : News h₀ L h' all) (news' : List (Addr × Obj))
    (hs : ∀ p ∈ its ++ news', p ∈ all) (off : AllOff its news') (r : rest m' news') : UnrEndW h₀ L s₁ its rest { s₁ with heap := h', toks := tk } :=
  ⟨h', tk, m', news', rfl, F, fun p hp => N p (hs p hp), allOff_at off, r⟩
theorem map_four {m m₀ : Str → Option Value} {a b c d : Str} (h : ∀ y, y ≠ a → y ≠ b → y ≠ c → y ≠ d → m y = m₀ y) : m = fun y => if y = a then m a else if y = b then m b else if y = c then m c else if y = d then m d else m₀ y := by
  funext y
  by_cases ha : y = a
  · subst ha; simp
  · by_cases hb : y = b
    · subst hb; simp [ha]
    · by_cases hc : y = c
      · subst hc; simp [ha, hb]
      · by_cases hd : y = d
        · subst hd; simp [ha, hb, hc]
        · simp [ha, hb, hc, hd, h y ha hb hc hd]

-- 16_pick
-- an item of a written tuple at an index that is not written
section
variable {prog : Program} {w : World} {A : Around} {E : Value → Shared → Prop} {s : Shared} {h₀ : Heap} {L t : Addr} {news : List (Addr × Obj)} {l : List Value} {k : Int} {u : Tok} {value slice : Expr} {Q : Value → Shared → Prop}
theorem pick_at (f : Nat → Tok → Value) (n : Nat) (N : News h₀ L s.heap news) (hm : (t, tupO l) ∈ news) (hn : l.length = n) (hb : n ≤ 100) (h0 : 0 ≤ k) (h1 : k < (n : Int)) (hl : ∀ i : Nat, i < n → ∃ t, l[i]? = some (f i t))
    (hs : subscripted slice false (.ref t) (.int k u) = operate [.ref t, .int k u] (getItem (.ref t) (.int k u))) (h : ∀ (i : Nat) t', (i : Int) = k → Q (f i t') s) : wpAny (model prog w) A (subscriptTail value slice (.ref t) (.int k u)) Q E s := by
  obtain ⟨i, rfl⟩ := Int.eq_ofNat_of_zero_le h0
  obtain ⟨t', e⟩ := hl i (by omega)
  exact item_tupleT (l := l) ⟨_, (N _ hm).1, rfl, 0, rfl⟩ (by omega) (by omega) (StrLaws.seqIndex_nonneg h0 (by rw [hn]; exact h1)) (by rw [Int.toNat_natCast]; exact e) (h i t' rfl) hs
end

-- 17_range
/-- a loop over a written range by what holds between its turns -/
theorem range_inv {prog : Program} {w : World} {A : Around} {E : Value → Shared → Prop} {s : Shared} {env : Env} {h₀ : Heap} {x : Str} {body : List Stmt} {Q : Flow → Shared → Prop} {I : Addr} {a : Int} {n : Nat}
    (J : Nat → (Str → Option Value) → List (Addr × Obj) → Prop)
    (done : ∀ m news h tk, J n m news → Fr h₀ env.locals h m → News h₀ env.locals h news → Q .next { s with heap := h, toks := tk })
    (turn : ∀ i m news t h tk, i < n → J i m news → Fr h₀ env.locals h (fun y => if y = x then some (.int (a + (i : Int)) t) else m y) →
      News h₀ env.locals h ((I, itR (a + ((i + 1 : Nat) : Int)) ((n : Int) - ((i + 1 : Nat) : Int))) :: news) →
      wpAny (model prog w) A (execs body env) (UnrPost h₀ env.locals { s with heap := h, toks := tk } I (itR (a + ((i + 1 : Nat) : Int)) ((n : Int) - ((i + 1 : Nat) : Int))) (J (i + 1)) Q) E { s with heap := h, toks := tk }) :
    ∀ (k i : Nat) (m : Str → Option Value) (news : List (Addr × Obj)), i + k = n → J i m news → RangeRest prog w A E h₀ env x body Q s I a n k i m news
  | 0, i, m, news, e, hJ => RangeRest.zero fun h tk F N => done m news h tk (by rw [Nat.add_zero] at e; exact e ▸ hJ) F N
  | k + 1, i, m, news, e, hJ => RangeRest.succ fun t h tk F N => wpAny_mono (turn i m news t h tk (by omega) hJ F N) (fun f s₂ p => by
      have fin : UnrEnd h₀ env.locals { s with heap := h, toks := tk } I (itR (a + ((i + 1 : Nat) : Int)) ((n : Int) - ((i + 1 : Nat) : Int))) (J (i + 1)) s₂ →
          UnrEnd h₀ env.locals { s with heap := h, toks := tk } I (itR (a + ((i + 1 : Nat) : Int)) ((n : Int) - ((i + 1 : Nat) : Int))) (RangeRest prog w A E h₀ env x body Q s I a n k (i + 1)) s₂ := by
        rintro ⟨h', tk', m', n', e', F', N', o', hj⟩
        exact ⟨h', tk', m', n', e', F', N', o', range_inv J done turn k (i + 1) m' n' (by omega) hj⟩
      cases f with
      | ret v => exact p
      | brk => exact p
      | next => exact fin p
      | cont => exact fin p) fun _ _ e => e
theorem unrR_end {h₀ h' : Heap} {L I : Addr} {it : Obj} {s₁ : Shared} {rest : (Str → Option Value) → List (Addr × Obj) → Prop} {tk : Nat} {m' : Str → Option Value} {all : List (Addr × Obj)} (F : Fr h₀ L h' m') (N : News h₀ L h' all) (news' : List (Addr × Obj))
    (hs : ∀ p ∈ (I, it) :: news', p ∈ all) (off : AllNe I news') (r : rest m' news') : UnrEnd h₀ L s₁ I it rest { s₁ with heap := h', toks := tk } :=
  ⟨h', tk, m', news', rfl, F, fun p hp => N p (hs p hp), allNe_at off, r⟩
theorem q_int {Q : Value → Shared → Prop} {s : Shared} {a b : Int} {t : Tok} (e : a = b) (h : Q (.int a t) s) : Q (.int b t) s := e ▸ h
theorem q_str {Q : Value → Shared → Prop} {s : Shared} {a b : Str} {t : Tok} (e : a = b) (h : Q (.str a t) s) : Q (.str b t) s := e ▸ h

-- 18_cells
/-- the entry into a def some of whose names are cells, over no ledger: what stood stays -/
theorem cells_enter {prog : Program} {w : World} {A A₀ : Around} {s : Shared} {K : Frag} {L : Addr} {h₀ base : Heap} {m mg mb : Str → Option Value} {p : Program} {loose : List Str} {mean : ExcName → Option Value}
    {env : Env} {outer : List Env} {R : Result → Shared → Prop} {name qual : Str} {params : Arguments} {body : List Stmt} {scope : Scope} {dV kV doc pm cdv ct oc : Value} {an od : Option Addr} {osl : Array (Option Value)} {f : Addr} {args : Args} {binds : List (Str × Value)}
    (B : Below A₀ base outer h₀) (F : Fr h₀ L s.heap m) (X₀ : K.In h₀) (T : Top p loose mean mg mb h₀) (hA : A.frames = some (env :: outer)) (hf : env.frame = some L) (hke : env.scope.kind = .function)
    (ho : K.lookup f = some ⟨oc, od, .func (fnOf name qual params body scope dV kV doc pm an cdv ct), osl⟩) (hcd : codeIn K cdv qual = true) (hroom : A.depth < recursionLimit)
    (hbind : BindsTo s (fnOf name qual params body scope dV kV doc pm an cdv ct) args binds) (hkind : (binds.all fun y => scope.names.lookup y.1 == some .local || scope.names.lookup y.1 == some .cell) = true)
    (hnd : ((cellsFrom 0 scope.names []).map (·.1)).Nodup)
    (h : ∀ g L' h₁ tk cells, Fr h₀ L g m → Fr g L' h₁ (bindL (envOfC qual scope L' f cdv).kindOf binds fun _ => none) → News g L' h₁ cells →
      CellsAre (bindC (envOfC qual scope L' f cdv).kindOf binds fun _ => none) (cellsFrom (L' + 1) scope.names []) cells → Below A base (env :: outer) g → K.In g → Top p loose mean mg mb g → GSub s.heap g (([] : List (Addr × Obj)).map (·.1)) →
      wpAny (model prog w) (A.deeper (envOfC qual scope L' f cdv)) (execs body (envOfC qual scope L' f cdv))
        (fun fl s' => LeaveK h₀ L m g R (match fl with | .ret v => v | _ => .none) s')
        (fun e s' => wpAny (model prog w) (A.deeper (envOfC qual scope L' f cdv)) (PySem.leaving (envOfC qual scope L' f cdv) e) (fun _ s'' => R (.error e) s'') (fun e' s'' => R (.error e') s'') s')
        { s with heap := h₁, toks := tk })
    (hco : scope.isCoroutine = false) (hgen : scope.isGenerator = false) (hk : scope.kind = .function) : codeAny (model prog w) A (.call (.ref f) args) R s := by
  have N₀ : News h₀ L s.heap [] := News.nil
  obtain ⟨FG, BG, st, lv⟩ := groundX (R := R) B F N₀ hA hf hke
  refine codeAny_call_function hroom ((X₀.keeps F.keep) _ _ ho) rfl hco hgen rfl (codeRec_of (X₀.keeps F.keep) hcd) (hbind _ _ _ _ ?_)
  refine wpAny_newFunctionEnv_cells hk (kindsX hkind _) fun env' he s' x => ?_
  subst he
  refine ⟨(T.nolimit.keeps F.keep).keeps x.toInCall.keep, codeAny_func ?_⟩
  obtain ⟨h₁, tk, rfl, _⟩ := x.done
  have hk₁ := x.toInCall.keep
  obtain ⟨cells, NC, Y⟩ := Cl.news (h₀ := s.heap) (Nat.le_refl _) fun n c hm => ⟨x.cell n c (lookup_of_mem_nodup (cellsFrom_names scope.names 0 (s.heap.objs.size + 1) [] [] rfl ▸ hnd) hm), x.above n c hm⟩
  refine wpAny_mono (h _ s.heap.objs.size h₁ tk cells FG ⟨x.toInCall.ns, fun b o e => hk₁ b o (of_hideAll _ e), Nat.le_of_eq (hideAll_size _ _)⟩ (fun p hp => ?_) Y BG (X₀.keeps st) (T.keeps st)
    (fun b o e _ => hideAll_get _ e (fun q => nomatch q))) (fun fl s' hl => lv _ _ hl) fun _ _ y => y
  refine ⟨(NC p hp).1, (NC p hp).2.1, ?_⟩
  cases q : (hideAll s.heap (([] : List (Addr × Obj)).map (·.1))).get? p.1 with
  | none => rfl
  | some o => have := of_hideAll _ q; rw [(NC p hp).2.2] at this; cases this

-- 19_comp
/-- a comprehension with a test, by what holds between its turns -/
theorem compT_inv {prog : Program} {w : World} {A : Around} {h₀ : Heap} {L : Addr} {m : Str → Option Value} {env : Env} {ct elt : Expr} {x : Str} {scope : Scope} {cl : List (Str × Addr)} {s : Shared} {S : List (Addr × Obj) → Prop} {P : Nat → Value → Prop} {Fin : List Value → List (Addr × Obj) → Prop} {n : Nat}
    (J : Nat → List Value → List (Addr × Obj) → Prop)
    (turn : ∀ i v I oI C oC D m₂ ys news h tk (E' : Value → Shared → Prop), i < n → J i ys news → P i v → LCg.NsObj oC m₂ → m₂ x = some v → Fr h₀ L h m → News h₀ L h ((I, oI) :: (C, oC) :: (D, LCg.lst ys) :: news) → LCg.Off3 I C D news → ((@Ne Nat I C) ∧ (@Ne Nat I D) ∧ (@Ne Nat C D)) →
      wpAny (model prog w) A (isTrue ct (compEnvC scope cl C env) (eval ct (compEnvC scope cl C env))) (fun ok s' => if ok = true then
        wpAny (model prog w) A (eval elt (compEnvC scope cl C env)) (LCg.CompEnd h₀ L m { s with heap := h, toks := tk } I oI C oC D (LCg.lst ys) S (fun y news' => J (i + 1) (ys ++ [y]) news')) E' s'
        else LCg.CompEnd h₀ L m { s with heap := h, toks := tk } I oI C oC D (LCg.lst ys) S (fun _ news' => J (i + 1) ys news') Value.none s') E' { s with heap := h, toks := tk })
    (fin : ∀ ys news, J n ys news → Fin ys news) :
    ∀ (k i : Nat) (ys : List Value) (news : List (Addr × Obj)), i + k = n → J i ys news → LCt.CompRestT prog w A h₀ L m env ct elt x scope cl s S P Fin k i ys news
  | 0, i, ys, news, e, hJ => LCt.CompRestT.zero (fin ys news (by rw [Nat.add_zero] at e; exact e ▸ hJ))
  | k + 1, i, ys, news, e, hJ => LCt.CompRestT.succ fun v I oI C oC D m₂ h tk E' hv hC hx F N off ne =>
    wpAny_mono (turn i v I oI C oC D m₂ ys news h tk E' (by omega) hJ hv hC hx F N off ne) (fun ok s' q => by
      cases ok with
      | true =>
        rw [if_pos rfl] at q ⊢
        exact wpAny_mono q (fun y s₂ q => by
          obtain ⟨h', tk', n', e', F', N', o', hS, hj⟩ := q
          exact ⟨h', tk', n', e', F', N', o', hS, compT_inv J turn fin k (i + 1) _ n' (by omega) hj⟩) fun _ _ e => e
      | false =>
        rw [if_neg Bool.false_ne_true] at q ⊢
        obtain ⟨h', tk', n', e', F', N', o', hS, hj⟩ := q
        exact ⟨h', tk', n', e', F', N', o', hS, compT_inv J turn fin k (i + 1) _ n' (by omega) hj⟩) fun _ _ e => e
/-- the same without a test -/
theorem compU_inv {prog : Program} {w : World} {A : Around} {h₀ : Heap} {L : Addr} {m : Str → Option Value} {env : Env} {elt : Expr} {x : Str} {scope : Scope} {cl : List (Str × Addr)} {s : Shared} {S : List (Addr × Obj) → Prop} {P : Nat → Value → Prop} {Fin : List Value → List (Addr × Obj) → Prop} {n : Nat}
    (J : Nat → List Value → List (Addr × Obj) → Prop)
    (turn : ∀ i v I oI C oC D m₂ ys news h tk (E' : Value → Shared → Prop), i < n → J i ys news → P i v → LCg.NsObj oC m₂ → m₂ x = some v → Fr h₀ L h m → News h₀ L h ((I, oI) :: (C, oC) :: (D, LCg.lst ys) :: news) → LCg.Off3 I C D news → ((@Ne Nat I C) ∧ (@Ne Nat I D) ∧ (@Ne Nat C D)) →
      wpAny (model prog w) A (eval elt (compEnvC scope cl C env)) (LCg.CompEnd h₀ L m { s with heap := h, toks := tk } I oI C oC D (LCg.lst ys) S (fun y news' => J (i + 1) (ys ++ [y]) news')) E' { s with heap := h, toks := tk })
    (fin : ∀ ys news, J n ys news → Fin ys news) :
    ∀ (k i : Nat) (ys : List Value) (news : List (Addr × Obj)), i + k = n → J i ys news → LCg.CompRest prog w A h₀ L m env elt x scope cl s S P Fin k i ys news
  | 0, i, ys, news, e, hJ => LCg.CompRest.zero (fin ys news (by rw [Nat.add_zero] at e; exact e ▸ hJ))
  | k + 1, i, ys, news, e, hJ => LCg.CompRest.succ fun v I oI C oC D m₂ h tk E' hv hC hx F N off ne =>
    wpAny_mono (turn i v I oI C oC D m₂ ys news h tk E' (by omega) hJ hv hC hx F N off ne) (fun y s₂ q => by
      obtain ⟨h', tk', n', e', F', N', o', hS, hj⟩ := q
      exact ⟨h', tk', n', e', F', N', o', hS, compU_inv J turn fin k (i + 1) _ n' (by omega) hj⟩) fun _ _ e => e
theorem comp_end {h₀ : Heap} {L I C D : Addr} {m : Str → Option Value} {s₁ : Shared} {oI oC oD : Obj} {S : List (Addr × Obj) → Prop} {rest : Value → List (Addr × Obj) → Prop} {y : Value} {h' : Heap} {tk : Nat} {all : List (Addr × Obj)}
    (F : Fr h₀ L h' m) (N : News h₀ L h' all) (news' : List (Addr × Obj)) (sub : ∀ p ∈ (I, oI) :: (C, oC) :: (D, oD) :: news', p ∈ all) (off : LCg.Off3 I C D news') (hS : S news') (r : rest y news') :
    LCg.CompEnd h₀ L m s₁ I oI C oC D oD S rest y { s₁ with heap := h', toks := tk } := ⟨h', tk, news', rfl, F, fun p hp => N p (sub p hp), off, hS, r⟩
/-- two ways to one int -/
noncomputable def JoinI (h₀ : Heap) (L : Addr) (m : Str → Option Value) (news : List (Addr × Obj)) (s : Shared) (k : Int) (v : Value) (s' : Shared) : Prop :=
  ∃ h tk t, s' = { s with heap := h, toks := tk } ∧ Fr h₀ L h m ∧ News h₀ L h news ∧ v = .int k t
theorem joinI_end {h₀ : Heap} {L : Addr} {m : Str → Option Value} {news : List (Addr × Obj)} {s : Shared} {k k' : Int} {t : Tok} {h : Heap} {tk : Nat} (F : Fr h₀ L h m) (N : News h₀ L h news) (e : k' = k) : JoinI h₀ L m news s k (.int k' t) { s with heap := h, toks := tk } :=
  ⟨h, tk, t, rfl, F, N, e ▸ rfl⟩
theorem join_int {M : Model} {A : Around} {h₀ : Heap} {L : Addr} {m : Str → Option Value} {news : List (Addr × Obj)} {s : Shared} {T : Sem Value} {Q E : Value → Shared → Prop} (k : Int) (_F : Fr h₀ L s.heap m) (_N : News h₀ L s.heap news)
    (hw : wpAny M A T (JoinI h₀ L m news s k) E s) (h : ∀ h' tk t, Fr h₀ L h' m → News h₀ L h' news → Q (.int k t) { s with heap := h', toks := tk }) : wpAny M A T Q E s :=
  wpAny_mono hw (fun v s' q => by obtain ⟨h', tk, t, rfl, F, N, rfl⟩ := q; exact h h' tk t F N) fun _ _ e => e

-- 21_stat
noncomputable def kindIs (x k : Int) : Bool := Builtin.bitAnd x 61440 == k
section
variable (w : World) (mean : ExcName → Option Value) (mg mb : Str → Option Value)
theorem imode_c (x : Int) (t : Tok) : Pure 2 w mean mg mb 150 [.int x t] (fun t' => .int (Builtin.bitAnd x 4095) t') := by
  dsimp only [Pure]; k_fill; intros; rename_i hret
  refine wpAny_call ?_
  k_dflt (((refine' code_defG ?k1 ?k2 ?k3 ?k4 ?k5 ?kA ?kF ?kK ?k6 ?k7 ?k8 ?k9 ?kB ?_ ?c2 ?c3 ?c4 ?c5; (case kA => exact rfl); (case kF => exact rfl); (case kK => assumption); (case k1 => k_asm); (case k2 => k_asm); (case k3 => k_asm); (case k4 => exact News.nil); (case k5 => k_asm); (case k6 => k_is); (case k7 => k_is); (case k8 => k_room); (case k9 => exact BindsTo.of_eq rfl); (case c5 => decide); (case kB => exact locs rfl); (case c2 => exact rfl); (case c3 => exact rfl); (case c4 => exact rfl); k_whole; intro g' L' h' FG' F' N' B' X' T' GS'; (try dsimp only); (try k_lift B'); (try k_fold))))
  k_steps
  all_goals exact hret _ _ _ (by k_asm) (gs_nil (by assumption) (by assumption))
theorem ifmt_c (x : Int) (t : Tok) : Pure 2 w mean mg mb 157 [.int x t] (fun t' => .int (Builtin.bitAnd x 61440) t') := by
  dsimp only [Pure]; k_fill; intros; rename_i hret
  refine wpAny_call ?_
  k_dflt (((refine' code_defG ?k1 ?k2 ?k3 ?k4 ?k5 ?kA ?kF ?kK ?k6 ?k7 ?k8 ?k9 ?kB ?_ ?c2 ?c3 ?c4 ?c5; (case kA => exact rfl); (case kF => exact rfl); (case kK => assumption); (case k1 => k_asm); (case k2 => k_asm); (case k3 => k_asm); (case k4 => exact News.nil); (case k5 => k_asm); (case k6 => k_is); (case k7 => k_is); (case k8 => k_room); (case k9 => exact BindsTo.of_eq rfl); (case c5 => decide); (case kB => exact locs rfl); (case c2 => exact rfl); (case c3 => exact rfl); (case c4 => exact rfl); k_whole; intro g' L' h' FG' F' N' B' X' T' GS'; (try dsimp only); (try k_lift B'); (try k_fold))))
  k_steps
  all_goals exact hret _ _ _ (by k_asm) (gs_nil (by assumption) (by assumption))
local macro_rules | `(tactic| walk_at "call ref") => `(tactic| refine halt ?_)
theorem isdir_c (x : Int) (t : Tok) : Pure 4 w mean mg mb 164 [.int x t] (fun _ => .bool (kindIs x 16384)) := by
  dsimp only [Pure]; k_fill; intros; rename_i hret
  refine wpAny_call ?_
  k_dflt (((refine' code_defG ?k1 ?k2 ?k3 ?k4 ?k5 ?kA ?kF ?kK ?k6 ?k7 ?k8 ?k9 ?kB ?_ ?c2 ?c3 ?c4 ?c5; (case kA => exact rfl); (case kF => exact rfl); (case kK => assumption); (case k1 => k_asm); (case k2 => k_asm); (case k3 => k_asm); (case k4 => exact News.nil); (case k5 => k_asm); (case k6 => k_is); (case k7 => k_is); (case k8 => k_room); (case k9 => exact BindsTo.of_eq rfl); (case c5 => decide); (case kB => exact locs rfl); (case c2 => exact rfl); (case c3 => exact rfl); (case c4 => exact rfl); k_whole; intro g' L' h' FG' F' N' B' X' T' GS'; (try dsimp only); (try k_lift B'); (try k_fold))))
  (k_steps; repeat (any_goals (unfold Halt; (first | ((with_reducible show wpAny _ _ (call (Value.ref 157) _) _ _ _); k_dflt (refine' Pure.use (ifmt_c _ _ _ _ _ _) ?k1 ?k2 ?k3 ?k4 ?k5 ?kK ?kd ?ku ?_; (((case k1 => k_asm); (case k2 => k_asm); (case k3 => k_asm); (case k4 => k_asm); (case k5 => k_asm); (case kK => first | exact rfl | assumption); (case kd => ktr_room); (case ku => ktr_units); k_whole; intro t9 h9 tk9 F9 N9; (try dsimp only); (try k_fold)))))) <;> ((try dsimp only); k_steps))))
  all_goals exact hret 0 _ _ (by k_asm) (gs_nil (by assumption) (by assumption))
theorem ischr_c (x : Int) (t : Tok) : Pure 4 w mean mg mb 171 [.int x t] (fun _ => .bool (kindIs x 8192)) := by
  dsimp only [Pure]; k_fill; intros; rename_i hret
  refine wpAny_call ?_
  k_dflt (((refine' code_defG ?k1 ?k2 ?k3 ?k4 ?k5 ?kA ?kF ?kK ?k6 ?k7 ?k8 ?k9 ?kB ?_ ?c2 ?c3 ?c4 ?c5; (case kA => exact rfl); (case kF => exact rfl); (case kK => assumption); (case k1 => k_asm); (case k2 => k_asm); (case k3 => k_asm); (case k4 => exact News.nil); (case k5 => k_asm); (case k6 => k_is); (case k7 => k_is); (case k8 => k_room); (case k9 => exact BindsTo.of_eq rfl); (case c5 => decide); (case kB => exact locs rfl); (case c2 => exact rfl); (case c3 => exact rfl); (case c4 => exact rfl); k_whole; intro g' L' h' FG' F' N' B' X' T' GS'; (try dsimp only); (try k_lift B'); (try k_fold))))
  (k_steps; repeat (any_goals (unfold Halt; (first | ((with_reducible show wpAny _ _ (call (Value.ref 157) _) _ _ _); k_dflt (refine' Pure.use (ifmt_c _ _ _ _ _ _) ?k1 ?k2 ?k3 ?k4 ?k5 ?kK ?kd ?ku ?_; (((case k1 => k_asm); (case k2 => k_asm); (case k3 => k_asm); (case k4 => k_asm); (case k5 => k_asm); (case kK => first | exact rfl | assumption); (case kd => ktr_room); (case ku => ktr_units); k_whole; intro t9 h9 tk9 F9 N9; (try dsimp only); (try k_fold)))))) <;> ((try dsimp only); k_steps))))
  all_goals exact hret 0 _ _ (by k_asm) (gs_nil (by assumption) (by assumption))
theorem isblk_c (x : Int) (t : Tok) : Pure 4 w mean mg mb 178 [.int x t] (fun _ => .bool (kindIs x 24576)) := by
  dsimp only [Pure]; k_fill; intros; rename_i hret
  refine wpAny_call ?_
  k_dflt (((refine' code_defG ?k1 ?k2 ?k3 ?k4 ?k5 ?kA ?kF ?kK ?k6 ?k7 ?k8 ?k9 ?kB ?_ ?c2 ?c3 ?c4 ?c5; (case kA => exact rfl); (case kF => exact rfl); (case kK => assumption); (case k1 => k_asm); (case k2 => k_asm); (case k3 => k_asm); (case k4 => exact News.nil); (case k5 => k_asm); (case k6 => k_is); (case k7 => k_is); (case k8 => k_room); (case k9 => exact BindsTo.of_eq rfl); (case c5 => decide); (case kB => exact locs rfl); (case c2 => exact rfl); (case c3 => exact rfl); (case c4 => exact rfl); k_whole; intro g' L' h' FG' F' N' B' X' T' GS'; (try dsimp only); (try k_lift B'); (try k_fold))))
  (k_steps; repeat (any_goals (unfold Halt; (first | ((with_reducible show wpAny _ _ (call (Value.ref 157) _) _ _ _); k_dflt (refine' Pure.use (ifmt_c _ _ _ _ _ _) ?k1 ?k2 ?k3 ?k4 ?k5 ?kK ?kd ?ku ?_; (((case k1 => k_asm); (case k2 => k_asm); (case k3 => k_asm); (case k4 => k_asm); (case k5 => k_asm); (case kK => first | exact rfl | assumption); (case kd => ktr_room); (case ku => ktr_units); k_whole; intro t9 h9 tk9 F9 N9; (try dsimp only); (try k_fold)))))) <;> ((try dsimp only); k_steps))))
  all_goals exact hret 0 _ _ (by k_asm) (gs_nil (by assumption) (by assumption))
theorem isreg_c (x : Int) (t : Tok) : Pure 4 w mean mg mb 185 [.int x t] (fun _ => .bool (kindIs x 32768)) := by
  dsimp only [Pure]; k_fill; intros; rename_i hret
  refine wpAny_call ?_
  k_dflt (((refine' code_defG ?k1 ?k2 ?k3 ?k4 ?k5 ?kA ?kF ?kK ?k6 ?k7 ?k8 ?k9 ?kB ?_ ?c2 ?c3 ?c4 ?c5; (case kA => exact rfl); (case kF => exact rfl); (case kK => assumption); (case k1 => k_asm); (case k2 => k_asm); (case k3 => k_asm); (case k4 => exact News.nil); (case k5 => k_asm); (case k6 => k_is); (case k7 => k_is); (case k8 => k_room); (case k9 => exact BindsTo.of_eq rfl); (case c5 => decide); (case kB => exact locs rfl); (case c2 => exact rfl); (case c3 => exact rfl); (case c4 => exact rfl); k_whole; intro g' L' h' FG' F' N' B' X' T' GS'; (try dsimp only); (try k_lift B'); (try k_fold))))
  (k_steps; repeat (any_goals (unfold Halt; (first | ((with_reducible show wpAny _ _ (call (Value.ref 157) _) _ _ _); k_dflt (refine' Pure.use (ifmt_c _ _ _ _ _ _) ?k1 ?k2 ?k3 ?k4 ?k5 ?kK ?kd ?ku ?_; (((case k1 => k_asm); (case k2 => k_asm); (case k3 => k_asm); (case k4 => k_asm); (case k5 => k_asm); (case kK => first | exact rfl | assumption); (case kd => ktr_room); (case ku => ktr_units); k_whole; intro t9 h9 tk9 F9 N9; (try dsimp only); (try k_fold)))))) <;> ((try dsimp only); k_steps))))
  all_goals exact hret 0 _ _ (by k_asm) (gs_nil (by assumption) (by assumption))
theorem isfifo_c (x : Int) (t : Tok) : Pure 4 w mean mg mb 192 [.int x t] (fun _ => .bool (kindIs x 4096)) := by
  dsimp only [Pure]; k_fill; intros; rename_i hret
  refine wpAny_call ?_
  k_dflt (((refine' code_defG ?k1 ?k2 ?k3 ?k4 ?k5 ?kA ?kF ?kK ?k6 ?k7 ?k8 ?k9 ?kB ?_ ?c2 ?c3 ?c4 ?c5; (case kA => exact rfl); (case kF => exact rfl); (case kK => assumption); (case k1 => k_asm); (case k2 => k_asm); (case k3 => k_asm); (case k4 => exact News.nil); (case k5 => k_asm); (case k6 => k_is); (case k7 => k_is); (case k8 => k_room); (case k9 => exact BindsTo.of_eq rfl); (case c5 => decide); (case kB => exact locs rfl); (case c2 => exact rfl); (case c3 => exact rfl); (case c4 => exact rfl); k_whole; intro g' L' h' FG' F' N' B' X' T' GS'; (try dsimp only); (try k_lift B'); (try k_fold))))
  (k_steps; repeat (any_goals (unfold Halt; (first | ((with_reducible show wpAny _ _ (call (Value.ref 157) _) _ _ _); k_dflt (refine' Pure.use (ifmt_c _ _ _ _ _ _) ?k1 ?k2 ?k3 ?k4 ?k5 ?kK ?kd ?ku ?_; (((case k1 => k_asm); (case k2 => k_asm); (case k3 => k_asm); (case k4 => k_asm); (case k5 => k_asm); (case kK => first | exact rfl | assumption); (case kd => ktr_room); (case ku => ktr_units); k_whole; intro t9 h9 tk9 F9 N9; (try dsimp only); (try k_fold)))))) <;> ((try dsimp only); k_steps))))
  all_goals exact hret 0 _ _ (by k_asm) (gs_nil (by assumption) (by assumption))
theorem islnk_c (x : Int) (t : Tok) : Pure 4 w mean mg mb 199 [.int x t] (fun _ => .bool (kindIs x 40960)) := by
  dsimp only [Pure]; k_fill; intros; rename_i hret
  refine wpAny_call ?_
  k_dflt (((refine' code_defG ?k1 ?k2 ?k3 ?k4 ?k5 ?kA ?kF ?kK ?k6 ?k7 ?k8 ?k9 ?kB ?_ ?c2 ?c3 ?c4 ?c5; (case kA => exact rfl); (case kF => exact rfl); (case kK => assumption); (case k1 => k_asm); (case k2 => k_asm); (case k3 => k_asm); (case k4 => exact News.nil); (case k5 => k_asm); (case k6 => k_is); (case k7 => k_is); (case k8 => k_room); (case k9 => exact BindsTo.of_eq rfl); (case c5 => decide); (case kB => exact locs rfl); (case c2 => exact rfl); (case c3 => exact rfl); (case c4 => exact rfl); k_whole; intro g' L' h' FG' F' N' B' X' T' GS'; (try dsimp only); (try k_lift B'); (try k_fold))))
  (k_steps; repeat (any_goals (unfold Halt; (first | ((with_reducible show wpAny _ _ (call (Value.ref 157) _) _ _ _); k_dflt (refine' Pure.use (ifmt_c _ _ _ _ _ _) ?k1 ?k2 ?k3 ?k4 ?k5 ?kK ?kd ?ku ?_; (((case k1 => k_asm); (case k2 => k_asm); (case k3 => k_asm); (case k4 => k_asm); (case k5 => k_asm); (case kK => first | exact rfl | assumption); (case kd => ktr_room); (case ku => ktr_units); k_whole; intro t9 h9 tk9 F9 N9; (try dsimp only); (try k_fold)))))) <;> ((try dsimp only); k_steps))))
  all_goals exact hret 0 _ _ (by k_asm) (gs_nil (by assumption) (by assumption))
theorem issock_c (x : Int) (t : Tok) : Pure 4 w mean mg mb 206 [.int x t] (fun _ => .bool (kindIs x 49152)) := by
  dsimp only [Pure]; k_fill; intros; rename_i hret
  refine wpAny_call ?_
  k_dflt (((refine' code_defG ?k1 ?k2 ?k3 ?k4 ?k5 ?kA ?kF ?kK ?k6 ?k7 ?k8 ?k9 ?kB ?_ ?c2 ?c3 ?c4 ?c5; (case kA => exact rfl); (case kF => exact rfl); (case kK => assumption); (case k1 => k_asm); (case k2 => k_asm); (case k3 => k_asm); (case k4 => exact News.nil); (case k5 => k_asm); (case k6 => k_is); (case k7 => k_is); (case k8 => k_room); (case k9 => exact BindsTo.of_eq rfl); (case c5 => decide); (case kB => exact locs rfl); (case c2 => exact rfl); (case c3 => exact rfl); (case c4 => exact rfl); k_whole; intro g' L' h' FG' F' N' B' X' T' GS'; (try dsimp only); (try k_lift B'); (try k_fold))))
  (k_steps; repeat (any_goals (unfold Halt; (first | ((with_reducible show wpAny _ _ (call (Value.ref 157) _) _ _ _); k_dflt (refine' Pure.use (ifmt_c _ _ _ _ _ _) ?k1 ?k2 ?k3 ?k4 ?k5 ?kK ?kd ?ku ?_; (((case k1 => k_asm); (case k2 => k_asm); (case k3 => k_asm); (case k4 => k_asm); (case k5 => k_asm); (case kK => first | exact rfl | assumption); (case kd => ktr_room); (case ku => ktr_units); k_whole; intro t9 h9 tk9 F9 N9; (try dsimp only); (try k_fold)))))) <;> ((try dsimp only); k_steps))))
  all_goals exact hret 0 _ _ (by k_asm) (gs_nil (by assumption) (by assumption))
theorem isdoor_c (x : Int) (t : Tok) : Pure 4 w mean mg mb 213 [.int x t] (fun _ => .bool false) := by
  dsimp only [Pure]; k_fill; intros; rename_i hret
  refine wpAny_call ?_
  k_dflt (((refine' code_defG ?k1 ?k2 ?k3 ?k4 ?k5 ?kA ?kF ?kK ?k6 ?k7 ?k8 ?k9 ?kB ?_ ?c2 ?c3 ?c4 ?c5; (case kA => exact rfl); (case kF => exact rfl); (case kK => assumption); (case k1 => k_asm); (case k2 => k_asm); (case k3 => k_asm); (case k4 => exact News.nil); (case k5 => k_asm); (case k6 => k_is); (case k7 => k_is); (case k8 => k_room); (case k9 => exact BindsTo.of_eq rfl); (case c5 => decide); (case kB => exact locs rfl); (case c2 => exact rfl); (case c3 => exact rfl); (case c4 => exact rfl); k_whole; intro g' L' h' FG' F' N' B' X' T' GS'; (try dsimp only); (try k_lift B'); (try k_fold))))
  (k_steps; repeat (any_goals (unfold Halt; (first | ((with_reducible show wpAny _ _ (call (Value.ref 157) _) _ _ _); k_dflt (refine' Pure.use (ifmt_c _ _ _ _ _ _) ?k1 ?k2 ?k3 ?k4 ?k5 ?kK ?kd ?ku ?_; (((case k1 => k_asm); (case k2 => k_asm); (case k3 => k_asm); (case k4 => k_asm); (case k5 => k_asm); (case kK => first | exact rfl | assumption); (case kd => ktr_room); (case ku => ktr_units); k_whole; intro t9 h9 tk9 F9 N9; (try dsimp only); (try k_fold)))))) <;> ((try dsimp only); k_steps))))
  all_goals exact hret 0 _ _ (by k_asm) (gs_nil (by assumption) (by assumption))
theorem isport_c (x : Int) (t : Tok) : Pure 4 w mean mg mb 220 [.int x t] (fun _ => .bool false) := by
  dsimp only [Pure]; k_fill; intros; rename_i hret
  refine wpAny_call ?_
  k_dflt (((refine' code_defG ?k1 ?k2 ?k3 ?k4 ?k5 ?kA ?kF ?kK ?k6 ?k7 ?k8 ?k9 ?kB ?_ ?c2 ?c3 ?c4 ?c5; (case kA => exact rfl); (case kF => exact rfl); (case kK => assumption); (case k1 => k_asm); (case k2 => k_asm); (case k3 => k_asm); (case k4 => exact News.nil); (case k5 => k_asm); (case k6 => k_is); (case k7 => k_is); (case k8 => k_room); (case k9 => exact BindsTo.of_eq rfl); (case c5 => decide); (case kB => exact locs rfl); (case c2 => exact rfl); (case c3 => exact rfl); (case c4 => exact rfl); k_whole; intro g' L' h' FG' F' N' B' X' T' GS'; (try dsimp only); (try k_lift B'); (try k_fold))))
  (k_steps; repeat (any_goals (unfold Halt; (first | ((with_reducible show wpAny _ _ (call (Value.ref 157) _) _ _ _); k_dflt (refine' Pure.use (ifmt_c _ _ _ _ _ _) ?k1 ?k2 ?k3 ?k4 ?k5 ?kK ?kd ?ku ?_; (((case k1 => k_asm); (case k2 => k_asm); (case k3 => k_asm); (case k4 => k_asm); (case k5 => k_asm); (case kK => first | exact rfl | assumption); (case kd => ktr_room); (case ku => ktr_units); k_whole; intro t9 h9 tk9 F9 N9; (try dsimp only); (try k_fold)))))) <;> ((try dsimp only); k_steps))))
  all_goals exact hret 0 _ _ (by k_asm) (gs_nil (by assumption) (by assumption))
theorem iswht_c (x : Int) (t : Tok) : Pure 4 w mean mg mb 227 [.int x t] (fun _ => .bool false) := by
  dsimp only [Pure]; k_fill; intros; rename_i hret
  refine wpAny_call ?_
  k_dflt (((refine' code_defG ?k1 ?k2 ?k3 ?k4 ?k5 ?kA ?kF ?kK ?k6 ?k7 ?k8 ?k9 ?kB ?_ ?c2 ?c3 ?c4 ?c5; (case kA => exact rfl); (case kF => exact rfl); (case kK => assumption); (case k1 => k_asm); (case k2 => k_asm); (case k3 => k_asm); (case k4 => exact News.nil); (case k5 => k_asm); (case k6 => k_is); (case k7 => k_is); (case k8 => k_room); (case k9 => exact BindsTo.of_eq rfl); (case c5 => decide); (case kB => exact locs rfl); (case c2 => exact rfl); (case c3 => exact rfl); (case c4 => exact rfl); k_whole; intro g' L' h' FG' F' N' B' X' T' GS'; (try dsimp only); (try k_lift B'); (try k_fold))))
  (k_steps; repeat (any_goals (unfold Halt; (first | ((with_reducible show wpAny _ _ (call (Value.ref 157) _) _ _ _); k_dflt (refine' Pure.use (ifmt_c _ _ _ _ _ _) ?k1 ?k2 ?k3 ?k4 ?k5 ?kK ?kd ?ku ?_; (((case k1 => k_asm); (case k2 => k_asm); (case k3 => k_asm); (case k4 => k_asm); (case k5 => k_asm); (case kK => first | exact rfl | assumption); (case kd => ktr_room); (case ku => ktr_units); k_whole; intro t9 h9 tk9 F9 N9; (try dsimp only); (try k_fold)))))) <;> ((try dsimp only); k_steps))))
  all_goals exact hret 0 _ _ (by k_asm) (gs_nil (by assumption) (by assumption))
end

-- 20_mode
-- the table of the modes' signs, as it lies in the heap
noncomputable def EntsAre (h : Heap) : List Value → List (Int × Str) → Prop
  | [], [] => True
  | v :: vs, e :: es => (∃ a tb tc, v = .ref a ∧ IsTup h a #[.int e.1 tb, .str e.2 tc]) ∧ EntsAre h vs es
  | _, _ => False
noncomputable def TabIs (h : Heap) (v : Value) (es : List (Int × Str)) : Prop := ∃ ta lo n vs, v = .ref ta ∧ h.get? ta = some lo ∧ lo.cls = .type "tuple" ∧ lo.data = .seq (List.toArray vs) n ∧ EntsAre h vs es
noncomputable def TabsAre (h : Heap) : List Value → List (List (Int × Str)) → Prop
  | [], [] => True
  | v :: vs, e :: es => TabIs h v e ∧ TabsAre h vs es
  | _, _ => False
noncomputable def fmTab : List (List (Int × Str)) := [[(40960, Str.ofString "l"), (49152, Str.ofString "s"), (32768, Str.ofString "-"), (24576, Str.ofString "b"), (16384, Str.ofString "d"), (8192, Str.ofString "c"), (4096, Str.ofString "p")],
  [(256, Str.ofString "r")], [(128, Str.ofString "w")], [(2112, Str.ofString "s"), (2048, Str.ofString "S"), (64, Str.ofString "x")],
  [(32, Str.ofString "r")], [(16, Str.ofString "w")], [(1032, Str.ofString "s"), (1024, Str.ofString "S"), (8, Str.ofString "x")],
  [(4, Str.ofString "r")], [(2, Str.ofString "w")], [(513, Str.ofString "t"), (512, Str.ofString "T"), (1, Str.ofString "x")]]
noncomputable def hits (x : Int) (i : Nat) (b : Int) : Bool := if i = 0 then Builtin.bitAnd x 61440 == b else Builtin.bitAnd x b == b
noncomputable def fmChar (x : Int) (i : Nat) : List (Int × Str) → Str
  | [] => if i = 0 then Str.ofString "?" else Str.ofString "-"
  | e :: r => if hits x i e.1 = true then e.2 else fmChar x i r
noncomputable def fmChars (x : Int) : Nat → List (List (Int × Str)) → List Str
  | _, [] => []
  | i, e :: r => fmChar x i e :: fmChars x (i + 1) r
noncomputable def fmF (x : Int) : Str := Txt.join (Str.ofString "") (fmChars x 0 fmTab)
section
local macro_rules | `(tactic| walk_at "exec For Tuple Call cons nil") => `(tactic| (k_here; (rename Fr _ _ _ _ => lF'); (with_unfolding_all refine' For_turns lF' ?_; k_whole)))
local macro_rules | `(tactic| walk_at "UnrEndW") => `(tactic| (refine halt ?_))
local macro_rules | `(tactic| walk_at "Brk") => `(tactic| (dsimp only [Brk]))
local macro_rules | `(tactic| walk_at "call type:enumerate") => `(tactic| (k_here; refine halt ?_))
local macro_rules | `(tactic| walk_at "exec For Tuple Name cons cons") => `(tactic| (k_here; refine halt ?_))
local macro_rules | `(tactic| walk_at "call builtin:list.append") => `(tactic| refine halt ?_)
local macro_rules | `(tactic| walk_at "call builtin:str.join") => `(tactic| refine halt ?_)
variable (w : World) (mean : ExcName → Option Value) (mg mb : Str → Option Value)
theorem tabs_are {h : Heap} (X : (KK w.params).In h) : ∃ lo n vs, h.get? 260 = some lo ∧ lo.cls = .type "tuple" ∧ lo.data = .seq (List.toArray vs) n ∧ TabsAre h vs fmTab := by
  refine ⟨_, _, _, X 260 _ (by rfl), rfl, rfl, ?_⟩
  unfold fmTab
  repeat (first | exact trivial | (refine And.intro ⟨_, _, _, _, rfl, X _ _ (by rfl), rfl, rfl, ?_⟩ ?_) | (refine And.intro ⟨_, _, _, rfl, _, X _ _ (by rfl), rfl, _, rfl⟩ ?_) | (apply And.intro))
theorem fmChar_len (x : Int) (i : Nat) : ∀ es : List (Int × Str), (∀ e ∈ es, e.2.length ≤ 1) → (fmChar x i es).length ≤ 1
  | [], _ => by unfold fmChar; split <;> decide +kernel
  | e :: r, h => by
    unfold fmChar
    split
    · exact h e (.head _)
    · exact fmChar_len x i r fun q hq => h q (.tail _ hq)
theorem fmChars_weight (x : Int) : ∀ (T : List (List (Int × Str))) (i : Nat), (∀ es ∈ T, ∀ e ∈ es, e.2.length ≤ 1) → weight (fmChars x i T) ≤ 2 * T.length
  | [], _, _ => by simp [fmChars, weight]
  | es :: r, i, h => by
    have h1 := fmChar_len x i es (h es (.head _))
    have h2 := fmChars_weight x r (i + 1) fun q hq => h q (.tail _ hq)
    rw [fmChars, weight_cons, List.length_cons]; omega
theorem fmTab_len : ∀ es ∈ fmTab, ∀ e ∈ es, e.2.length ≤ 1 := by decide +kernel
theorem fm_weight (x : Int) : weight (fmChars x 0 fmTab) ≤ 20 := fmChars_weight x fmTab 0 fmTab_len
noncomputable def JMode (h₀ : Heap) (m₀ : Str → Option Value) (l : Addr) (x : Int) (z : List Str) (xs : List Itm) (m : Str → Option Value) (n : List (Addr × Obj)) : Prop :=
  (∀ y, y ≠ Str.ofString "char" → y ≠ Str.ofString "bit" → y ≠ Str.ofString "table" → y ≠ Str.ofString "index" → m y = m₀ y) ∧
  ∃ i vs es cs k, xs = enumItems i vs ∧ TabsAre h₀ vs es ∧ n = [(l, W.listOf (strValues cs).toArray k)] ∧ cs.map (·.1) ++ fmChars x i es = z ∧ cs.length + es.length ≤ 10
noncomputable def JIn (h₀ : Heap) (m₁ : Str → Option Value) (n₁ : List (Addr × Obj)) (x : Int) (i : Nat) (c : Str) (vs : List Value) (m : Str → Option Value) (n : List (Addr × Obj)) : Prop :=
  n = n₁ ∧ (∀ y, y ≠ Str.ofString "char" → y ≠ Str.ofString "bit" → m y = m₁ y) ∧ ∃ es, EntsAre h₀ vs es ∧ fmChar x i es = c
theorem map_free2 {m m₀ : Str → Option Value} {a b : Str} (h : ∀ y, y ≠ a → y ≠ b → m y = m₀ y) : m = fun y => if y = a then m a else if y = b then m b else m₀ y := map_two rfl h
theorem tup_keep {h₀ h : Heap} {L a : Addr} {m : Str → Option Value} {items : Array Value} (F : Fr h₀ L h m) (T : IsTup h₀ a items) : IsTup h a items := let ⟨o, ho, r⟩ := T; ⟨o, F.keep _ _ ho, r⟩
theorem mode_end {x : Int} {i : Nat} {cs : List (Str × Tok)} {c : Str} {tk : Tok} {e0 : List (Int × Str)} {es : List (List (Int × Str))} {z : List Str} (hc : fmChar x i e0 = c) (hj : cs.map (·.1) ++ fmChars x i (e0 :: es) = z) : (cs ++ [(c, tk)]).map (·.1) ++ fmChars x (i + 1) es = z := by
  rw [← hj]; simp [fmChars, hc]
theorem fm_none0 {x : Int} {i : Nat} {e0 : List (Int × Str)} (hf : fmChar x i [] = fmChar x i e0) (hi : i = 0) : fmChar x i e0 = Str.ofString "?" := by rw [← hf]; unfold fmChar; rw [if_pos hi]
theorem fm_none {x : Int} {i : Nat} {e0 : List (Int × Str)} (hf : fmChar x i [] = fmChar x i e0) (hi : ¬ i = 0) : fmChar x i e0 = Str.ofString "-" := by rw [← hf]; unfold fmChar; rw [if_neg hi]
theorem fm_hit0 {x b : Int} {i : Nat} {c : Str} {es e0 : List (Int × Str)} (hf : fmChar x i ((b, c) :: es) = fmChar x i e0) (h : Builtin.bitAnd x 61440 = b) (hi : i = 0) : fmChar x i e0 = c := by
  rw [← hf]; unfold fmChar; rw [if_pos (by unfold hits; rw [if_pos hi]; exact beq_iff_eq.mpr h)]
theorem fm_hit {x b : Int} {i : Nat} {c : Str} {es e0 : List (Int × Str)} (hf : fmChar x i ((b, c) :: es) = fmChar x i e0) (h : Builtin.bitAnd x b = b) (hi : ¬ i = 0) : fmChar x i e0 = c := by
  rw [← hf]; unfold fmChar; rw [if_pos (by unfold hits; rw [if_neg hi]; exact beq_iff_eq.mpr h)]
theorem fm_miss0 {x b : Int} {i : Nat} {c : Str} {es e0 : List (Int × Str)} (hf : fmChar x i ((b, c) :: es) = fmChar x i e0) (h : Builtin.bitAnd x 61440 ≠ b) (hi : i = 0) : fmChar x i es = fmChar x i e0 := by
  rw [← hf]; conv => rhs; unfold fmChar
  rw [if_neg (by unfold hits; rw [if_pos hi]; simpa using h)]
theorem fm_miss {x b : Int} {i : Nat} {c : Str} {es e0 : List (Int × Str)} (hf : fmChar x i ((b, c) :: es) = fmChar x i e0) (h : Builtin.bitAnd x b ≠ b) (hi : ¬ i = 0) : fmChar x i es = fmChar x i e0 := by
  rw [← hf]; conv => rhs; unfold fmChar
  rw [if_neg (by unfold hits; rw [if_neg hi]; simpa using h)]
theorem filemode_c (x : Int) (t : Tok) : Pure 4 w mean mg mb 267 [.int x t] (fun t' => .str (fmF x) t') := by
  dsimp only [Pure]; k_fill; intros; rename_i hret
  refine wpAny_call ?_
  k_dflt (((refine' code_defG ?k1 ?k2 ?k3 ?k4 ?k5 ?kA ?kF ?kK ?k6 ?k7 ?k8 ?k9 ?kB ?_ ?c2 ?c3 ?c4 ?c5; (case kA => exact rfl); (case kF => exact rfl); (case kK => assumption); (case k1 => k_asm); (case k2 => k_asm); (case k3 => k_asm); (case k4 => exact News.nil); (case k5 => k_asm); (case k6 => k_is); (case k7 => k_is); (case k8 => k_room); (case k9 => exact BindsTo.of_eq rfl); (case c5 => decide); (case kB => exact locs rfl); (case c2 => exact rfl); (case c3 => exact rfl); (case c4 => exact rfl); k_whole; intro g' L' h' FG' F' N' B' X' T' GS'; (try dsimp only); (try k_lift B'); (try k_fold))))
  (k_steps; repeat (any_goals (unfold Halt; (first | (k_dflt (refine' strs_join ?kN ?km ?kw ?kx ?_; (case kN => k_asm); (case km => k_mem); (case kw => assumption); (case kx => decide +kernel); k_whole); intro z' t' k' hz') | (k_dflt (refine' strs_append ?kF ?kN ?kU ?kb ?_; (case kF => k_asm); (case kN => k_asm); (case kU => k_upd); (case kb => omega); k_whole); intro h' F' N') | ((with_reducible show wpAny _ _ (call (Value.ref 157) _) _ _ _); k_dflt (refine' Pure.use (ifmt_c _ _ _ _ _ _) ?k1 ?k2 ?k3 ?k4 ?k5 ?kK ?kd ?ku ?_; (((case k1 => k_asm); (case k2 => k_asm); (case k3 => k_asm); (case k4 => k_asm); (case k5 => k_asm); (case kK => first | exact rfl | assumption); (case kd => ktr_room); (case ku => ktr_units); k_whole; intro t9 h9 tk9 F9 N9; (try dsimp only); (try k_fold)))))) <;> ((try dsimp only); k_steps))))
  unfold Halt
  rename Fr _ _ _ _ => lF
  rename News _ _ _ _ => lN
  rename Frag.In _ _ => lX
  obtain ⟨lo, nE, vs₀, hg, hc, hd, hT⟩ := tabs_are w lX
  with_unfolding_all refine enum_tupK (by rfl) lF lN hg hc hd ?_
  clear lF lN hg hc hd
  intro I l1
  k_lt l1
  refine items_any (JMode _ _ _ x (fmChars x 0 fmTab)) ?done ?turn _ _ _ ⟨fun _ _ _ _ _ => rfl, 0, vs₀, fmTab, [], 0, rfl, hT, rfl, rfl, by decide⟩
  case done =>
    intro m news h tk hJ F N
    obtain ⟨hm, i, vs, es, cs, k, he, hT, rfl, hj, hl⟩ := hJ
    rw [map_four hm] at F
    clear hm
    cases vs with
    | cons v0 vs' => cases he
    | nil =>
    cases es with
    | cons e0 es' => exact hT.elim
    | nil =>
    have e9 : cs.map (·.1) = fmChars x 0 fmTab := by rw [← hj]; simp [fmChars]
    have hw2 : ((cs.map (·.1)).map (·.length)).sum + (cs.map (·.1)).length ≤ 1048576 := by rw [e9]; have := fm_weight x; unfold weight at this; omega
    dsimp only
    (k_steps; repeat (any_goals (unfold Halt; (first | (k_dflt (refine' strs_join ?kN ?km ?kw ?kx ?_; (case kN => k_asm); (case km => k_mem); (case kw => assumption); (case kx => decide +kernel); k_whole); intro z' t' k' hz') | (k_dflt (refine' strs_append ?kF ?kN ?kU ?kb ?_; (case kF => k_asm); (case kN => k_asm); (case kU => k_upd); (case kb => omega); k_whole); intro h' F' N') | ((with_reducible show wpAny _ _ (call (Value.ref 157) _) _ _ _); k_dflt (refine' Pure.use (ifmt_c _ _ _ _ _ _) ?k1 ?k2 ?k3 ?k4 ?k5 ?kK ?kd ?ku ?_; (((case k1 => k_asm); (case k2 => k_asm); (case k3 => k_asm); (case k4 => k_asm); (case k5 => k_asm); (case kK => first | exact rfl | assumption); (case kd => ktr_room); (case ku => ktr_units); k_whole; intro t9 h9 tk9 F9 N9; (try dsimp only); (try k_fold)))))) <;> ((try dsimp only); k_steps))))
    rename _ = Txt.join _ _ => hz
    rw [e9] at hz
    subst hz
    exact hret _ _ _ (by k_asm) (gs_nil (by assumption) (by assumption))
  case turn =>
    intro a r m news v h tk hJ hv F
    obtain ⟨hm, i, vs, es, cs, k, he, hT, rfl, hj, hl⟩ := hJ
    rw [map_four hm] at F
    generalize m (Str.ofString "char") = v1 at F
    generalize m (Str.ofString "bit") = v2 at F
    generalize m (Str.ofString "table") = v3 at F
    generalize m (Str.ofString "index") = v4 at F
    clear hm
    cases vs with
    | nil => cases he
    | cons v0 vs' =>
    cases es with
    | nil => exact hT.elim
    | cons e0 esr =>
    cases he
    obtain ⟨T, tT, rfl, hTu⟩ := hv
    obtain ⟨⟨ta, lo, nT, vsT, rfl, hg, hc, hd, hEn⟩, hTr⟩ := hT
    dsimp only at hTu
    generalize hidx : ((i : Nat) : Int) = idx at hTu
    ktu_objs
    (k_steps; repeat (any_goals (unfold Halt; (first | (k_dflt (refine' strs_join ?kN ?km ?kw ?kx ?_; (case kN => k_asm); (case km => k_mem); (case kw => assumption); (case kx => decide +kernel); k_whole); intro z' t' k' hz') | (k_dflt (refine' strs_append ?kF ?kN ?kU ?kb ?_; (case kF => k_asm); (case kN => k_asm); (case kU => k_upd); (case kb => omega); k_whole); intro h' F' N') | ((with_reducible show wpAny _ _ (call (Value.ref 157) _) _ _ _); k_dflt (refine' Pure.use (ifmt_c _ _ _ _ _ _) ?k1 ?k2 ?k3 ?k4 ?k5 ?kK ?kd ?ku ?_; (((case k1 => k_asm); (case k2 => k_asm); (case k3 => k_asm); (case k4 => k_asm); (case k5 => k_asm); (case kK => first | exact rfl | assumption); (case kd => ktr_room); (case ku => ktr_units); k_whole; intro t9 h9 tk9 F9 N9; (try dsimp only); (try k_fold)))))) <;> ((try dsimp only); k_steps))))
    unfold Halt
    rename Fr _ _ _ _ => lF
    rename News _ _ _ _ => lN
    with_unfolding_all refine else_tupK (by rfl) lF lN hg hc hd (fun Q' hq => by k_dflt (refine' ld ?k1 ?k2 ?_; (case k1 => exact lF); (case k2 => exact rfl); exact hq)) (JIn _ _ _ x i (fmChar x i e0)) ⟨rfl, fun _ _ _ => rfl, e0, hEn, rfl⟩ ?done ?turn
    case done =>
      clear lF lN
      intro m news h tk hJ F N
      obtain ⟨rfl, hm, es, hE, hf⟩ := hJ
      rw [map_free2 hm] at F
      clear hm
      cases es with
      | cons e es' => exact hE.elim
      | nil =>
      (k_steps; repeat (any_goals (unfold Halt; (first | (k_dflt (refine' strs_join ?kN ?km ?kw ?kx ?_; (case kN => k_asm); (case km => k_mem); (case kw => assumption); (case kx => decide +kernel); k_whole); intro z' t' k' hz') | (k_dflt (refine' strs_append ?kF ?kN ?kU ?kb ?_; (case kF => k_asm); (case kN => k_asm); (case kU => k_upd); (case kb => omega); k_whole); intro h' F' N') | ((with_reducible show wpAny _ _ (call (Value.ref 157) _) _ _ _); k_dflt (refine' Pure.use (ifmt_c _ _ _ _ _ _) ?k1 ?k2 ?k3 ?k4 ?k5 ?kK ?kd ?ku ?_; (((case k1 => k_asm); (case k2 => k_asm); (case k3 => k_asm); (case k4 => k_asm); (case k5 => k_asm); (case kK => first | exact rfl | assumption); (case kd => ktr_room); (case ku => ktr_units); k_whole; intro t9 h9 tk9 F9 N9; (try dsimp only); (try k_fold)))))) <;> ((try dsimp only); k_steps))))
      all_goals unfold Halt
      all_goals rename Fr _ _ _ _ => lF
      all_goals rename News _ _ _ _ => lN
      all_goals refine unr_end lF lN [(_, W.listOf (strValues (cs ++ [(_, _)])).toArray (k + 1))] (by (((try simp only [List.cons_append, List.nil_append]); kcj_all))) (by ((simp only [AllOff, AllNe, and_true]; (repeat' apply And.intro) <;> (first | exact trivial | omega)))) ⟨trivial, ?_, i + 1, vs', esr, cs ++ [(_, _)], k + 1, rfl, hTr, rfl, mode_end ?_ hj, ?_⟩
      all_goals first | exact fm_none0 hf (by omega) | exact fm_none hf (by omega) | (intro y h1 h2 h3 h4; (repeat with_reducible first | rfl | refine nx h1 ?_ | refine nx h2 ?_ | refine nx h3 ?_ | refine nx h4 ?_ | refine nx2 h1 ?_ | refine nx2 h2 ?_ | refine nx2 h3 ?_ | refine nx2 h4 ?_); done) | (simp only [List.length_append, List.length_cons, List.length_nil] at hl ⊢; omega)
    case turn =>
      clear lF lN
      intro v r m news h tk I' oI hJ hcI hne F N
      obtain ⟨rfl, hm, es, hE, hf⟩ := hJ
      simp only [AllNe, and_true] at hne
      rw [map_free2 hm] at F
      generalize m (Str.ofString "char") = v1 at F
      generalize m (Str.ofString "bit") = v2 at F
      clear hm
      cases es with
      | nil => exact hE.elim
      | cons e es' =>
      obtain ⟨⟨a, tb, tc, rfl, hTe⟩, hEr⟩ := hE
      have hTf := tup_keep F hTe
      obtain ⟨b, c⟩ := e
      dsimp only at hTf
      (k_steps; repeat (any_goals (unfold Halt; (first | (k_dflt (refine' strs_join ?kN ?km ?kw ?kx ?_; (case kN => k_asm); (case km => k_mem); (case kw => assumption); (case kx => decide +kernel); k_whole); intro z' t' k' hz') | (k_dflt (refine' strs_append ?kF ?kN ?kU ?kb ?_; (case kF => k_asm); (case kN => k_asm); (case kU => k_upd); (case kb => omega); k_whole); intro h' F' N') | ((with_reducible show wpAny _ _ (call (Value.ref 157) _) _ _ _); k_dflt (refine' Pure.use (ifmt_c _ _ _ _ _ _) ?k1 ?k2 ?k3 ?k4 ?k5 ?kK ?kd ?ku ?_; (((case k1 => k_asm); (case k2 => k_asm); (case k3 => k_asm); (case k4 => k_asm); (case k5 => k_asm); (case kK => first | exact rfl | assumption); (case kd => ktr_room); (case ku => ktr_units); k_whole; intro t9 h9 tk9 F9 N9; (try dsimp only); (try k_fold)))))) <;> ((try dsimp only); k_steps))))
      all_goals unfold Halt
      all_goals rename Fr _ _ _ _ => lF
      all_goals rename News _ _ _ _ => lN
      all_goals first
        | refine unr_end lF lN [(_, W.listOf (strValues (cs ++ [(_, _)])).toArray (k + 1))] (by (((try simp only [List.cons_append, List.nil_append]); kcj_all))) (by ((simp only [AllOff, AllNe, and_true]; (repeat' apply And.intro) <;> (first | exact trivial | omega)))) ⟨trivial, ?_, i + 1, vs', esr, cs ++ [(_, _)], k + 1, rfl, hTr, rfl, mode_end ?_ hj, ?_⟩
        | refine unr_end lF lN _ (by (((try simp only [List.cons_append, List.nil_append]); kcj_all))) (by ((simp only [AllOff, AllNe, and_true]; (repeat' apply And.intro) <;> (first | exact trivial | omega)))) ⟨rfl, ?_, es', hEr, ?_⟩
      all_goals first | exact fm_hit0 hf (by assumption) (by omega) | exact fm_hit hf (by assumption) (by omega) | exact fm_miss0 hf (by assumption) (by omega) | exact fm_miss hf (by assumption) (by omega) | (intro y h1 h2 h3 h4; (repeat with_reducible first | rfl | refine nx h1 ?_ | refine nx h2 ?_ | refine nx h3 ?_ | refine nx h4 ?_ | refine nx2 h1 ?_ | refine nx2 h2 ?_ | refine nx2 h3 ?_ | refine nx2 h4 ?_); done) | (intro y h1 h2; (repeat with_reducible first | rfl | refine nx h1 ?_ | refine nx h2 ?_ | refine nx2 h1 ?_ | refine nx2 h2 ?_); done) | (simp only [List.length_append, List.length_cons, List.length_nil] at hl ⊢; omega)
end

-- 22_drawn
noncomputable def kindF (n : Int) : Int := if n.fmod 8 = 0 then 4 else if n.fmod 8 = 1 then 8 else if n.fmod 8 = 2 then 10 else if n.fmod 8 = 3 then 1 else if n.fmod 8 = 4 then 12 else if n.fmod 8 = 5 then 2 else if n.fmod 8 = 6 then 6 else ((n.fdiv 8).fmod 65536).fdiv 4096
noncomputable def drawnF (n : Int) : Int := 4096 * kindF n + (((n.fdiv 8).fmod 65536 + 1) * 493).fmod 4096
theorem drawn_at {x k : Int} (h : kindF x = k) : drawnF x = 4096 * k + (((x.fdiv 8).fmod 65536 + 1) * 493).fmod 4096 := by rw [← h]; rfl
theorem kind_0 {x : Int} (h : x.fmod 8 = 0) : kindF x = 4 := by unfold kindF; rw [h]; rfl
theorem kind_1 {x : Int} (h : x.fmod 8 = 1) : kindF x = 8 := by unfold kindF; rw [h]; rfl
theorem kind_2 {x : Int} (h : x.fmod 8 = 2) : kindF x = 10 := by unfold kindF; rw [h]; rfl
theorem kind_3 {x : Int} (h : x.fmod 8 = 3) : kindF x = 1 := by unfold kindF; rw [h]; rfl
theorem kind_4 {x : Int} (h : x.fmod 8 = 4) : kindF x = 12 := by unfold kindF; rw [h]; rfl
theorem kind_5 {x : Int} (h : x.fmod 8 = 5) : kindF x = 2 := by unfold kindF; rw [h]; rfl
theorem kind_6 {x : Int} (h : x.fmod 8 = 6) : kindF x = 6 := by unfold kindF; rw [h]; rfl
theorem kind_7 {x : Int} (h : x.fmod 8 = 7) : kindF x = ((x.fdiv 8).fmod 65536).fdiv 4096 := by unfold kindF; rw [h]; rfl
noncomputable def kindT (n : Int) (i : Nat) : Int := if i = 0 then 4 else if i = 1 then 8 else if i = 2 then 10 else if i = 3 then 1 else if i = 4 then 12 else if i = 5 then 2 else if i = 6 then 6 else ((n.fdiv 8).fmod 65536).fdiv 4096
theorem kindT_eq {n : Int} {i : Nat} (h : (i : Int) = n.fmod 8) : kindF n = kindT n i := by
  have h1 : i < 8 := by have := Int.fmod_lt_of_pos n (show (0 : Int) < 8 by decide); omega
  rcases (show i = 0 ∨ i = 1 ∨ i = 2 ∨ i = 3 ∨ i = 4 ∨ i = 5 ∨ i = 6 ∨ i = 7 by omega) with rfl | rfl | rfl | rfl | rfl | rfl | rfl | rfl
  · exact kind_0 h.symm
  · exact kind_1 h.symm
  · exact kind_2 h.symm
  · exact kind_3 h.symm
  · exact kind_4 h.symm
  · exact kind_5 h.symm
  · exact kind_6 h.symm
  · exact kind_7 h.symm
theorem fmod8 (n : Int) : 0 ≤ n.fmod 8 ∧ n.fmod 8 < ((8 : Nat) : Int) := ⟨Int.fmod_nonneg_of_pos _ (by decide), Int.fmod_lt_of_pos _ (by decide)⟩
theorem kind_row {n : Int} {t0 t1 t2 t3 t4 t5 t6 t7 : Tok} : ∀ i : Nat, i < 8 → ∃ t, [Value.int 4 t0, .int 8 t1, .int 10 t2, .int 1 t3, .int 12 t4, .int 2 t5, .int 6 t6, .int (((n.fdiv 8).fmod 65536).fdiv 4096) t7][i]? = some (.int (kindT n i) t)
  | 0, _ | 1, _ | 2, _ | 3, _ | 4, _ | 5, _ | 6, _ | 7, _ => ⟨_, rfl⟩
  | i + 8, h => absurd h (by omega)
section
local macro_rules | `(tactic| walk_at "subscriptTail") => `(tactic| (refine halt ?_))
variable (w : World) (mean : ExcName → Option Value) (mg mb : Str → Option Value)
theorem drawn_c (x : Int) (t : Tok) : Pure 4 w mean mg mb 274 [.int x t] (fun t' => .int (drawnF x) t') := by
  dsimp only [Pure]; k_fill; intros; rename_i hret
  refine wpAny_call ?_
  k_dflt (((refine' code_defG ?k1 ?k2 ?k3 ?k4 ?k5 ?kA ?kF ?kK ?k6 ?k7 ?k8 ?k9 ?kB ?_ ?c2 ?c3 ?c4 ?c5; (case kA => exact rfl); (case kF => exact rfl); (case kK => assumption); (case k1 => k_asm); (case k2 => k_asm); (case k3 => k_asm); (case k4 => exact News.nil); (case k5 => k_asm); (case k6 => k_is); (case k7 => k_is); (case k8 => k_room); (case k9 => exact BindsTo.of_eq rfl); (case c5 => decide); (case kB => exact locs rfl); (case c2 => exact rfl); (case c3 => exact rfl); (case c4 => exact rfl); k_whole; intro g' L' h' FG' F' N' B' X' T' GS'; (try dsimp only); (try k_lift B'); (try k_fold))))
  k_steps
  unfold Halt
  rename News _ _ _ _ => lN
  k_dflt (refine pick_at (fun i t => .int (kindT x i) t) 8 lN (.head _) rfl (by decide) (fmod8 x).1 (fmod8 x).2 kind_row (by with_unfolding_all rfl) ?_)
  intro i t9 hi
  dsimp only
  k_steps
  exact q_int (drawn_at (kindT_eq hi)) (hret _ _ _ (by k_asm) (gs_nil (by assumption) (by assumption)))
end

-- 23_read
noncomputable def hasS (t : String) (c : Str) : Bool := !(Builtin.Str.occurrences (Str.ofString t) c 0 (Str.ofString t).length 1).isEmpty
noncomputable def readStep (x : Str) (σ : Int × TyM []) (k : Int) : Int × TyM [] :=
  if (!(Builtin.Str.occurrences (Str.ofString "rwxst") (Txt.item x (1 + k)) 0 (Str.ofString "rwxst").length 1).isEmpty) = true then
    if (!(Builtin.Str.occurrences (Str.ofString "sStT") (Txt.item x (1 + k)) 0 (Str.ofString "sStT").length 1).isEmpty) = true then (σ.fst + 2 ^ (8 - k).toNat + 2 ^ (11 - k.fdiv 3).toNat, ())
    else (σ.fst + 2 ^ (8 - k).toNat, ())
  else
    if (!(Builtin.Str.occurrences (Str.ofString "sStT") (Txt.item x (1 + k)) 0 (Str.ofString "sStT").length 1).isEmpty) = true then (σ.fst + 2 ^ (11 - k.fdiv 3).toNat, ())
    else (σ.fst, ())
noncomputable def readF (x : Str) : Int := (List.foldl (readStep x) (4096 * Txt.find (Str.ofString "?pc?d?b?-?l?s") (Txt.item x 0), ()) (rangeInts 0 1 ((9 : Int) - 0).toNat)).fst
section
variable (w : World) (mean : ExcName → Option Value) (mg mb : Str → Option Value)
theorem read_c (x : Str) (t : Tok) (hx : x.length = 10) : Pure 4 w mean mg mb 281 [.str x t] (fun t' => .int (readF x) t') := by
  dsimp only [Pure]; k_fill; intros; rename_i hret
  refine wpAny_call ?_
  k_dflt (((refine' code_defG ?k1 ?k2 ?k3 ?k4 ?k5 ?kA ?kF ?kK ?k6 ?k7 ?k8 ?k9 ?kB ?_ ?c2 ?c3 ?c4 ?c5; (case kA => exact rfl); (case kF => exact rfl); (case kK => assumption); (case k1 => k_asm); (case k2 => k_asm); (case k3 => k_asm); (case k4 => exact News.nil); (case k5 => k_asm); (case k6 => k_is); (case k7 => k_is); (case k8 => k_room); (case k9 => exact BindsTo.of_eq rfl); (case c5 => decide); (case kB => exact locs rfl); (case c2 => exact rfl); (case c3 => exact rfl); (case c4 => exact rfl); k_whole; intro g' L' h' FG' F' N' B' X' T' GS'; (try dsimp only); (try k_lift B'); (try k_fold))))
  k_steps
  refine q_int ?_ (hret _ _ _ (by k_asm) (gs_nil (by assumption) (by assumption)))
  unfold readF readStep
  first | (with_reducible_and_instances rfl) | (trace "PLAIN"; rfl)
end

-- 24_signs
noncomputable def signsDigit (i : Nat) : Int := if i = 0 then 64 else if i = 1 then 8 else 1
noncomputable def signsMore (i : Nat) : Int := if i = 0 then 2048 else if i = 1 then 1024 else 512
noncomputable def signsTab (i : Nat) : Str := if i = 2 then Str.ofString "-xTt" else Str.ofString "-xSs"
noncomputable def signsStep (x : Int) (i : Nat) (z : Str) : Str :=
  (z ++ (Txt.item (Str.ofString "-r") (((x.fdiv (signsDigit i)).fmod 8).fdiv 4) ++ Txt.item (Str.ofString "-w") ((((x.fdiv (signsDigit i)).fmod 8).fdiv 2).fmod 2))) ++
    Txt.item (signsTab i) (2 * (x.fdiv (signsMore i)).fmod 2 + ((x.fdiv (signsDigit i)).fmod 8).fmod 2)
noncomputable def signsF (x : Int) : Str := signsStep x 2 (signsStep x 1 (signsStep x 0 (Txt.item (Str.ofString "?pc?d?b?-?l?s???") (x.fdiv 4096))))
noncomputable def signsN (x : Int) : Nat → Str
  | 0 => Txt.item (Str.ofString "?pc?d?b?-?l?s???") (x.fdiv 4096)
  | i + 1 => signsStep x i (signsN x i)
theorem signs_len (x : Int) : ∀ i, (signsN x i).length = 1 + 3 * i
  | 0 => rfl
  | i + 1 => by
    have h := signs_len x i
    unfold signsN signsStep
    simp only [Str.length_append, item_length, h]
    omega
theorem signs_step {x : Int} {i : Nat} {z z' : Str} (hz : z = signsN x i) (h : z' = signsStep x i z) : z' = signsN x (i + 1) := by rw [h, hz]; rfl
theorem sg0 (x : Int) (z : Str) : (z ++ (Txt.item (Str.ofString "-r") (((x.fdiv 64).fmod 8).fdiv 4) ++ Txt.item (Str.ofString "-w") ((((x.fdiv 64).fmod 8).fdiv 2).fmod 2))) ++ Txt.item (Str.ofString "-xSs") (2 * (x.fdiv 2048).fmod 2 + ((x.fdiv 64).fmod 8).fmod 2) = signsStep x 0 z := rfl
theorem sg1 (x : Int) (z : Str) : (z ++ (Txt.item (Str.ofString "-r") (((x.fdiv 8).fmod 8).fdiv 4) ++ Txt.item (Str.ofString "-w") ((((x.fdiv 8).fmod 8).fdiv 2).fmod 2))) ++ Txt.item (Str.ofString "-xSs") (2 * (x.fdiv 1024).fmod 2 + ((x.fdiv 8).fmod 8).fmod 2) = signsStep x 1 z := rfl
theorem sg2 (x : Int) (z : Str) : (z ++ (Txt.item (Str.ofString "-r") (((x.fdiv 1).fmod 8).fdiv 4) ++ Txt.item (Str.ofString "-w") ((((x.fdiv 1).fmod 8).fdiv 2).fmod 2))) ++ Txt.item (Str.ofString "-xTt") (2 * (x.fdiv 512).fmod 2 + ((x.fdiv 1).fmod 8).fmod 2) = signsStep x 2 z := rfl
noncomputable def JSigns (m₀ : Str → Option Value) (x : Int) (i : Nat) (m : Str → Option Value) (n : List (Addr × Obj)) : Prop :=
  n = [] ∧ (∀ y, y ≠ Str.ofString "text" → y ≠ Str.ofString "place" → y ≠ Str.ofString "figure" → y ≠ Str.ofString "more" → m y = m₀ y) ∧ ∃ z tz, m (Str.ofString "text") = some (.str z tz) ∧ z = signsN x i
theorem map_txt {m m₀ : Str → Option Value} {a b c d : Str} {v : Option Value} (hb : m a = v) (h : ∀ y, y ≠ a → y ≠ b → y ≠ c → y ≠ d → m y = m₀ y) : m = fun y => if y = a then v else if y = b then m b else if y = c then m c else if y = d then m d else m₀ y := by
  subst hb; exact map_four h
theorem signsDigit_pos (i : Nat) : 0 < signsDigit i := by unfold signsDigit; split <;> (try split) <;> decide
theorem signsMore_pos (i : Nat) : 0 < signsMore i := by unfold signsMore; split <;> (try split) <;> decide
theorem digit_ne (i : Nat) : signsDigit i ≠ 0 := Int.ne_of_gt (signsDigit_pos i)
theorem more_ne (i : Nat) : signsMore i ≠ 0 := Int.ne_of_gt (signsMore_pos i)
theorem digit_log {x : Int} (i : Nat) : Builtin.divisionGoesByPylong x (signsDigit i) = false := PyProof.noPylong_of_log2 (by unfold signsDigit; split <;> (try split) <;> decide +kernel)
theorem more_log {x : Int} (i : Nat) : Builtin.divisionGoesByPylong x (signsMore i) = false := PyProof.noPylong_of_log2 (by unfold signsMore; split <;> (try split) <;> decide +kernel)
theorem signsTab_len (i : Nat) : (signsTab i).length = 4 := by unfold signsTab; split <;> decide +kernel
theorem idx4 (u v : Int) : -((4 : Nat) : Int) ≤ 2 * u.fmod 2 + v.fmod 2 ∧ 2 * u.fmod 2 + v.fmod 2 < ((4 : Nat) : Int) := by
  rw [Int.fmod_eq_emod_of_nonneg _ (show (0 : Int) ≤ 2 by decide), Int.fmod_eq_emod_of_nonneg _ (show (0 : Int) ≤ 2 by decide)]; omega
theorem digit_row {t0 t1 t2 : Tok} : ∀ i : Nat, i < 3 → ∃ t, [Value.int 64 t0, .int 8 t1, .int 1 t2][i]? = some (.int (signsDigit i) t)
  | 0, _ | 1, _ | 2, _ => ⟨_, rfl⟩
  | i + 3, h => absurd h (by omega)
theorem more_row {t0 t1 t2 : Tok} : ∀ i : Nat, i < 3 → ∃ t, [Value.int 2048 t0, .int 1024 t1, .int 512 t2][i]? = some (.int (signsMore i) t)
  | 0, _ | 1, _ | 2, _ => ⟨_, rfl⟩
  | i + 3, h => absurd h (by omega)
theorem tab_row {t0 t1 t2 : Tok} : ∀ i : Nat, i < 3 → ∃ t, [Value.str (Str.ofString "-xSs") t0, .str (Str.ofString "-xSs") t1, .str (Str.ofString "-xTt") t2][i]? = some (.str (signsTab i) t)
  | 0, _ | 1, _ | 2, _ => ⟨_, rfl⟩
  | i + 3, h => absurd h (by omega)
section
local macro_rules | `(tactic| walk_at "binaryOp FloorDiv int int") => `(tactic| (k_here; with_reducible first | refine floordiv_int (digit_ne _) ?_ (Or.inl (digit_log _)) | refine floordiv_int (more_ne _) ?_ (Or.inl (more_log _))))
local macro_rules | `(tactic| walk_at "subscriptTail") => `(tactic| (k_here; (with_reducible show wpAny _ _ (subscriptTail (PySem.Expr.Tuple _ _ _) _ _ _) _ _ _); refine halt ?_))
local macro_rules | `(tactic| walk_at "subscriptTail") => `(tactic| (k_here; (with_reducible show wpAny _ _ (subscriptTail _ _ (Value.str (signsTab _) _) _) _ _ _); refine halt ?_))
local macro_rules | `(tactic| walk_at "RangeRest") => `(tactic| (refine halt ?_))
local macro_rules | `(tactic| walk_at "execs nil") => `(tactic| (refine halt ?_))
variable (w : World) (mean : ExcName → Option Value) (mg mb : Str → Option Value)
theorem signs_c (x : Int) (t : Tok) (h0 : 0 ≤ x) (h1 : x < 65536) : Pure 4 w mean mg mb 307 [.int x t] (fun t' => .str (signsF x) t') := by
  dsimp only [Pure]; k_fill; intros; rename_i hret
  refine wpAny_call ?_
  k_dflt (((refine' code_defG ?k1 ?k2 ?k3 ?k4 ?k5 ?kA ?kF ?kK ?k6 ?k7 ?k8 ?k9 ?kB ?_ ?c2 ?c3 ?c4 ?c5; (case kA => exact rfl); (case kF => exact rfl); (case kK => assumption); (case k1 => k_asm); (case k2 => k_asm); (case k3 => k_asm); (case k4 => exact News.nil); (case k5 => k_asm); (case k6 => k_is); (case k7 => k_is); (case k8 => k_room); (case k9 => exact BindsTo.of_eq rfl); (case c5 => decide); (case kB => exact locs rfl); (case c2 => exact rfl); (case c3 => exact rfl); (case c4 => exact rfl); k_whole; intro g' L' h' FG' F' N' B' X' T' GS'; (try dsimp only); (try k_lift B'); (try k_fold))))
  k_steps
  unfold Halt
  refine range_inv (JSigns _ x) ?done ?turn _ _ _ _ rfl ⟨rfl, fun _ _ _ _ _ => rfl, _, _, rfl, rfl⟩
  case done =>
    intro m news h tk hJ F N
    obtain ⟨rfl, hm, z, tz, hz, rfl⟩ := hJ
    rw [map_txt hz hm] at F
    generalize m (Str.ofString "place") = v2 at F
    generalize m (Str.ofString "figure") = v3 at F
    generalize m (Str.ofString "more") = v4 at F
    clear hm hz
    k_steps
    refine q_str rfl (hret _ _ _ (by k_asm) (gs_nil (by assumption) (by assumption)))
  case turn =>
    intro i m news t' h tk hi hJ F N
    obtain ⟨rfl, hm, z, tz, hz, hzz⟩ := hJ
    rw [map_txt hz hm] at F
    generalize m (Str.ofString "place") = v2 at F
    generalize m (Str.ofString "figure") = v3 at F
    generalize m (Str.ofString "more") = v4 at F
    clear hm hz
    have hl : z.length = 1 + 3 * i := by rw [hzz]; exact signs_len x i
    have hD := signsDigit_pos i
    have hM := signsMore_pos i
    have hT := signsTab_len i
    have hi9 : 0 ≤ (0 : Int) + (i : Int) ∧ (0 : Int) + (i : Int) < ((3 : Nat) : Int) := by omega
    k_steps
    unfold Halt
    rename News _ _ _ _ => lN
    k_dflt (refine pick_at (fun i t => .int (signsDigit i) t) 3 lN (.head _) rfl (by decide) hi9.1 hi9.2 digit_row (by with_unfolding_all rfl) ?_)
    intro i1 t9 hi1
    obtain rfl : i1 = i := by omega
    dsimp only
    clear hi1
    k_steps
    unfold Halt
    (try clear lN)
    rename News _ _ _ _ => lN
    k_dflt (refine pick_at (fun i t => .int (signsMore i) t) 3 lN (.head _) rfl (by decide) hi9.1 hi9.2 more_row (by with_unfolding_all rfl) ?_)
    intro i2 t8 hi2
    obtain rfl : i2 = i1 := by omega
    dsimp only
    clear hi2
    k_steps
    unfold Halt
    (try clear lN)
    rename News _ _ _ _ => lN
    k_dflt (refine pick_at (fun i t => .str (signsTab i) t) 3 lN (.head _) rfl (by decide) hi9.1 hi9.2 tab_row (by with_unfolding_all rfl) ?_)
    intro i3 t7 hi3
    obtain rfl : i3 = i2 := by omega
    dsimp only
    clear hi3
    k_steps
    unfold Halt
    k_dflt (refine KXi.item hT (idx4 _ _).1 (idx4 _ _).2 (by decide) ?_)
    intro kxiE
    k_steps
    unfold Halt
    refine wpAny_pure ?_
    rename Fr _ _ _ _ => lF
    (try clear lN)
    rename News _ _ _ _ => lN
    exact unrR_end lF lN [] (by (((try simp only [List.cons_append, List.nil_append]); kcj_all))) trivial ⟨rfl, fun y h1 h2 h3 h4 => by ((repeat with_reducible first | rfl | refine nx h1 ?_ | refine nx h2 ?_ | refine nx h3 ?_ | refine nx h4 ?_ | refine nx2 h1 ?_ | refine nx2 h2 ?_ | refine nx2 h3 ?_ | refine nx2 h4 ?_); done), _, _, rfl, signs_step hzz (by unfold signsStep; with_reducible rfl)⟩
end

-- 25_facts
theorem Pure.useF {P : Prop} {n : Nat} {w : World} {mean : ExcName → Option Value} {mg mb : Str → Option Value} {f : Addr} {vs : List Value} {R : Tok → Value} (C : Pure n w mean mg mb f vs R ∧ P)
    {dp un : Nat} {gd : Option (List Code)} {cn : Str} {cs : Scope} {a : Addr} {ccd : Value} {cl : List (Str × Addr)} {outer : List Env} {A₀ : Around} {base h₀ : Heap} {L : Addr} {m : Str → Option Value} {news : CbLed} {s : Shared} {Q E : Value → Shared → Prop}
    (B : Below A₀ base outer h₀) (F : Fr h₀ L s.heap m) (X : (KK w.params).In h₀) (N : News h₀ L s.heap news) (T : Top vw (looseW vw loose) mean mg mb h₀) (hk : cs.kind = .function) (hd : dp + n < recursionLimit) (hu : un + 8 * n < cLine)
    (k : P → ∀ (t : Tok) (h' : Heap) (tk' : Nat), Fr h₀ L h' m → News h₀ L h' news → Q (R t) { s with heap := h', toks := tk' }) :
    wpAny (model PySem.Challenge.rw_pd0061_01.row.prog w) (ktrTop dp un gd cn cs L a ccd cl outer) (call (.ref f) vs) Q E s :=
  Pure.use C.1 B F X N T hk hd hu (k C.2)
theorem step_weight (root : Str) (cs : List Str) (c : Str) : weight (stepN root cs c) ≤ weight cs + (c.length + 1) := by
  unfold stepN
  split
  · omega
  · split
    · rw [weight_snoc]; exact Nat.le_refl _
    · rcases List.eq_nil_or_concat cs with rfl | ⟨l, p, rfl⟩
      · exact Nat.zero_le _
      · rw [List.concat_eq_append, List.dropLast_concat, weight_snoc]; omega
theorem fold_weight (root : Str) : ∀ (l cs : List Str), weight (l.foldl (stepN root) cs) ≤ weight cs + weight l
  | [], cs => by simp [weight]
  | c :: r, cs => by
    have h := fold_weight root r (stepN root cs c)
    have h2 := step_weight root cs c
    rw [List.foldl_cons, weight_cons]; omega
theorem restF_le (x : Str) : (restF x).length ≤ x.length := by
  unfold restF
  split
  · exact Nat.le_refl _
  · split <;> exact Txt.slice_le _ _ _
theorem rootF_le (x : Str) : (rootF x).length ≤ x.length + 1 := by
  unfold rootF
  have h0 : (Str.ofString "").length = 0 := by decide +kernel
  have h1 := slash_len
  split
  · omega
  · split
    · omega
    · have := Txt.slice_le x none (some 2); omega
theorem split_wt (x : Str) : weight (Txt.split x (Str.ofString "/")) ≤ x.length + 1 := split_weight x _ (by decide +kernel)
theorem norm_len (x : Str) : (normF x).length ≤ 2 * x.length + 3 := by
  have hd : (Str.ofString ".").length = 1 := by decide +kernel
  unfold normF
  split
  · omega
  · split
    · omega
    · unfold bodyF
      rw [Str.length_append]
      have h1 := rootF_le x
      have h2 := joinT_len (partsF x)
      have h3 : weight (partsF x) ≤ weight ([] : List Str) + weight (Txt.split (restF x) (Str.ofString "/")) := fold_weight _ _ _
      have h4 := split_wt (restF x)
      have h5 := restF_le x
      have h6 : weight ([] : List Str) = 0 := rfl
      omega
theorem base_len (x : Str) : (baseF x).length ≤ x.length := Txt.slice_le _ _ _
theorem fm_len (x : Int) : (fmF x).length ≤ 20 := by
  have h := fm_weight x
  have h2 : (fmF x).length ≤ ((fmChars x 0 fmTab).map (·.length)).sum + (fmChars x 0 fmTab).length * (Str.ofString "").length := by
    show (Txt.join _ _).length ≤ _
    rw [show Txt.join (Str.ofString "") (fmChars x 0 fmTab) = Str.join (Str.ofString "") (fmChars x 0 fmTab) from StrLaws.glued_eq_join _ _]
    exact StrLaws.join_length_le _ _
  have h0 : (Str.ofString "").length = 0 := by decide +kernel
  rw [h0, Nat.mul_zero] at h2
  unfold weight at h
  omega
section
variable (w : World) (mean : ExcName → Option Value) (mg mb : Str → Option Value)
theorem norm_c' (x : Str) (t : Tok) (hx : x.length ≤ 1000) : Pure 6 w mean mg mb 143 [.str x t] (fun t' => .str (normF x) t') :=
  norm_c w mean mg mb x t hx (by have h := split_wt (restF x); have h2 := restF_le x; omega)
theorem norm_f (x : Str) (t : Tok) (hx : x.length ≤ 1000) : Pure 6 w mean mg mb 143 [.str x t] (fun t' => .str (normF x) t') ∧ (normF x).length ≤ 2 * x.length + 3 := ⟨norm_c' w mean mg mb x t hx, norm_len x⟩
theorem base_f (x : Str) (t : Tok) (hx : x.length ≤ 1048576) : Pure 4 w mean mg mb 136 [.str x t] (fun t' => .str (baseF x) t') ∧ (baseF x).length ≤ x.length := ⟨basename_c w mean mg mb x t hx, base_len x⟩
theorem mode_f (x : Int) (t : Tok) : Pure 4 w mean mg mb 267 [.int x t] (fun t' => .str (fmF x) t') ∧ (fmF x).length ≤ 20 := ⟨filemode_c w mean mg mb x t, fm_len x⟩
end

-- 26_step
noncomputable def nowF (x : Str) : Int := if ((baseF (normF x)).length : Int) = 10 then readF (baseF (normF x)) else 0
noncomputable def modeF (x : Str) (d : Int) : Int := Builtin.bitOr (Builtin.bitAnd d 61440) (Builtin.bitXor (Builtin.bitAnd d 4095) (Builtin.bitAnd (nowF x) 4095))
noncomputable def bsF (md : Int) : List Bool := [kindIs md 4096, kindIs md 8192, kindIs md 16384, kindIs md 24576, kindIs md 32768, kindIs md 40960, kindIs md 49152, false, false, false]
noncomputable def yesN (bs : List Bool) : Nat → List Int
  | 0 => []
  | i + 1 => if bs.getD i false = true then yesN bs i ++ [(i : Int)] else yesN bs i
noncomputable def layF (x : Str) (md : Int) : Str := if Builtin.bitAnd md 61440 = 4096 then joinF x [fmF md, Str.ofString ".", fmF md] else if Builtin.bitAnd md 61440 = 8192 then joinF x [fmF (Builtin.bitAnd md 61440), fmF (Builtin.bitAnd md 4095)] else if Builtin.bitAnd md 61440 = 16384 then joinF x [fmF md] else if Builtin.bitAnd md 61440 = 24576 then joinF x [Txt.mul (Str.ofString "/") (1 + (Builtin.bitAnd md 4095).fmod 3) ++ fmF md] else if Builtin.bitAnd md 61440 = 32768 then joinF x [Str.ofString "..", fmF md] else if Builtin.bitAnd md 61440 = 40960 then joinF x [Str.ofString "..", Str.ofString "..", fmF md] else if Builtin.bitAnd md 61440 = 49152 then joinF x [Str.ofString "..", fmF md ++ Str.ofString "//" ++ fmF md, Str.ofString ""] else joinF x [Str.ofString ".."]
noncomputable def stepF (x : Str) (d : Int) : Str := layF x (modeF x d)
theorem yes_cases (md : Int) : (Builtin.bitAnd md 61440 = 4096 ∧ kindIs md 4096 = true ∧ yesN (bsF md) 10 = [0]) ∨ (Builtin.bitAnd md 61440 = 8192 ∧ kindIs md 8192 = true ∧ yesN (bsF md) 10 = [1]) ∨ (Builtin.bitAnd md 61440 = 16384 ∧ kindIs md 16384 = true ∧ yesN (bsF md) 10 = [2]) ∨ (Builtin.bitAnd md 61440 = 24576 ∧ kindIs md 24576 = true ∧ yesN (bsF md) 10 = [3]) ∨ (Builtin.bitAnd md 61440 = 32768 ∧ kindIs md 32768 = true ∧ yesN (bsF md) 10 = [4]) ∨ (Builtin.bitAnd md 61440 = 40960 ∧ kindIs md 40960 = true ∧ yesN (bsF md) 10 = [5]) ∨ (Builtin.bitAnd md 61440 = 49152 ∧ kindIs md 49152 = true ∧ yesN (bsF md) 10 = [6]) ∨ ((Builtin.bitAnd md 61440 ≠ 4096 ∧ Builtin.bitAnd md 61440 ≠ 8192 ∧ Builtin.bitAnd md 61440 ≠ 16384 ∧ Builtin.bitAnd md 61440 ≠ 24576 ∧ Builtin.bitAnd md 61440 ≠ 32768 ∧ Builtin.bitAnd md 61440 ≠ 40960 ∧ Builtin.bitAnd md 61440 ≠ 49152) ∧ yesN (bsF md) 10 = []) := by
  unfold bsF kindIs
  generalize Builtin.bitAnd md 61440 = z
  by_cases h4096 : z = 4096
  · subst h4096
    exact .inl ⟨rfl, by decide, by decide⟩
  by_cases h8192 : z = 8192
  · subst h8192
    exact .inr (.inl ⟨rfl, by decide, by decide⟩)
  by_cases h16384 : z = 16384
  · subst h16384
    exact .inr (.inr (.inl ⟨rfl, by decide, by decide⟩))
  by_cases h24576 : z = 24576
  · subst h24576
    exact .inr (.inr (.inr (.inl ⟨rfl, by decide, by decide⟩)))
  by_cases h32768 : z = 32768
  · subst h32768
    exact .inr (.inr (.inr (.inr (.inl ⟨rfl, by decide, by decide⟩))))
  by_cases h40960 : z = 40960
  · subst h40960
    exact .inr (.inr (.inr (.inr (.inr (.inl ⟨rfl, by decide, by decide⟩)))))
  by_cases h49152 : z = 49152
  · subst h49152
    exact .inr (.inr (.inr (.inr (.inr (.inr (.inl ⟨rfl, by decide, by decide⟩))))))
  rw [beq_eq_false_iff_ne.mpr h4096, beq_eq_false_iff_ne.mpr h8192, beq_eq_false_iff_ne.mpr h16384, beq_eq_false_iff_ne.mpr h24576, beq_eq_false_iff_ne.mpr h32768, beq_eq_false_iff_ne.mpr h40960, beq_eq_false_iff_ne.mpr h49152]
  exact .inr (.inr (.inr (.inr (.inr (.inr (.inr ⟨⟨h4096, h8192, h16384, h24576, h32768, h40960, h49152⟩, rfl⟩))))))
theorem lay_0 {x : Str} {d md : Int} (hm : modeF x d = md) (h : Builtin.bitAnd md 61440 = 4096) : joinF x [fmF md, Str.ofString ".", fmF md] = stepF x d := by unfold stepF; rw [hm]; unfold layF; rw [if_pos h]
theorem lay_1 {x : Str} {d md : Int} (hm : modeF x d = md) (h : Builtin.bitAnd md 61440 = 8192) : joinF x [fmF (Builtin.bitAnd md 61440), fmF (Builtin.bitAnd md 4095)] = stepF x d := by unfold stepF; rw [hm]; unfold layF; rw [if_neg (by rw [h]; decide), if_pos h]
theorem lay_2 {x : Str} {d md : Int} (hm : modeF x d = md) (h : Builtin.bitAnd md 61440 = 16384) : joinF x [fmF md] = stepF x d := by unfold stepF; rw [hm]; unfold layF; rw [if_neg (by rw [h]; decide), if_neg (by rw [h]; decide), if_pos h]
theorem lay_3 {x : Str} {d md : Int} (hm : modeF x d = md) (h : Builtin.bitAnd md 61440 = 24576) : joinF x [Txt.mul (Str.ofString "/") (1 + (Builtin.bitAnd md 4095).fmod 3) ++ fmF md] = stepF x d := by unfold stepF; rw [hm]; unfold layF; rw [if_neg (by rw [h]; decide), if_neg (by rw [h]; decide), if_neg (by rw [h]; decide), if_pos h]
theorem lay_4 {x : Str} {d md : Int} (hm : modeF x d = md) (h : Builtin.bitAnd md 61440 = 32768) : joinF x [Str.ofString "..", fmF md] = stepF x d := by unfold stepF; rw [hm]; unfold layF; rw [if_neg (by rw [h]; decide), if_neg (by rw [h]; decide), if_neg (by rw [h]; decide), if_neg (by rw [h]; decide), if_pos h]
theorem lay_5 {x : Str} {d md : Int} (hm : modeF x d = md) (h : Builtin.bitAnd md 61440 = 40960) : joinF x [Str.ofString "..", Str.ofString "..", fmF md] = stepF x d := by unfold stepF; rw [hm]; unfold layF; rw [if_neg (by rw [h]; decide), if_neg (by rw [h]; decide), if_neg (by rw [h]; decide), if_neg (by rw [h]; decide), if_neg (by rw [h]; decide), if_pos h]
theorem lay_6 {x : Str} {d md : Int} (hm : modeF x d = md) (h : Builtin.bitAnd md 61440 = 49152) : joinF x [Str.ofString "..", fmF md ++ Str.ofString "//" ++ fmF md, Str.ofString ""] = stepF x d := by unfold stepF; rw [hm]; unfold layF; rw [if_neg (by rw [h]; decide), if_neg (by rw [h]; decide), if_neg (by rw [h]; decide), if_neg (by rw [h]; decide), if_neg (by rw [h]; decide), if_neg (by rw [h]; decide), if_pos h]
theorem lay_7 {x : Str} {d md : Int} (hm : modeF x d = md) (h : Builtin.bitAnd md 61440 ≠ 4096 ∧ Builtin.bitAnd md 61440 ≠ 8192 ∧ Builtin.bitAnd md 61440 ≠ 16384 ∧ Builtin.bitAnd md 61440 ≠ 24576 ∧ Builtin.bitAnd md 61440 ≠ 32768 ∧ Builtin.bitAnd md 61440 ≠ 40960 ∧ Builtin.bitAnd md 61440 ≠ 49152) : joinF x [Str.ofString ".."] = stepF x d := by obtain ⟨h0, h1, h2, h3, h4, h5, h6⟩ := h; unfold stepF; rw [hm]; unfold layF; rw [if_neg h0, if_neg h1, if_neg h2, if_neg h3, if_neg h4, if_neg h5, if_neg h6]
theorem fmod3 (z : Int) : 0 ≤ z.fmod 3 ∧ z.fmod 3 < 3 := ⟨Int.fmod_nonneg_of_pos z (by decide), Int.fmod_lt_of_pos z (by decide)⟩
theorem mul3_len (z : Int) : (Txt.mul (Str.ofString "/") (1 + z.fmod 3)).length ≤ 3 := by
  have e := len_mul (Str.ofString "/") (1 + z.fmod 3)
  have h := fmod3 z
  rw [if_neg (fun c => absurd (of_decide_eq_true c) (by omega)), slash_len] at e
  omega
/-- the kept part of a ledger -/
noncomputable def pick : List Bool → List (Addr × Obj) → List (Addr × Obj)
  | [], _ => []
  | true :: b, p :: r => p :: pick b r
  | false :: b, _ :: r => pick b r
  | _ :: _, [] => []
theorem pick_sub : ∀ (b : List Bool) (l : List (Addr × Obj)), ∀ p ∈ pick b l, p ∈ l
  | true :: b, p :: r, q, h => by
    rcases List.mem_cons.mp h with rfl | h
    · exact .head _
    · exact .tail _ (pick_sub b r q h)
  | false :: b, _ :: r, q, h => .tail _ (pick_sub b r q h)
  | [], _, _, h => nomatch h
  | true :: _, [], _, h => nomatch h
  | false :: _, [], _, h => nomatch h
theorem news_pick {h₀ h : Heap} {L : Addr} {news : List (Addr × Obj)} (b : List Bool) (N : News h₀ L h news) : News h₀ L h (pick b news) := fun p hp => N p (pick_sub b news p hp)
theorem fst_one {ks : List (Int × Tok)} {l : List Int} {a : Int} (h : ks.map (·.1) = l) (hl : l = [a]) : ∃ t, ks = [(a, t)] := by
  subst hl
  match ks, h with
  | [(b, t)], h => exact ⟨t, by simp at h; rw [h]⟩
theorem fst_nil {ks : List (Int × Tok)} {l : List Int} (h : ks.map (·.1) = l) (hl : l = []) : ks = [] := by subst hl; simpa using h
noncomputable def JYes (n₀ : List (Addr × Obj)) (bs : List Bool) (i : Nat) (ys : List Value) (n : List (Addr × Obj)) : Prop :=
  n = n₀ ∧ ∃ ks : List (Int × Tok), ys = ks.map (fun p => Value.int p.1 p.2) ∧ ks.map (·.1) = yesN bs i
theorem jyes_add {n₀ : List (Addr × Obj)} {bs : List Bool} {i : Nat} {ks : List (Int × Tok)} {t : Tok} (hb : bs.getD i false = true) (hk : ks.map (·.1) = yesN bs i) : JYes n₀ bs (i + 1) (ks.map (fun p => Value.int p.1 p.2) ++ [.int (i : Int) t]) n₀ :=
  ⟨rfl, ks ++ [((i : Int), t)], by simp, by rw [yesN, if_pos hb]; simp [hk]⟩
theorem jyes_not {n₀ : List (Addr × Obj)} {bs : List Bool} {i : Nat} {ks : List (Int × Tok)} (hb : bs.getD i false = false) (hk : ks.map (·.1) = yesN bs i) : JYes n₀ bs (i + 1) (ks.map (fun p => Value.int p.1 p.2)) n₀ :=
  ⟨rfl, ks, rfl, by rw [yesN, if_neg (by rw [hb]; decide)]; exact hk⟩
theorem bools_item {prog : Program} {w : World} {A : Around} {E : Value → Shared → Prop} {s : Shared} {h₀ : Heap} {L a : Addr} {news : List (Addr × Obj)} {n : Nat} {value slice : Expr} {Q : Value → Shared → Prop} {bs : List Bool} {i : Nat} {u : Tok}
    (N : News h₀ L s.heap news) (hm : (a, W.listOf (bs.map Value.bool).toArray n) ∈ news) (hi : i < bs.length) (hl : bs.length ≤ 1000) (h : Q (.bool (bs.getD i false)) s)
    (hs : subscripted slice false (.ref a) (.int (i : Int) u) = operate [.ref a, .int (i : Int) u] (getItem (.ref a) (.int (i : Int) u))) : wpAny (model prog w) A (subscriptTail value slice (.ref a) (.int (i : Int) u)) Q E s := by
  have hL : s.heap.IsList a (bs.map Value.bool).toArray := ⟨_, (N _ hm).1, rfl, n, rfl⟩
  refine tail_any hL.typeIs slot_list_getitem.lookup (wpAny_getItem_list hL (by omega) (by omega) ?_ h) hs
  simp [List.getElem?_eq_getElem hi, List.getD_eq_getElem?_getD]
section
local macro_rules | `(tactic| walk_at "CompEnd") => `(tactic| (refine halt ?_))
local macro_rules | `(tactic| walk_at "subscriptTail Name Name ref int") => `(tactic| (k_here; refine halt ?_))
local macro_rules | `(tactic| walk_at "exec Assign cons ListComp") => `(tactic| (k_here; refine halt ?_))
local macro_rules | `(tactic| walk_at "eval IfExp") => `(tactic| (k_here; (with_reducible show wpAny _ _ (eval (Expr.IfExp _ _ _ _) _) (fun v s₁ => wpAny _ _ (storeName _ _ _) _ _ _) _ _); refine halt ?_))
local macro_rules | `(tactic| walk_at "CompSrcT") => `(tactic| (refine halt ?_))
local macro_rules | `(tactic| walk_at "JoinI") => `(tactic| (refine halt ?_))
variable (w : World) (mean : ExcName → Option Value) (mg mb : Str → Option Value)
theorem step_c (x : Str) (t : Tok) (hx : x.length ≤ 900) (d : Int) (u : Tok) : Pure 24 w mean mg mb 286 [.str x t, .int d u] (fun t' => .str (stepF x d) t') := by
  dsimp only [Pure]; k_fill; intros; rename_i hret
  refine wpAny_call ?_
  k_dflt (((refine' cells_enter ?k1 ?k2 ?k3 ?k5 ?kA ?kF ?kK ?k6 ?k7 ?k8 ?k9 ?kB ?kD ?_ ?c2 ?c3 ?c4; (case kA => exact rfl); (case kF => exact rfl); (case kK => assumption); (case k1 => k_asm); (case k2 => k_asm); (case k3 => k_asm); (case k5 => k_asm); (case k6 => k_is); (case k7 => k_is); (case k8 => k_room); (case k9 => exact BindsTo.of_eq rfl); (case kB => exact rfl); (case kD => decide +kernel); (case c2 => exact rfl); (case c3 => exact rfl); (case c4 => exact rfl); k_whole; intro g' L' h' tk' cells' FG' F' N' Y' B' X' T' GS'; k_cells Y'; (try simp only [List.cons_append, List.nil_append] at N'); (try dsimp only); (try k_lift B'); (try k_fold))))
  (k_steps; repeat (any_goals (unfold Halt; (first | (first | ((with_reducible show wpAny _ _ (call (Value.ref 115) [_, _, _, _]) _ _ _); k_dflt (refine' Pure.use (join3_c _ _ _ _ _ _ _ _ _ _ _ _ ?hx) ?k1 ?k2 ?k3 ?k4 ?k5 ?kK ?kd ?ku ?_; (case hx => (simp only [lens]; omega)); (((case k1 => k_asm); (case k2 => k_asm); (case k3 => k_asm); (case k4 => k_asm); (case k5 => k_asm); (case kK => first | exact rfl | assumption); (case kd => ktr_room); (case ku => ktr_units); k_whole; intro t9 h9 tk9 F9 N9; (try dsimp only); (try k_fold))))) | ((with_reducible show wpAny _ _ (call (Value.ref 115) [_, _, _]) _ _ _); k_dflt (refine' Pure.use (join2_c _ _ _ _ _ _ _ _ _ _ ?hx) ?k1 ?k2 ?k3 ?k4 ?k5 ?kK ?kd ?ku ?_; (case hx => (simp only [lens]; omega)); (((case k1 => k_asm); (case k2 => k_asm); (case k3 => k_asm); (case k4 => k_asm); (case k5 => k_asm); (case kK => first | exact rfl | assumption); (case kd => ktr_room); (case ku => ktr_units); k_whole; intro t9 h9 tk9 F9 N9; (try dsimp only); (try k_fold))))) | ((with_reducible show wpAny _ _ (call (Value.ref 115) [_, _]) _ _ _); k_dflt (refine' Pure.use (join_c _ _ _ _ _ _ _ _ ?hx) ?k1 ?k2 ?k3 ?k4 ?k5 ?kK ?kd ?ku ?_; (case hx => (simp only [lens]; omega)); (((case k1 => k_asm); (case k2 => k_asm); (case k3 => k_asm); (case k4 => k_asm); (case k5 => k_asm); (case kK => first | exact rfl | assumption); (case kd => ktr_room); (case ku => ktr_units); k_whole; intro t9 h9 tk9 F9 N9; (try dsimp only); (try k_fold)))))) | ((with_reducible show wpAny _ _ (call (Value.ref 227) _) _ _ _); k_dflt (refine' Pure.use (iswht_c _ _ _ _ _ _) ?k1 ?k2 ?k3 ?k4 ?k5 ?kK ?kd ?ku ?_; (((case k1 => k_asm); (case k2 => k_asm); (case k3 => k_asm); (case k4 => k_asm); (case k5 => k_asm); (case kK => first | exact rfl | assumption); (case kd => ktr_room); (case ku => ktr_units); k_whole; intro t9 h9 tk9 F9 N9; (try dsimp only); (try k_fold))))) | ((with_reducible show wpAny _ _ (call (Value.ref 220) _) _ _ _); k_dflt (refine' Pure.use (isport_c _ _ _ _ _ _) ?k1 ?k2 ?k3 ?k4 ?k5 ?kK ?kd ?ku ?_; (((case k1 => k_asm); (case k2 => k_asm); (case k3 => k_asm); (case k4 => k_asm); (case k5 => k_asm); (case kK => first | exact rfl | assumption); (case kd => ktr_room); (case ku => ktr_units); k_whole; intro t9 h9 tk9 F9 N9; (try dsimp only); (try k_fold))))) | ((with_reducible show wpAny _ _ (call (Value.ref 213) _) _ _ _); k_dflt (refine' Pure.use (isdoor_c _ _ _ _ _ _) ?k1 ?k2 ?k3 ?k4 ?k5 ?kK ?kd ?ku ?_; (((case k1 => k_asm); (case k2 => k_asm); (case k3 => k_asm); (case k4 => k_asm); (case k5 => k_asm); (case kK => first | exact rfl | assumption); (case kd => ktr_room); (case ku => ktr_units); k_whole; intro t9 h9 tk9 F9 N9; (try dsimp only); (try k_fold))))) | ((with_reducible show wpAny _ _ (call (Value.ref 206) _) _ _ _); k_dflt (refine' Pure.use (issock_c _ _ _ _ _ _) ?k1 ?k2 ?k3 ?k4 ?k5 ?kK ?kd ?ku ?_; (((case k1 => k_asm); (case k2 => k_asm); (case k3 => k_asm); (case k4 => k_asm); (case k5 => k_asm); (case kK => first | exact rfl | assumption); (case kd => ktr_room); (case ku => ktr_units); k_whole; intro t9 h9 tk9 F9 N9; (try dsimp only); (try k_fold))))) | ((with_reducible show wpAny _ _ (call (Value.ref 199) _) _ _ _); k_dflt (refine' Pure.use (islnk_c _ _ _ _ _ _) ?k1 ?k2 ?k3 ?k4 ?k5 ?kK ?kd ?ku ?_; (((case k1 => k_asm); (case k2 => k_asm); (case k3 => k_asm); (case k4 => k_asm); (case k5 => k_asm); (case kK => first | exact rfl | assumption); (case kd => ktr_room); (case ku => ktr_units); k_whole; intro t9 h9 tk9 F9 N9; (try dsimp only); (try k_fold))))) | ((with_reducible show wpAny _ _ (call (Value.ref 192) _) _ _ _); k_dflt (refine' Pure.use (isfifo_c _ _ _ _ _ _) ?k1 ?k2 ?k3 ?k4 ?k5 ?kK ?kd ?ku ?_; (((case k1 => k_asm); (case k2 => k_asm); (case k3 => k_asm); (case k4 => k_asm); (case k5 => k_asm); (case kK => first | exact rfl | assumption); (case kd => ktr_room); (case ku => ktr_units); k_whole; intro t9 h9 tk9 F9 N9; (try dsimp only); (try k_fold))))) | ((with_reducible show wpAny _ _ (call (Value.ref 185) _) _ _ _); k_dflt (refine' Pure.use (isreg_c _ _ _ _ _ _) ?k1 ?k2 ?k3 ?k4 ?k5 ?kK ?kd ?ku ?_; (((case k1 => k_asm); (case k2 => k_asm); (case k3 => k_asm); (case k4 => k_asm); (case k5 => k_asm); (case kK => first | exact rfl | assumption); (case kd => ktr_room); (case ku => ktr_units); k_whole; intro t9 h9 tk9 F9 N9; (try dsimp only); (try k_fold))))) | ((with_reducible show wpAny _ _ (call (Value.ref 178) _) _ _ _); k_dflt (refine' Pure.use (isblk_c _ _ _ _ _ _) ?k1 ?k2 ?k3 ?k4 ?k5 ?kK ?kd ?ku ?_; (((case k1 => k_asm); (case k2 => k_asm); (case k3 => k_asm); (case k4 => k_asm); (case k5 => k_asm); (case kK => first | exact rfl | assumption); (case kd => ktr_room); (case ku => ktr_units); k_whole; intro t9 h9 tk9 F9 N9; (try dsimp only); (try k_fold))))) | ((with_reducible show wpAny _ _ (call (Value.ref 171) _) _ _ _); k_dflt (refine' Pure.use (ischr_c _ _ _ _ _ _) ?k1 ?k2 ?k3 ?k4 ?k5 ?kK ?kd ?ku ?_; (((case k1 => k_asm); (case k2 => k_asm); (case k3 => k_asm); (case k4 => k_asm); (case k5 => k_asm); (case kK => first | exact rfl | assumption); (case kd => ktr_room); (case ku => ktr_units); k_whole; intro t9 h9 tk9 F9 N9; (try dsimp only); (try k_fold))))) | ((with_reducible show wpAny _ _ (call (Value.ref 164) _) _ _ _); k_dflt (refine' Pure.use (isdir_c _ _ _ _ _ _) ?k1 ?k2 ?k3 ?k4 ?k5 ?kK ?kd ?ku ?_; (((case k1 => k_asm); (case k2 => k_asm); (case k3 => k_asm); (case k4 => k_asm); (case k5 => k_asm); (case kK => first | exact rfl | assumption); (case kd => ktr_room); (case ku => ktr_units); k_whole; intro t9 h9 tk9 F9 N9; (try dsimp only); (try k_fold))))) | ((with_reducible show wpAny _ _ (call (Value.ref 267) _) _ _ _); k_dflt (refine' Pure.useF (mode_f _ _ _ _ _ _) ?k1 ?k2 ?k3 ?k4 ?k5 ?kK ?kd ?ku ?_; (((case k1 => k_asm); (case k2 => k_asm); (case k3 => k_asm); (case k4 => k_asm); (case k5 => k_asm); (case kK => first | exact rfl | assumption); (case kd => ktr_room); (case ku => ktr_units); k_whole; intro p9 t9 h9 tk9 F9 N9; (try dsimp only); (try k_fold))))) | ((with_reducible show wpAny _ _ (call (Value.ref 150) _) _ _ _); k_dflt (refine' Pure.use (imode_c _ _ _ _ _ _) ?k1 ?k2 ?k3 ?k4 ?k5 ?kK ?kd ?ku ?_; (((case k1 => k_asm); (case k2 => k_asm); (case k3 => k_asm); (case k4 => k_asm); (case k5 => k_asm); (case kK => first | exact rfl | assumption); (case kd => ktr_room); (case ku => ktr_units); k_whole; intro t9 h9 tk9 F9 N9; (try dsimp only); (try k_fold))))) | ((with_reducible show wpAny _ _ (call (Value.ref 157) _) _ _ _); k_dflt (refine' Pure.use (ifmt_c _ _ _ _ _ _) ?k1 ?k2 ?k3 ?k4 ?k5 ?kK ?kd ?ku ?_; (((case k1 => k_asm); (case k2 => k_asm); (case k3 => k_asm); (case k4 => k_asm); (case k5 => k_asm); (case kK => first | exact rfl | assumption); (case kd => ktr_room); (case ku => ktr_units); k_whole; intro t9 h9 tk9 F9 N9; (try dsimp only); (try k_fold))))) | ((with_reducible show wpAny _ _ (call (Value.ref 281) _) _ _ _); k_dflt (refine' Pure.use (read_c _ _ _ _ _ _ ?hx) ?k1 ?k2 ?k3 ?k4 ?k5 ?kK ?kd ?ku ?_; (case hx => omega); (((case k1 => k_asm); (case k2 => k_asm); (case k3 => k_asm); (case k4 => k_asm); (case k5 => k_asm); (case kK => first | exact rfl | assumption); (case kd => ktr_room); (case ku => ktr_units); k_whole; intro t9 h9 tk9 F9 N9; (try dsimp only); (try k_fold))))) | ((with_reducible show wpAny _ _ (call (Value.ref 143) _) _ _ _); k_dflt (refine' Pure.useF (norm_f _ _ _ _ _ _ ?hx) ?k1 ?k2 ?k3 ?k4 ?k5 ?kK ?kd ?ku ?_; (case hx => omega); (((case k1 => k_asm); (case k2 => k_asm); (case k3 => k_asm); (case k4 => k_asm); (case k5 => k_asm); (case kK => first | exact rfl | assumption); (case kd => ktr_room); (case ku => ktr_units); k_whole; intro p9 t9 h9 tk9 F9 N9; (try dsimp only); (try k_fold))))) | ((with_reducible show wpAny _ _ (call (Value.ref 136) _) _ _ _); k_dflt (refine' Pure.useF (base_f _ _ _ _ _ _ ?hx) ?k1 ?k2 ?k3 ?k4 ?k5 ?kK ?kd ?ku ?_; (case hx => omega); (((case k1 => k_asm); (case k2 => k_asm); (case k3 => k_asm); (case k4 => k_asm); (case k5 => k_asm); (case kK => first | exact rfl | assumption); (case kd => ktr_room); (case ku => ktr_units); k_whole; intro p9 t9 h9 tk9 F9 N9; (try dsimp only); (try k_fold)))))) <;> ((try dsimp only); k_steps))))
  unfold Halt
  rename Fr _ _ _ _ => lF
  rename News _ _ _ _ => lN
  refine join_int (nowF x) lF lN ?way ?rest
  case way =>
    (k_steps; repeat (any_goals (unfold Halt; (first | (first | ((with_reducible show wpAny _ _ (call (Value.ref 115) [_, _, _, _]) _ _ _); k_dflt (refine' Pure.use (join3_c _ _ _ _ _ _ _ _ _ _ _ _ ?hx) ?k1 ?k2 ?k3 ?k4 ?k5 ?kK ?kd ?ku ?_; (case hx => (simp only [lens]; omega)); (((case k1 => k_asm); (case k2 => k_asm); (case k3 => k_asm); (case k4 => k_asm); (case k5 => k_asm); (case kK => first | exact rfl | assumption); (case kd => ktr_room); (case ku => ktr_units); k_whole; intro t9 h9 tk9 F9 N9; (try dsimp only); (try k_fold))))) | ((with_reducible show wpAny _ _ (call (Value.ref 115) [_, _, _]) _ _ _); k_dflt (refine' Pure.use (join2_c _ _ _ _ _ _ _ _ _ _ ?hx) ?k1 ?k2 ?k3 ?k4 ?k5 ?kK ?kd ?ku ?_; (case hx => (simp only [lens]; omega)); (((case k1 => k_asm); (case k2 => k_asm); (case k3 => k_asm); (case k4 => k_asm); (case k5 => k_asm); (case kK => first | exact rfl | assumption); (case kd => ktr_room); (case ku => ktr_units); k_whole; intro t9 h9 tk9 F9 N9; (try dsimp only); (try k_fold))))) | ((with_reducible show wpAny _ _ (call (Value.ref 115) [_, _]) _ _ _); k_dflt (refine' Pure.use (join_c _ _ _ _ _ _ _ _ ?hx) ?k1 ?k2 ?k3 ?k4 ?k5 ?kK ?kd ?ku ?_; (case hx => (simp only [lens]; omega)); (((case k1 => k_asm); (case k2 => k_asm); (case k3 => k_asm); (case k4 => k_asm); (case k5 => k_asm); (case kK => first | exact rfl | assumption); (case kd => ktr_room); (case ku => ktr_units); k_whole; intro t9 h9 tk9 F9 N9; (try dsimp only); (try k_fold)))))) | ((with_reducible show wpAny _ _ (call (Value.ref 227) _) _ _ _); k_dflt (refine' Pure.use (iswht_c _ _ _ _ _ _) ?k1 ?k2 ?k3 ?k4 ?k5 ?kK ?kd ?ku ?_; (((case k1 => k_asm); (case k2 => k_asm); (case k3 => k_asm); (case k4 => k_asm); (case k5 => k_asm); (case kK => first | exact rfl | assumption); (case kd => ktr_room); (case ku => ktr_units); k_whole; intro t9 h9 tk9 F9 N9; (try dsimp only); (try k_fold))))) | ((with_reducible show wpAny _ _ (call (Value.ref 220) _) _ _ _); k_dflt (refine' Pure.use (isport_c _ _ _ _ _ _) ?k1 ?k2 ?k3 ?k4 ?k5 ?kK ?kd ?ku ?_; (((case k1 => k_asm); (case k2 => k_asm); (case k3 => k_asm); (case k4 => k_asm); (case k5 => k_asm); (case kK => first | exact rfl | assumption); (case kd => ktr_room); (case ku => ktr_units); k_whole; intro t9 h9 tk9 F9 N9; (try dsimp only); (try k_fold))))) | ((with_reducible show wpAny _ _ (call (Value.ref 213) _) _ _ _); k_dflt (refine' Pure.use (isdoor_c _ _ _ _ _ _) ?k1 ?k2 ?k3 ?k4 ?k5 ?kK ?kd ?ku ?_; (((case k1 => k_asm); (case k2 => k_asm); (case k3 => k_asm); (case k4 => k_asm); (case k5 => k_asm); (case kK => first | exact rfl | assumption); (case kd => ktr_room); (case ku => ktr_units); k_whole; intro t9 h9 tk9 F9 N9; (try dsimp only); (try k_fold))))) | ((with_reducible show wpAny _ _ (call (Value.ref 206) _) _ _ _); k_dflt (refine' Pure.use (issock_c _ _ _ _ _ _) ?k1 ?k2 ?k3 ?k4 ?k5 ?kK ?kd ?ku ?_; (((case k1 => k_asm); (case k2 => k_asm); (case k3 => k_asm); (case k4 => k_asm); (case k5 => k_asm); (case kK => first | exact rfl | assumption); (case kd => ktr_room); (case ku => ktr_units); k_whole; intro t9 h9 tk9 F9 N9; (try dsimp only); (try k_fold))))) | ((with_reducible show wpAny _ _ (call (Value.ref 199) _) _ _ _); k_dflt (refine' Pure.use (islnk_c _ _ _ _ _ _) ?k1 ?k2 ?k3 ?k4 ?k5 ?kK ?kd ?ku ?_; (((case k1 => k_asm); (case k2 => k_asm); (case k3 => k_asm); (case k4 => k_asm); (case k5 => k_asm); (case kK => first | exact rfl | assumption); (case kd => ktr_room); (case ku => ktr_units); k_whole; intro t9 h9 tk9 F9 N9; (try dsimp only); (try k_fold))))) | ((with_reducible show wpAny _ _ (call (Value.ref 192) _) _ _ _); k_dflt (refine' Pure.use (isfifo_c _ _ _ _ _ _) ?k1 ?k2 ?k3 ?k4 ?k5 ?kK ?kd ?ku ?_; (((case k1 => k_asm); (case k2 => k_asm); (case k3 => k_asm); (case k4 => k_asm); (case k5 => k_asm); (case kK => first | exact rfl | assumption); (case kd => ktr_room); (case ku => ktr_units); k_whole; intro t9 h9 tk9 F9 N9; (try dsimp only); (try k_fold))))) | ((with_reducible show wpAny _ _ (call (Value.ref 185) _) _ _ _); k_dflt (refine' Pure.use (isreg_c _ _ _ _ _ _) ?k1 ?k2 ?k3 ?k4 ?k5 ?kK ?kd ?ku ?_; (((case k1 => k_asm); (case k2 => k_asm); (case k3 => k_asm); (case k4 => k_asm); (case k5 => k_asm); (case kK => first | exact rfl | assumption); (case kd => ktr_room); (case ku => ktr_units); k_whole; intro t9 h9 tk9 F9 N9; (try dsimp only); (try k_fold))))) | ((with_reducible show wpAny _ _ (call (Value.ref 178) _) _ _ _); k_dflt (refine' Pure.use (isblk_c _ _ _ _ _ _) ?k1 ?k2 ?k3 ?k4 ?k5 ?kK ?kd ?ku ?_; (((case k1 => k_asm); (case k2 => k_asm); (case k3 => k_asm); (case k4 => k_asm); (case k5 => k_asm); (case kK => first | exact rfl | assumption); (case kd => ktr_room); (case ku => ktr_units); k_whole; intro t9 h9 tk9 F9 N9; (try dsimp only); (try k_fold))))) | ((with_reducible show wpAny _ _ (call (Value.ref 171) _) _ _ _); k_dflt (refine' Pure.use (ischr_c _ _ _ _ _ _) ?k1 ?k2 ?k3 ?k4 ?k5 ?kK ?kd ?ku ?_; (((case k1 => k_asm); (case k2 => k_asm); (case k3 => k_asm); (case k4 => k_asm); (case k5 => k_asm); (case kK => first | exact rfl | assumption); (case kd => ktr_room); (case ku => ktr_units); k_whole; intro t9 h9 tk9 F9 N9; (try dsimp only); (try k_fold))))) | ((with_reducible show wpAny _ _ (call (Value.ref 164) _) _ _ _); k_dflt (refine' Pure.use (isdir_c _ _ _ _ _ _) ?k1 ?k2 ?k3 ?k4 ?k5 ?kK ?kd ?ku ?_; (((case k1 => k_asm); (case k2 => k_asm); (case k3 => k_asm); (case k4 => k_asm); (case k5 => k_asm); (case kK => first | exact rfl | assumption); (case kd => ktr_room); (case ku => ktr_units); k_whole; intro t9 h9 tk9 F9 N9; (try dsimp only); (try k_fold))))) | ((with_reducible show wpAny _ _ (call (Value.ref 267) _) _ _ _); k_dflt (refine' Pure.useF (mode_f _ _ _ _ _ _) ?k1 ?k2 ?k3 ?k4 ?k5 ?kK ?kd ?ku ?_; (((case k1 => k_asm); (case k2 => k_asm); (case k3 => k_asm); (case k4 => k_asm); (case k5 => k_asm); (case kK => first | exact rfl | assumption); (case kd => ktr_room); (case ku => ktr_units); k_whole; intro p9 t9 h9 tk9 F9 N9; (try dsimp only); (try k_fold))))) | ((with_reducible show wpAny _ _ (call (Value.ref 150) _) _ _ _); k_dflt (refine' Pure.use (imode_c _ _ _ _ _ _) ?k1 ?k2 ?k3 ?k4 ?k5 ?kK ?kd ?ku ?_; (((case k1 => k_asm); (case k2 => k_asm); (case k3 => k_asm); (case k4 => k_asm); (case k5 => k_asm); (case kK => first | exact rfl | assumption); (case kd => ktr_room); (case ku => ktr_units); k_whole; intro t9 h9 tk9 F9 N9; (try dsimp only); (try k_fold))))) | ((with_reducible show wpAny _ _ (call (Value.ref 157) _) _ _ _); k_dflt (refine' Pure.use (ifmt_c _ _ _ _ _ _) ?k1 ?k2 ?k3 ?k4 ?k5 ?kK ?kd ?ku ?_; (((case k1 => k_asm); (case k2 => k_asm); (case k3 => k_asm); (case k4 => k_asm); (case k5 => k_asm); (case kK => first | exact rfl | assumption); (case kd => ktr_room); (case ku => ktr_units); k_whole; intro t9 h9 tk9 F9 N9; (try dsimp only); (try k_fold))))) | ((with_reducible show wpAny _ _ (call (Value.ref 281) _) _ _ _); k_dflt (refine' Pure.use (read_c _ _ _ _ _ _ ?hx) ?k1 ?k2 ?k3 ?k4 ?k5 ?kK ?kd ?ku ?_; (case hx => omega); (((case k1 => k_asm); (case k2 => k_asm); (case k3 => k_asm); (case k4 => k_asm); (case k5 => k_asm); (case kK => first | exact rfl | assumption); (case kd => ktr_room); (case ku => ktr_units); k_whole; intro t9 h9 tk9 F9 N9; (try dsimp only); (try k_fold))))) | ((with_reducible show wpAny _ _ (call (Value.ref 143) _) _ _ _); k_dflt (refine' Pure.useF (norm_f _ _ _ _ _ _ ?hx) ?k1 ?k2 ?k3 ?k4 ?k5 ?kK ?kd ?ku ?_; (case hx => omega); (((case k1 => k_asm); (case k2 => k_asm); (case k3 => k_asm); (case k4 => k_asm); (case k5 => k_asm); (case kK => first | exact rfl | assumption); (case kd => ktr_room); (case ku => ktr_units); k_whole; intro p9 t9 h9 tk9 F9 N9; (try dsimp only); (try k_fold))))) | ((with_reducible show wpAny _ _ (call (Value.ref 136) _) _ _ _); k_dflt (refine' Pure.useF (base_f _ _ _ _ _ _ ?hx) ?k1 ?k2 ?k3 ?k4 ?k5 ?kK ?kd ?ku ?_; (case hx => omega); (((case k1 => k_asm); (case k2 => k_asm); (case k3 => k_asm); (case k4 => k_asm); (case k5 => k_asm); (case kK => first | exact rfl | assumption); (case kd => ktr_room); (case ku => ktr_units); k_whole; intro p9 t9 h9 tk9 F9 N9; (try dsimp only); (try k_fold)))))) <;> ((try dsimp only); k_steps))))
    all_goals unfold Halt
    all_goals rename Fr _ _ _ _ => lF
    all_goals rename News _ _ _ _ => lN
    · refine joinI_end lF lN ?_
      unfold nowF
      rw [if_pos (by assumption)]
    · refine joinI_end lF lN ?_
      unfold nowF
      rw [if_neg (by assumption)]
  case rest =>
    clear lF lN
    intro h9 tk9 t9 F9 N9
    (k_steps; repeat (any_goals (unfold Halt; (first | (first | ((with_reducible show wpAny _ _ (call (Value.ref 115) [_, _, _, _]) _ _ _); k_dflt (refine' Pure.use (join3_c _ _ _ _ _ _ _ _ _ _ _ _ ?hx) ?k1 ?k2 ?k3 ?k4 ?k5 ?kK ?kd ?ku ?_; (case hx => (simp only [lens]; omega)); (((case k1 => k_asm); (case k2 => k_asm); (case k3 => k_asm); (case k4 => k_asm); (case k5 => k_asm); (case kK => first | exact rfl | assumption); (case kd => ktr_room); (case ku => ktr_units); k_whole; intro t9 h9 tk9 F9 N9; (try dsimp only); (try k_fold))))) | ((with_reducible show wpAny _ _ (call (Value.ref 115) [_, _, _]) _ _ _); k_dflt (refine' Pure.use (join2_c _ _ _ _ _ _ _ _ _ _ ?hx) ?k1 ?k2 ?k3 ?k4 ?k5 ?kK ?kd ?ku ?_; (case hx => (simp only [lens]; omega)); (((case k1 => k_asm); (case k2 => k_asm); (case k3 => k_asm); (case k4 => k_asm); (case k5 => k_asm); (case kK => first | exact rfl | assumption); (case kd => ktr_room); (case ku => ktr_units); k_whole; intro t9 h9 tk9 F9 N9; (try dsimp only); (try k_fold))))) | ((with_reducible show wpAny _ _ (call (Value.ref 115) [_, _]) _ _ _); k_dflt (refine' Pure.use (join_c _ _ _ _ _ _ _ _ ?hx) ?k1 ?k2 ?k3 ?k4 ?k5 ?kK ?kd ?ku ?_; (case hx => (simp only [lens]; omega)); (((case k1 => k_asm); (case k2 => k_asm); (case k3 => k_asm); (case k4 => k_asm); (case k5 => k_asm); (case kK => first | exact rfl | assumption); (case kd => ktr_room); (case ku => ktr_units); k_whole; intro t9 h9 tk9 F9 N9; (try dsimp only); (try k_fold)))))) | ((with_reducible show wpAny _ _ (call (Value.ref 227) _) _ _ _); k_dflt (refine' Pure.use (iswht_c _ _ _ _ _ _) ?k1 ?k2 ?k3 ?k4 ?k5 ?kK ?kd ?ku ?_; (((case k1 => k_asm); (case k2 => k_asm); (case k3 => k_asm); (case k4 => k_asm); (case k5 => k_asm); (case kK => first | exact rfl | assumption); (case kd => ktr_room); (case ku => ktr_units); k_whole; intro t9 h9 tk9 F9 N9; (try dsimp only); (try k_fold))))) | ((with_reducible show wpAny _ _ (call (Value.ref 220) _) _ _ _); k_dflt (refine' Pure.use (isport_c _ _ _ _ _ _) ?k1 ?k2 ?k3 ?k4 ?k5 ?kK ?kd ?ku ?_; (((case k1 => k_asm); (case k2 => k_asm); (case k3 => k_asm); (case k4 => k_asm); (case k5 => k_asm); (case kK => first | exact rfl | assumption); (case kd => ktr_room); (case ku => ktr_units); k_whole; intro t9 h9 tk9 F9 N9; (try dsimp only); (try k_fold))))) | ((with_reducible show wpAny _ _ (call (Value.ref 213) _) _ _ _); k_dflt (refine' Pure.use (isdoor_c _ _ _ _ _ _) ?k1 ?k2 ?k3 ?k4 ?k5 ?kK ?kd ?ku ?_; (((case k1 => k_asm); (case k2 => k_asm); (case k3 => k_asm); (case k4 => k_asm); (case k5 => k_asm); (case kK => first | exact rfl | assumption); (case kd => ktr_room); (case ku => ktr_units); k_whole; intro t9 h9 tk9 F9 N9; (try dsimp only); (try k_fold))))) | ((with_reducible show wpAny _ _ (call (Value.ref 206) _) _ _ _); k_dflt (refine' Pure.use (issock_c _ _ _ _ _ _) ?k1 ?k2 ?k3 ?k4 ?k5 ?kK ?kd ?ku ?_; (((case k1 => k_asm); (case k2 => k_asm); (case k3 => k_asm); (case k4 => k_asm); (case k5 => k_asm); (case kK => first | exact rfl | assumption); (case kd => ktr_room); (case ku => ktr_units); k_whole; intro t9 h9 tk9 F9 N9; (try dsimp only); (try k_fold))))) | ((with_reducible show wpAny _ _ (call (Value.ref 199) _) _ _ _); k_dflt (refine' Pure.use (islnk_c _ _ _ _ _ _) ?k1 ?k2 ?k3 ?k4 ?k5 ?kK ?kd ?ku ?_; (((case k1 => k_asm); (case k2 => k_asm); (case k3 => k_asm); (case k4 => k_asm); (case k5 => k_asm); (case kK => first | exact rfl | assumption); (case kd => ktr_room); (case ku => ktr_units); k_whole; intro t9 h9 tk9 F9 N9; (try dsimp only); (try k_fold))))) | ((with_reducible show wpAny _ _ (call (Value.ref 192) _) _ _ _); k_dflt (refine' Pure.use (isfifo_c _ _ _ _ _ _) ?k1 ?k2 ?k3 ?k4 ?k5 ?kK ?kd ?ku ?_; (((case k1 => k_asm); (case k2 => k_asm); (case k3 => k_asm); (case k4 => k_asm); (case k5 => k_asm); (case kK => first | exact rfl | assumption); (case kd => ktr_room); (case ku => ktr_units); k_whole; intro t9 h9 tk9 F9 N9; (try dsimp only); (try k_fold))))) | ((with_reducible show wpAny _ _ (call (Value.ref 185) _) _ _ _); k_dflt (refine' Pure.use (isreg_c _ _ _ _ _ _) ?k1 ?k2 ?k3 ?k4 ?k5 ?kK ?kd ?ku ?_; (((case k1 => k_asm); (case k2 => k_asm); (case k3 => k_asm); (case k4 => k_asm); (case k5 => k_asm); (case kK => first | exact rfl | assumption); (case kd => ktr_room); (case ku => ktr_units); k_whole; intro t9 h9 tk9 F9 N9; (try dsimp only); (try k_fold))))) | ((with_reducible show wpAny _ _ (call (Value.ref 178) _) _ _ _); k_dflt (refine' Pure.use (isblk_c _ _ _ _ _ _) ?k1 ?k2 ?k3 ?k4 ?k5 ?kK ?kd ?ku ?_; (((case k1 => k_asm); (case k2 => k_asm); (case k3 => k_asm); (case k4 => k_asm); (case k5 => k_asm); (case kK => first | exact rfl | assumption); (case kd => ktr_room); (case ku => ktr_units); k_whole; intro t9 h9 tk9 F9 N9; (try dsimp only); (try k_fold))))) | ((with_reducible show wpAny _ _ (call (Value.ref 171) _) _ _ _); k_dflt (refine' Pure.use (ischr_c _ _ _ _ _ _) ?k1 ?k2 ?k3 ?k4 ?k5 ?kK ?kd ?ku ?_; (((case k1 => k_asm); (case k2 => k_asm); (case k3 => k_asm); (case k4 => k_asm); (case k5 => k_asm); (case kK => first | exact rfl | assumption); (case kd => ktr_room); (case ku => ktr_units); k_whole; intro t9 h9 tk9 F9 N9; (try dsimp only); (try k_fold))))) | ((with_reducible show wpAny _ _ (call (Value.ref 164) _) _ _ _); k_dflt (refine' Pure.use (isdir_c _ _ _ _ _ _) ?k1 ?k2 ?k3 ?k4 ?k5 ?kK ?kd ?ku ?_; (((case k1 => k_asm); (case k2 => k_asm); (case k3 => k_asm); (case k4 => k_asm); (case k5 => k_asm); (case kK => first | exact rfl | assumption); (case kd => ktr_room); (case ku => ktr_units); k_whole; intro t9 h9 tk9 F9 N9; (try dsimp only); (try k_fold))))) | ((with_reducible show wpAny _ _ (call (Value.ref 150) _) _ _ _); k_dflt (refine' Pure.use (imode_c _ _ _ _ _ _) ?k1 ?k2 ?k3 ?k4 ?k5 ?kK ?kd ?ku ?_; (((case k1 => k_asm); (case k2 => k_asm); (case k3 => k_asm); (case k4 => k_asm); (case k5 => k_asm); (case kK => first | exact rfl | assumption); (case kd => ktr_room); (case ku => ktr_units); k_whole; intro t9 h9 tk9 F9 N9; (try dsimp only); (try k_fold))))) | ((with_reducible show wpAny _ _ (call (Value.ref 157) _) _ _ _); k_dflt (refine' Pure.use (ifmt_c _ _ _ _ _ _) ?k1 ?k2 ?k3 ?k4 ?k5 ?kK ?kd ?ku ?_; (((case k1 => k_asm); (case k2 => k_asm); (case k3 => k_asm); (case k4 => k_asm); (case k5 => k_asm); (case kK => first | exact rfl | assumption); (case kd => ktr_room); (case ku => ktr_units); k_whole; intro t9 h9 tk9 F9 N9; (try dsimp only); (try k_fold))))) | ((with_reducible show wpAny _ _ (call (Value.ref 281) _) _ _ _); k_dflt (refine' Pure.use (read_c _ _ _ _ _ _ ?hx) ?k1 ?k2 ?k3 ?k4 ?k5 ?kK ?kd ?ku ?_; (case hx => omega); (((case k1 => k_asm); (case k2 => k_asm); (case k3 => k_asm); (case k4 => k_asm); (case k5 => k_asm); (case kK => first | exact rfl | assumption); (case kd => ktr_room); (case ku => ktr_units); k_whole; intro t9 h9 tk9 F9 N9; (try dsimp only); (try k_fold))))) | ((with_reducible show wpAny _ _ (call (Value.ref 143) _) _ _ _); k_dflt (refine' Pure.useF (norm_f _ _ _ _ _ _ ?hx) ?k1 ?k2 ?k3 ?k4 ?k5 ?kK ?kd ?ku ?_; (case hx => omega); (((case k1 => k_asm); (case k2 => k_asm); (case k3 => k_asm); (case k4 => k_asm); (case k5 => k_asm); (case kK => first | exact rfl | assumption); (case kd => ktr_room); (case ku => ktr_units); k_whole; intro p9 t9 h9 tk9 F9 N9; (try dsimp only); (try k_fold))))) | ((with_reducible show wpAny _ _ (call (Value.ref 136) _) _ _ _); k_dflt (refine' Pure.useF (base_f _ _ _ _ _ _ ?hx) ?k1 ?k2 ?k3 ?k4 ?k5 ?kK ?kd ?ku ?_; (case hx => omega); (((case k1 => k_asm); (case k2 => k_asm); (case k3 => k_asm); (case k4 => k_asm); (case k5 => k_asm); (case kK => first | exact rfl | assumption); (case kd => ktr_room); (case ku => ktr_units); k_whole; intro p9 t9 h9 tk9 F9 N9; (try dsimp only); (try k_fold)))))) <;> ((try dsimp only); k_steps))))
    unfold Halt
    rename Fr _ _ _ _ => lF
    generalize hmd : Builtin.bitOr (Builtin.bitAnd d 61440) (Builtin.bitXor (Builtin.bitAnd d 4095) (Builtin.bitAnd (nowF x) 4095)) = md at lF ⊢
    k_dflt (refine' Pure.useF (mode_f _ _ _ _ _ _) ?k1 ?k2 ?k3 ?k4 ?k5 ?kK ?kd ?ku ?_; (((case k1 => k_asm); (case k2 => k_asm); (case k3 => k_asm); (case k4 => k_asm); (case k5 => k_asm); (case kK => first | exact rfl | assumption); (case kd => ktr_room); (case ku => ktr_units); k_whole; intro p9 t9 h9 tk9 F9 N9; (try dsimp only); (try k_fold))))
    clear lF
    (k_steps; repeat (any_goals (unfold Halt; (first | (first | ((with_reducible show wpAny _ _ (call (Value.ref 115) [_, _, _, _]) _ _ _); k_dflt (refine' Pure.use (join3_c _ _ _ _ _ _ _ _ _ _ _ _ ?hx) ?k1 ?k2 ?k3 ?k4 ?k5 ?kK ?kd ?ku ?_; (case hx => (simp only [lens]; omega)); (((case k1 => k_asm); (case k2 => k_asm); (case k3 => k_asm); (case k4 => k_asm); (case k5 => k_asm); (case kK => first | exact rfl | assumption); (case kd => ktr_room); (case ku => ktr_units); k_whole; intro t9 h9 tk9 F9 N9; (try dsimp only); (try k_fold))))) | ((with_reducible show wpAny _ _ (call (Value.ref 115) [_, _, _]) _ _ _); k_dflt (refine' Pure.use (join2_c _ _ _ _ _ _ _ _ _ _ ?hx) ?k1 ?k2 ?k3 ?k4 ?k5 ?kK ?kd ?ku ?_; (case hx => (simp only [lens]; omega)); (((case k1 => k_asm); (case k2 => k_asm); (case k3 => k_asm); (case k4 => k_asm); (case k5 => k_asm); (case kK => first | exact rfl | assumption); (case kd => ktr_room); (case ku => ktr_units); k_whole; intro t9 h9 tk9 F9 N9; (try dsimp only); (try k_fold))))) | ((with_reducible show wpAny _ _ (call (Value.ref 115) [_, _]) _ _ _); k_dflt (refine' Pure.use (join_c _ _ _ _ _ _ _ _ ?hx) ?k1 ?k2 ?k3 ?k4 ?k5 ?kK ?kd ?ku ?_; (case hx => (simp only [lens]; omega)); (((case k1 => k_asm); (case k2 => k_asm); (case k3 => k_asm); (case k4 => k_asm); (case k5 => k_asm); (case kK => first | exact rfl | assumption); (case kd => ktr_room); (case ku => ktr_units); k_whole; intro t9 h9 tk9 F9 N9; (try dsimp only); (try k_fold)))))) | ((with_reducible show wpAny _ _ (call (Value.ref 227) _) _ _ _); k_dflt (refine' Pure.use (iswht_c _ _ _ _ _ _) ?k1 ?k2 ?k3 ?k4 ?k5 ?kK ?kd ?ku ?_; (((case k1 => k_asm); (case k2 => k_asm); (case k3 => k_asm); (case k4 => k_asm); (case k5 => k_asm); (case kK => first | exact rfl | assumption); (case kd => ktr_room); (case ku => ktr_units); k_whole; intro t9 h9 tk9 F9 N9; (try dsimp only); (try k_fold))))) | ((with_reducible show wpAny _ _ (call (Value.ref 220) _) _ _ _); k_dflt (refine' Pure.use (isport_c _ _ _ _ _ _) ?k1 ?k2 ?k3 ?k4 ?k5 ?kK ?kd ?ku ?_; (((case k1 => k_asm); (case k2 => k_asm); (case k3 => k_asm); (case k4 => k_asm); (case k5 => k_asm); (case kK => first | exact rfl | assumption); (case kd => ktr_room); (case ku => ktr_units); k_whole; intro t9 h9 tk9 F9 N9; (try dsimp only); (try k_fold))))) | ((with_reducible show wpAny _ _ (call (Value.ref 213) _) _ _ _); k_dflt (refine' Pure.use (isdoor_c _ _ _ _ _ _) ?k1 ?k2 ?k3 ?k4 ?k5 ?kK ?kd ?ku ?_; (((case k1 => k_asm); (case k2 => k_asm); (case k3 => k_asm); (case k4 => k_asm); (case k5 => k_asm); (case kK => first | exact rfl | assumption); (case kd => ktr_room); (case ku => ktr_units); k_whole; intro t9 h9 tk9 F9 N9; (try dsimp only); (try k_fold))))) | ((with_reducible show wpAny _ _ (call (Value.ref 206) _) _ _ _); k_dflt (refine' Pure.use (issock_c _ _ _ _ _ _) ?k1 ?k2 ?k3 ?k4 ?k5 ?kK ?kd ?ku ?_; (((case k1 => k_asm); (case k2 => k_asm); (case k3 => k_asm); (case k4 => k_asm); (case k5 => k_asm); (case kK => first | exact rfl | assumption); (case kd => ktr_room); (case ku => ktr_units); k_whole; intro t9 h9 tk9 F9 N9; (try dsimp only); (try k_fold))))) | ((with_reducible show wpAny _ _ (call (Value.ref 199) _) _ _ _); k_dflt (refine' Pure.use (islnk_c _ _ _ _ _ _) ?k1 ?k2 ?k3 ?k4 ?k5 ?kK ?kd ?ku ?_; (((case k1 => k_asm); (case k2 => k_asm); (case k3 => k_asm); (case k4 => k_asm); (case k5 => k_asm); (case kK => first | exact rfl | assumption); (case kd => ktr_room); (case ku => ktr_units); k_whole; intro t9 h9 tk9 F9 N9; (try dsimp only); (try k_fold))))) | ((with_reducible show wpAny _ _ (call (Value.ref 192) _) _ _ _); k_dflt (refine' Pure.use (isfifo_c _ _ _ _ _ _) ?k1 ?k2 ?k3 ?k4 ?k5 ?kK ?kd ?ku ?_; (((case k1 => k_asm); (case k2 => k_asm); (case k3 => k_asm); (case k4 => k_asm); (case k5 => k_asm); (case kK => first | exact rfl | assumption); (case kd => ktr_room); (case ku => ktr_units); k_whole; intro t9 h9 tk9 F9 N9; (try dsimp only); (try k_fold))))) | ((with_reducible show wpAny _ _ (call (Value.ref 185) _) _ _ _); k_dflt (refine' Pure.use (isreg_c _ _ _ _ _ _) ?k1 ?k2 ?k3 ?k4 ?k5 ?kK ?kd ?ku ?_; (((case k1 => k_asm); (case k2 => k_asm); (case k3 => k_asm); (case k4 => k_asm); (case k5 => k_asm); (case kK => first | exact rfl | assumption); (case kd => ktr_room); (case ku => ktr_units); k_whole; intro t9 h9 tk9 F9 N9; (try dsimp only); (try k_fold))))) | ((with_reducible show wpAny _ _ (call (Value.ref 178) _) _ _ _); k_dflt (refine' Pure.use (isblk_c _ _ _ _ _ _) ?k1 ?k2 ?k3 ?k4 ?k5 ?kK ?kd ?ku ?_; (((case k1 => k_asm); (case k2 => k_asm); (case k3 => k_asm); (case k4 => k_asm); (case k5 => k_asm); (case kK => first | exact rfl | assumption); (case kd => ktr_room); (case ku => ktr_units); k_whole; intro t9 h9 tk9 F9 N9; (try dsimp only); (try k_fold))))) | ((with_reducible show wpAny _ _ (call (Value.ref 171) _) _ _ _); k_dflt (refine' Pure.use (ischr_c _ _ _ _ _ _) ?k1 ?k2 ?k3 ?k4 ?k5 ?kK ?kd ?ku ?_; (((case k1 => k_asm); (case k2 => k_asm); (case k3 => k_asm); (case k4 => k_asm); (case k5 => k_asm); (case kK => first | exact rfl | assumption); (case kd => ktr_room); (case ku => ktr_units); k_whole; intro t9 h9 tk9 F9 N9; (try dsimp only); (try k_fold))))) | ((with_reducible show wpAny _ _ (call (Value.ref 164) _) _ _ _); k_dflt (refine' Pure.use (isdir_c _ _ _ _ _ _) ?k1 ?k2 ?k3 ?k4 ?k5 ?kK ?kd ?ku ?_; (((case k1 => k_asm); (case k2 => k_asm); (case k3 => k_asm); (case k4 => k_asm); (case k5 => k_asm); (case kK => first | exact rfl | assumption); (case kd => ktr_room); (case ku => ktr_units); k_whole; intro t9 h9 tk9 F9 N9; (try dsimp only); (try k_fold))))) | ((with_reducible show wpAny _ _ (call (Value.ref 267) _) _ _ _); k_dflt (refine' Pure.useF (mode_f _ _ _ _ _ _) ?k1 ?k2 ?k3 ?k4 ?k5 ?kK ?kd ?ku ?_; (((case k1 => k_asm); (case k2 => k_asm); (case k3 => k_asm); (case k4 => k_asm); (case k5 => k_asm); (case kK => first | exact rfl | assumption); (case kd => ktr_room); (case ku => ktr_units); k_whole; intro p9 t9 h9 tk9 F9 N9; (try dsimp only); (try k_fold))))) | ((with_reducible show wpAny _ _ (call (Value.ref 150) _) _ _ _); k_dflt (refine' Pure.use (imode_c _ _ _ _ _ _) ?k1 ?k2 ?k3 ?k4 ?k5 ?kK ?kd ?ku ?_; (((case k1 => k_asm); (case k2 => k_asm); (case k3 => k_asm); (case k4 => k_asm); (case k5 => k_asm); (case kK => first | exact rfl | assumption); (case kd => ktr_room); (case ku => ktr_units); k_whole; intro t9 h9 tk9 F9 N9; (try dsimp only); (try k_fold))))) | ((with_reducible show wpAny _ _ (call (Value.ref 157) _) _ _ _); k_dflt (refine' Pure.use (ifmt_c _ _ _ _ _ _) ?k1 ?k2 ?k3 ?k4 ?k5 ?kK ?kd ?ku ?_; (((case k1 => k_asm); (case k2 => k_asm); (case k3 => k_asm); (case k4 => k_asm); (case k5 => k_asm); (case kK => first | exact rfl | assumption); (case kd => ktr_room); (case ku => ktr_units); k_whole; intro t9 h9 tk9 F9 N9; (try dsimp only); (try k_fold))))) | ((with_reducible show wpAny _ _ (call (Value.ref 281) _) _ _ _); k_dflt (refine' Pure.use (read_c _ _ _ _ _ _ ?hx) ?k1 ?k2 ?k3 ?k4 ?k5 ?kK ?kd ?ku ?_; (case hx => omega); (((case k1 => k_asm); (case k2 => k_asm); (case k3 => k_asm); (case k4 => k_asm); (case k5 => k_asm); (case kK => first | exact rfl | assumption); (case kd => ktr_room); (case ku => ktr_units); k_whole; intro t9 h9 tk9 F9 N9; (try dsimp only); (try k_fold))))) | ((with_reducible show wpAny _ _ (call (Value.ref 143) _) _ _ _); k_dflt (refine' Pure.useF (norm_f _ _ _ _ _ _ ?hx) ?k1 ?k2 ?k3 ?k4 ?k5 ?kK ?kd ?ku ?_; (case hx => omega); (((case k1 => k_asm); (case k2 => k_asm); (case k3 => k_asm); (case k4 => k_asm); (case k5 => k_asm); (case kK => first | exact rfl | assumption); (case kd => ktr_room); (case ku => ktr_units); k_whole; intro p9 t9 h9 tk9 F9 N9; (try dsimp only); (try k_fold))))) | ((with_reducible show wpAny _ _ (call (Value.ref 136) _) _ _ _); k_dflt (refine' Pure.useF (base_f _ _ _ _ _ _ ?hx) ?k1 ?k2 ?k3 ?k4 ?k5 ?kK ?kd ?ku ?_; (case hx => omega); (((case k1 => k_asm); (case k2 => k_asm); (case k3 => k_asm); (case k4 => k_asm); (case k5 => k_asm); (case kK => first | exact rfl | assumption); (case kd => ktr_room); (case ku => ktr_units); k_whole; intro p9 t9 h9 tk9 F9 N9; (try dsimp only); (try k_fold)))))) <;> ((try dsimp only); k_steps))))
    unfold Halt
    rename Fr _ _ _ _ => lF
    k_dflt (refine LCt.Assign_ListComp_T (F₀ := lF) (by rfl) (by with_unfolding_all rfl) (by with_unfolding_all rfl) (by decide) (by rfl) (by decide) (by rfl) (by rfl) (by rfl) ?_)
    (k_steps; repeat (any_goals (unfold Halt; (first | (first | ((with_reducible show wpAny _ _ (call (Value.ref 115) [_, _, _, _]) _ _ _); k_dflt (refine' Pure.use (join3_c _ _ _ _ _ _ _ _ _ _ _ _ ?hx) ?k1 ?k2 ?k3 ?k4 ?k5 ?kK ?kd ?ku ?_; (case hx => (simp only [lens]; omega)); (((case k1 => k_asm); (case k2 => k_asm); (case k3 => k_asm); (case k4 => k_asm); (case k5 => k_asm); (case kK => first | exact rfl | assumption); (case kd => ktr_room); (case ku => ktr_units); k_whole; intro t9 h9 tk9 F9 N9; (try dsimp only); (try k_fold))))) | ((with_reducible show wpAny _ _ (call (Value.ref 115) [_, _, _]) _ _ _); k_dflt (refine' Pure.use (join2_c _ _ _ _ _ _ _ _ _ _ ?hx) ?k1 ?k2 ?k3 ?k4 ?k5 ?kK ?kd ?ku ?_; (case hx => (simp only [lens]; omega)); (((case k1 => k_asm); (case k2 => k_asm); (case k3 => k_asm); (case k4 => k_asm); (case k5 => k_asm); (case kK => first | exact rfl | assumption); (case kd => ktr_room); (case ku => ktr_units); k_whole; intro t9 h9 tk9 F9 N9; (try dsimp only); (try k_fold))))) | ((with_reducible show wpAny _ _ (call (Value.ref 115) [_, _]) _ _ _); k_dflt (refine' Pure.use (join_c _ _ _ _ _ _ _ _ ?hx) ?k1 ?k2 ?k3 ?k4 ?k5 ?kK ?kd ?ku ?_; (case hx => (simp only [lens]; omega)); (((case k1 => k_asm); (case k2 => k_asm); (case k3 => k_asm); (case k4 => k_asm); (case k5 => k_asm); (case kK => first | exact rfl | assumption); (case kd => ktr_room); (case ku => ktr_units); k_whole; intro t9 h9 tk9 F9 N9; (try dsimp only); (try k_fold)))))) | ((with_reducible show wpAny _ _ (call (Value.ref 227) _) _ _ _); k_dflt (refine' Pure.use (iswht_c _ _ _ _ _ _) ?k1 ?k2 ?k3 ?k4 ?k5 ?kK ?kd ?ku ?_; (((case k1 => k_asm); (case k2 => k_asm); (case k3 => k_asm); (case k4 => k_asm); (case k5 => k_asm); (case kK => first | exact rfl | assumption); (case kd => ktr_room); (case ku => ktr_units); k_whole; intro t9 h9 tk9 F9 N9; (try dsimp only); (try k_fold))))) | ((with_reducible show wpAny _ _ (call (Value.ref 220) _) _ _ _); k_dflt (refine' Pure.use (isport_c _ _ _ _ _ _) ?k1 ?k2 ?k3 ?k4 ?k5 ?kK ?kd ?ku ?_; (((case k1 => k_asm); (case k2 => k_asm); (case k3 => k_asm); (case k4 => k_asm); (case k5 => k_asm); (case kK => first | exact rfl | assumption); (case kd => ktr_room); (case ku => ktr_units); k_whole; intro t9 h9 tk9 F9 N9; (try dsimp only); (try k_fold))))) | ((with_reducible show wpAny _ _ (call (Value.ref 213) _) _ _ _); k_dflt (refine' Pure.use (isdoor_c _ _ _ _ _ _) ?k1 ?k2 ?k3 ?k4 ?k5 ?kK ?kd ?ku ?_; (((case k1 => k_asm); (case k2 => k_asm); (case k3 => k_asm); (case k4 => k_asm); (case k5 => k_asm); (case kK => first | exact rfl | assumption); (case kd => ktr_room); (case ku => ktr_units); k_whole; intro t9 h9 tk9 F9 N9; (try dsimp only); (try k_fold))))) | ((with_reducible show wpAny _ _ (call (Value.ref 206) _) _ _ _); k_dflt (refine' Pure.use (issock_c _ _ _ _ _ _) ?k1 ?k2 ?k3 ?k4 ?k5 ?kK ?kd ?ku ?_; (((case k1 => k_asm); (case k2 => k_asm); (case k3 => k_asm); (case k4 => k_asm); (case k5 => k_asm); (case kK => first | exact rfl | assumption); (case kd => ktr_room); (case ku => ktr_units); k_whole; intro t9 h9 tk9 F9 N9; (try dsimp only); (try k_fold))))) | ((with_reducible show wpAny _ _ (call (Value.ref 199) _) _ _ _); k_dflt (refine' Pure.use (islnk_c _ _ _ _ _ _) ?k1 ?k2 ?k3 ?k4 ?k5 ?kK ?kd ?ku ?_; (((case k1 => k_asm); (case k2 => k_asm); (case k3 => k_asm); (case k4 => k_asm); (case k5 => k_asm); (case kK => first | exact rfl | assumption); (case kd => ktr_room); (case ku => ktr_units); k_whole; intro t9 h9 tk9 F9 N9; (try dsimp only); (try k_fold))))) | ((with_reducible show wpAny _ _ (call (Value.ref 192) _) _ _ _); k_dflt (refine' Pure.use (isfifo_c _ _ _ _ _ _) ?k1 ?k2 ?k3 ?k4 ?k5 ?kK ?kd ?ku ?_; (((case k1 => k_asm); (case k2 => k_asm); (case k3 => k_asm); (case k4 => k_asm); (case k5 => k_asm); (case kK => first | exact rfl | assumption); (case kd => ktr_room); (case ku => ktr_units); k_whole; intro t9 h9 tk9 F9 N9; (try dsimp only); (try k_fold))))) | ((with_reducible show wpAny _ _ (call (Value.ref 185) _) _ _ _); k_dflt (refine' Pure.use (isreg_c _ _ _ _ _ _) ?k1 ?k2 ?k3 ?k4 ?k5 ?kK ?kd ?ku ?_; (((case k1 => k_asm); (case k2 => k_asm); (case k3 => k_asm); (case k4 => k_asm); (case k5 => k_asm); (case kK => first | exact rfl | assumption); (case kd => ktr_room); (case ku => ktr_units); k_whole; intro t9 h9 tk9 F9 N9; (try dsimp only); (try k_fold))))) | ((with_reducible show wpAny _ _ (call (Value.ref 178) _) _ _ _); k_dflt (refine' Pure.use (isblk_c _ _ _ _ _ _) ?k1 ?k2 ?k3 ?k4 ?k5 ?kK ?kd ?ku ?_; (((case k1 => k_asm); (case k2 => k_asm); (case k3 => k_asm); (case k4 => k_asm); (case k5 => k_asm); (case kK => first | exact rfl | assumption); (case kd => ktr_room); (case ku => ktr_units); k_whole; intro t9 h9 tk9 F9 N9; (try dsimp only); (try k_fold))))) | ((with_reducible show wpAny _ _ (call (Value.ref 171) _) _ _ _); k_dflt (refine' Pure.use (ischr_c _ _ _ _ _ _) ?k1 ?k2 ?k3 ?k4 ?k5 ?kK ?kd ?ku ?_; (((case k1 => k_asm); (case k2 => k_asm); (case k3 => k_asm); (case k4 => k_asm); (case k5 => k_asm); (case kK => first | exact rfl | assumption); (case kd => ktr_room); (case ku => ktr_units); k_whole; intro t9 h9 tk9 F9 N9; (try dsimp only); (try k_fold))))) | ((with_reducible show wpAny _ _ (call (Value.ref 164) _) _ _ _); k_dflt (refine' Pure.use (isdir_c _ _ _ _ _ _) ?k1 ?k2 ?k3 ?k4 ?k5 ?kK ?kd ?ku ?_; (((case k1 => k_asm); (case k2 => k_asm); (case k3 => k_asm); (case k4 => k_asm); (case k5 => k_asm); (case kK => first | exact rfl | assumption); (case kd => ktr_room); (case ku => ktr_units); k_whole; intro t9 h9 tk9 F9 N9; (try dsimp only); (try k_fold))))) | ((with_reducible show wpAny _ _ (call (Value.ref 267) _) _ _ _); k_dflt (refine' Pure.useF (mode_f _ _ _ _ _ _) ?k1 ?k2 ?k3 ?k4 ?k5 ?kK ?kd ?ku ?_; (((case k1 => k_asm); (case k2 => k_asm); (case k3 => k_asm); (case k4 => k_asm); (case k5 => k_asm); (case kK => first | exact rfl | assumption); (case kd => ktr_room); (case ku => ktr_units); k_whole; intro p9 t9 h9 tk9 F9 N9; (try dsimp only); (try k_fold))))) | ((with_reducible show wpAny _ _ (call (Value.ref 150) _) _ _ _); k_dflt (refine' Pure.use (imode_c _ _ _ _ _ _) ?k1 ?k2 ?k3 ?k4 ?k5 ?kK ?kd ?ku ?_; (((case k1 => k_asm); (case k2 => k_asm); (case k3 => k_asm); (case k4 => k_asm); (case k5 => k_asm); (case kK => first | exact rfl | assumption); (case kd => ktr_room); (case ku => ktr_units); k_whole; intro t9 h9 tk9 F9 N9; (try dsimp only); (try k_fold))))) | ((with_reducible show wpAny _ _ (call (Value.ref 157) _) _ _ _); k_dflt (refine' Pure.use (ifmt_c _ _ _ _ _ _) ?k1 ?k2 ?k3 ?k4 ?k5 ?kK ?kd ?ku ?_; (((case k1 => k_asm); (case k2 => k_asm); (case k3 => k_asm); (case k4 => k_asm); (case k5 => k_asm); (case kK => first | exact rfl | assumption); (case kd => ktr_room); (case ku => ktr_units); k_whole; intro t9 h9 tk9 F9 N9; (try dsimp only); (try k_fold))))) | ((with_reducible show wpAny _ _ (call (Value.ref 281) _) _ _ _); k_dflt (refine' Pure.use (read_c _ _ _ _ _ _ ?hx) ?k1 ?k2 ?k3 ?k4 ?k5 ?kK ?kd ?ku ?_; (case hx => omega); (((case k1 => k_asm); (case k2 => k_asm); (case k3 => k_asm); (case k4 => k_asm); (case k5 => k_asm); (case kK => first | exact rfl | assumption); (case kd => ktr_room); (case ku => ktr_units); k_whole; intro t9 h9 tk9 F9 N9; (try dsimp only); (try k_fold))))) | ((with_reducible show wpAny _ _ (call (Value.ref 143) _) _ _ _); k_dflt (refine' Pure.useF (norm_f _ _ _ _ _ _ ?hx) ?k1 ?k2 ?k3 ?k4 ?k5 ?kK ?kd ?ku ?_; (case hx => omega); (((case k1 => k_asm); (case k2 => k_asm); (case k3 => k_asm); (case k4 => k_asm); (case k5 => k_asm); (case kK => first | exact rfl | assumption); (case kd => ktr_room); (case ku => ktr_units); k_whole; intro p9 t9 h9 tk9 F9 N9; (try dsimp only); (try k_fold))))) | ((with_reducible show wpAny _ _ (call (Value.ref 136) _) _ _ _); k_dflt (refine' Pure.useF (base_f _ _ _ _ _ _ ?hx) ?k1 ?k2 ?k3 ?k4 ?k5 ?kK ?kd ?ku ?_; (case hx => omega); (((case k1 => k_asm); (case k2 => k_asm); (case k3 => k_asm); (case k4 => k_asm); (case k5 => k_asm); (case kK => first | exact rfl | assumption); (case kd => ktr_room); (case ku => ktr_units); k_whole; intro p9 t9 h9 tk9 F9 N9; (try dsimp only); (try k_fold)))))) <;> ((try dsimp only); k_steps))))
    unfold Halt
    k_dflt (refine LCt.CompSrcT.range (n := 10) (by rfl) (by k_asm) (by k_asm) (by assumption) (by decide) (by rfl) (by decide) ?_)
    intro g9
    refine compT_inv (JYes _ (bsF md)) ?turn ?fin _ _ _ _ rfl ⟨rfl, [], rfl, rfl⟩
    case turn =>
      intro i v I oI C oC D m₂ ys news h tk E' hi hJ hv hC hx9 F N off ne
      obtain ⟨rfl, ks, rfl, hk⟩ := hJ
      obtain ⟨t8, rfl⟩ := hv
      rw [Int.zero_add] at hx9
      have off0 := off
      simp only [LCg.Off3, and_true] at off
      (k_steps; repeat (any_goals (unfold Halt; (first | (first | ((with_reducible show wpAny _ _ (call (Value.ref 115) [_, _, _, _]) _ _ _); k_dflt (refine' Pure.use (join3_c _ _ _ _ _ _ _ _ _ _ _ _ ?hx) ?k1 ?k2 ?k3 ?k4 ?k5 ?kK ?kd ?ku ?_; (case hx => (simp only [lens]; omega)); (((case k1 => k_asm); (case k2 => k_asm); (case k3 => k_asm); (case k4 => k_asm); (case k5 => k_asm); (case kK => first | exact rfl | assumption); (case kd => ktr_room); (case ku => ktr_units); k_whole; intro t9 h9 tk9 F9 N9; (try dsimp only); (try k_fold))))) | ((with_reducible show wpAny _ _ (call (Value.ref 115) [_, _, _]) _ _ _); k_dflt (refine' Pure.use (join2_c _ _ _ _ _ _ _ _ _ _ ?hx) ?k1 ?k2 ?k3 ?k4 ?k5 ?kK ?kd ?ku ?_; (case hx => (simp only [lens]; omega)); (((case k1 => k_asm); (case k2 => k_asm); (case k3 => k_asm); (case k4 => k_asm); (case k5 => k_asm); (case kK => first | exact rfl | assumption); (case kd => ktr_room); (case ku => ktr_units); k_whole; intro t9 h9 tk9 F9 N9; (try dsimp only); (try k_fold))))) | ((with_reducible show wpAny _ _ (call (Value.ref 115) [_, _]) _ _ _); k_dflt (refine' Pure.use (join_c _ _ _ _ _ _ _ _ ?hx) ?k1 ?k2 ?k3 ?k4 ?k5 ?kK ?kd ?ku ?_; (case hx => (simp only [lens]; omega)); (((case k1 => k_asm); (case k2 => k_asm); (case k3 => k_asm); (case k4 => k_asm); (case k5 => k_asm); (case kK => first | exact rfl | assumption); (case kd => ktr_room); (case ku => ktr_units); k_whole; intro t9 h9 tk9 F9 N9; (try dsimp only); (try k_fold)))))) | ((with_reducible show wpAny _ _ (call (Value.ref 227) _) _ _ _); k_dflt (refine' Pure.use (iswht_c _ _ _ _ _ _) ?k1 ?k2 ?k3 ?k4 ?k5 ?kK ?kd ?ku ?_; (((case k1 => k_asm); (case k2 => k_asm); (case k3 => k_asm); (case k4 => k_asm); (case k5 => k_asm); (case kK => first | exact rfl | assumption); (case kd => ktr_room); (case ku => ktr_units); k_whole; intro t9 h9 tk9 F9 N9; (try dsimp only); (try k_fold))))) | ((with_reducible show wpAny _ _ (call (Value.ref 220) _) _ _ _); k_dflt (refine' Pure.use (isport_c _ _ _ _ _ _) ?k1 ?k2 ?k3 ?k4 ?k5 ?kK ?kd ?ku ?_; (((case k1 => k_asm); (case k2 => k_asm); (case k3 => k_asm); (case k4 => k_asm); (case k5 => k_asm); (case kK => first | exact rfl | assumption); (case kd => ktr_room); (case ku => ktr_units); k_whole; intro t9 h9 tk9 F9 N9; (try dsimp only); (try k_fold))))) | ((with_reducible show wpAny _ _ (call (Value.ref 213) _) _ _ _); k_dflt (refine' Pure.use (isdoor_c _ _ _ _ _ _) ?k1 ?k2 ?k3 ?k4 ?k5 ?kK ?kd ?ku ?_; (((case k1 => k_asm); (case k2 => k_asm); (case k3 => k_asm); (case k4 => k_asm); (case k5 => k_asm); (case kK => first | exact rfl | assumption); (case kd => ktr_room); (case ku => ktr_units); k_whole; intro t9 h9 tk9 F9 N9; (try dsimp only); (try k_fold))))) | ((with_reducible show wpAny _ _ (call (Value.ref 206) _) _ _ _); k_dflt (refine' Pure.use (issock_c _ _ _ _ _ _) ?k1 ?k2 ?k3 ?k4 ?k5 ?kK ?kd ?ku ?_; (((case k1 => k_asm); (case k2 => k_asm); (case k3 => k_asm); (case k4 => k_asm); (case k5 => k_asm); (case kK => first | exact rfl | assumption); (case kd => ktr_room); (case ku => ktr_units); k_whole; intro t9 h9 tk9 F9 N9; (try dsimp only); (try k_fold))))) | ((with_reducible show wpAny _ _ (call (Value.ref 199) _) _ _ _); k_dflt (refine' Pure.use (islnk_c _ _ _ _ _ _) ?k1 ?k2 ?k3 ?k4 ?k5 ?kK ?kd ?ku ?_; (((case k1 => k_asm); (case k2 => k_asm); (case k3 => k_asm); (case k4 => k_asm); (case k5 => k_asm); (case kK => first | exact rfl | assumption); (case kd => ktr_room); (case ku => ktr_units); k_whole; intro t9 h9 tk9 F9 N9; (try dsimp only); (try k_fold))))) | ((with_reducible show wpAny _ _ (call (Value.ref 192) _) _ _ _); k_dflt (refine' Pure.use (isfifo_c _ _ _ _ _ _) ?k1 ?k2 ?k3 ?k4 ?k5 ?kK ?kd ?ku ?_; (((case k1 => k_asm); (case k2 => k_asm); (case k3 => k_asm); (case k4 => k_asm); (case k5 => k_asm); (case kK => first | exact rfl | assumption); (case kd => ktr_room); (case ku => ktr_units); k_whole; intro t9 h9 tk9 F9 N9; (try dsimp only); (try k_fold))))) | ((with_reducible show wpAny _ _ (call (Value.ref 185) _) _ _ _); k_dflt (refine' Pure.use (isreg_c _ _ _ _ _ _) ?k1 ?k2 ?k3 ?k4 ?k5 ?kK ?kd ?ku ?_; (((case k1 => k_asm); (case k2 => k_asm); (case k3 => k_asm); (case k4 => k_asm); (case k5 => k_asm); (case kK => first | exact rfl | assumption); (case kd => ktr_room); (case ku => ktr_units); k_whole; intro t9 h9 tk9 F9 N9; (try dsimp only); (try k_fold))))) | ((with_reducible show wpAny _ _ (call (Value.ref 178) _) _ _ _); k_dflt (refine' Pure.use (isblk_c _ _ _ _ _ _) ?k1 ?k2 ?k3 ?k4 ?k5 ?kK ?kd ?ku ?_; (((case k1 => k_asm); (case k2 => k_asm); (case k3 => k_asm); (case k4 => k_asm); (case k5 => k_asm); (case kK => first | exact rfl | assumption); (case kd => ktr_room); (case ku => ktr_units); k_whole; intro t9 h9 tk9 F9 N9; (try dsimp only); (try k_fold))))) | ((with_reducible show wpAny _ _ (call (Value.ref 171) _) _ _ _); k_dflt (refine' Pure.use (ischr_c _ _ _ _ _ _) ?k1 ?k2 ?k3 ?k4 ?k5 ?kK ?kd ?ku ?_; (((case k1 => k_asm); (case k2 => k_asm); (case k3 => k_asm); (case k4 => k_asm); (case k5 => k_asm); (case kK => first | exact rfl | assumption); (case kd => ktr_room); (case ku => ktr_units); k_whole; intro t9 h9 tk9 F9 N9; (try dsimp only); (try k_fold))))) | ((with_reducible show wpAny _ _ (call (Value.ref 164) _) _ _ _); k_dflt (refine' Pure.use (isdir_c _ _ _ _ _ _) ?k1 ?k2 ?k3 ?k4 ?k5 ?kK ?kd ?ku ?_; (((case k1 => k_asm); (case k2 => k_asm); (case k3 => k_asm); (case k4 => k_asm); (case k5 => k_asm); (case kK => first | exact rfl | assumption); (case kd => ktr_room); (case ku => ktr_units); k_whole; intro t9 h9 tk9 F9 N9; (try dsimp only); (try k_fold))))) | ((with_reducible show wpAny _ _ (call (Value.ref 267) _) _ _ _); k_dflt (refine' Pure.useF (mode_f _ _ _ _ _ _) ?k1 ?k2 ?k3 ?k4 ?k5 ?kK ?kd ?ku ?_; (((case k1 => k_asm); (case k2 => k_asm); (case k3 => k_asm); (case k4 => k_asm); (case k5 => k_asm); (case kK => first | exact rfl | assumption); (case kd => ktr_room); (case ku => ktr_units); k_whole; intro p9 t9 h9 tk9 F9 N9; (try dsimp only); (try k_fold))))) | ((with_reducible show wpAny _ _ (call (Value.ref 150) _) _ _ _); k_dflt (refine' Pure.use (imode_c _ _ _ _ _ _) ?k1 ?k2 ?k3 ?k4 ?k5 ?kK ?kd ?ku ?_; (((case k1 => k_asm); (case k2 => k_asm); (case k3 => k_asm); (case k4 => k_asm); (case k5 => k_asm); (case kK => first | exact rfl | assumption); (case kd => ktr_room); (case ku => ktr_units); k_whole; intro t9 h9 tk9 F9 N9; (try dsimp only); (try k_fold))))) | ((with_reducible show wpAny _ _ (call (Value.ref 157) _) _ _ _); k_dflt (refine' Pure.use (ifmt_c _ _ _ _ _ _) ?k1 ?k2 ?k3 ?k4 ?k5 ?kK ?kd ?ku ?_; (((case k1 => k_asm); (case k2 => k_asm); (case k3 => k_asm); (case k4 => k_asm); (case k5 => k_asm); (case kK => first | exact rfl | assumption); (case kd => ktr_room); (case ku => ktr_units); k_whole; intro t9 h9 tk9 F9 N9; (try dsimp only); (try k_fold))))) | ((with_reducible show wpAny _ _ (call (Value.ref 281) _) _ _ _); k_dflt (refine' Pure.use (read_c _ _ _ _ _ _ ?hx) ?k1 ?k2 ?k3 ?k4 ?k5 ?kK ?kd ?ku ?_; (case hx => omega); (((case k1 => k_asm); (case k2 => k_asm); (case k3 => k_asm); (case k4 => k_asm); (case k5 => k_asm); (case kK => first | exact rfl | assumption); (case kd => ktr_room); (case ku => ktr_units); k_whole; intro t9 h9 tk9 F9 N9; (try dsimp only); (try k_fold))))) | ((with_reducible show wpAny _ _ (call (Value.ref 143) _) _ _ _); k_dflt (refine' Pure.useF (norm_f _ _ _ _ _ _ ?hx) ?k1 ?k2 ?k3 ?k4 ?k5 ?kK ?kd ?ku ?_; (case hx => omega); (((case k1 => k_asm); (case k2 => k_asm); (case k3 => k_asm); (case k4 => k_asm); (case k5 => k_asm); (case kK => first | exact rfl | assumption); (case kd => ktr_room); (case ku => ktr_units); k_whole; intro p9 t9 h9 tk9 F9 N9; (try dsimp only); (try k_fold))))) | ((with_reducible show wpAny _ _ (call (Value.ref 136) _) _ _ _); k_dflt (refine' Pure.useF (base_f _ _ _ _ _ _ ?hx) ?k1 ?k2 ?k3 ?k4 ?k5 ?kK ?kd ?ku ?_; (case hx => omega); (((case k1 => k_asm); (case k2 => k_asm); (case k3 => k_asm); (case k4 => k_asm); (case k5 => k_asm); (case kK => first | exact rfl | assumption); (case kd => ktr_room); (case ku => ktr_units); k_whole; intro p9 t9 h9 tk9 F9 N9; (try dsimp only); (try k_fold)))))) <;> ((try dsimp only); k_steps))))
      unfold Halt
      rename News _ _ _ _ => lN
      k_dflt (refine bools_item (bs := bsF md) lN (by k_mem) hi (Nat.le_of_ble_eq_true rfl) ?_ (by with_unfolding_all rfl))
      cases hb : (bsF md).getD i false
      all_goals (k_steps; repeat (any_goals (unfold Halt; (first | (first | ((with_reducible show wpAny _ _ (call (Value.ref 115) [_, _, _, _]) _ _ _); k_dflt (refine' Pure.use (join3_c _ _ _ _ _ _ _ _ _ _ _ _ ?hx) ?k1 ?k2 ?k3 ?k4 ?k5 ?kK ?kd ?ku ?_; (case hx => (simp only [lens]; omega)); (((case k1 => k_asm); (case k2 => k_asm); (case k3 => k_asm); (case k4 => k_asm); (case k5 => k_asm); (case kK => first | exact rfl | assumption); (case kd => ktr_room); (case ku => ktr_units); k_whole; intro t9 h9 tk9 F9 N9; (try dsimp only); (try k_fold))))) | ((with_reducible show wpAny _ _ (call (Value.ref 115) [_, _, _]) _ _ _); k_dflt (refine' Pure.use (join2_c _ _ _ _ _ _ _ _ _ _ ?hx) ?k1 ?k2 ?k3 ?k4 ?k5 ?kK ?kd ?ku ?_; (case hx => (simp only [lens]; omega)); (((case k1 => k_asm); (case k2 => k_asm); (case k3 => k_asm); (case k4 => k_asm); (case k5 => k_asm); (case kK => first | exact rfl | assumption); (case kd => ktr_room); (case ku => ktr_units); k_whole; intro t9 h9 tk9 F9 N9; (try dsimp only); (try k_fold))))) | ((with_reducible show wpAny _ _ (call (Value.ref 115) [_, _]) _ _ _); k_dflt (refine' Pure.use (join_c _ _ _ _ _ _ _ _ ?hx) ?k1 ?k2 ?k3 ?k4 ?k5 ?kK ?kd ?ku ?_; (case hx => (simp only [lens]; omega)); (((case k1 => k_asm); (case k2 => k_asm); (case k3 => k_asm); (case k4 => k_asm); (case k5 => k_asm); (case kK => first | exact rfl | assumption); (case kd => ktr_room); (case ku => ktr_units); k_whole; intro t9 h9 tk9 F9 N9; (try dsimp only); (try k_fold)))))) | ((with_reducible show wpAny _ _ (call (Value.ref 227) _) _ _ _); k_dflt (refine' Pure.use (iswht_c _ _ _ _ _ _) ?k1 ?k2 ?k3 ?k4 ?k5 ?kK ?kd ?ku ?_; (((case k1 => k_asm); (case k2 => k_asm); (case k3 => k_asm); (case k4 => k_asm); (case k5 => k_asm); (case kK => first | exact rfl | assumption); (case kd => ktr_room); (case ku => ktr_units); k_whole; intro t9 h9 tk9 F9 N9; (try dsimp only); (try k_fold))))) | ((with_reducible show wpAny _ _ (call (Value.ref 220) _) _ _ _); k_dflt (refine' Pure.use (isport_c _ _ _ _ _ _) ?k1 ?k2 ?k3 ?k4 ?k5 ?kK ?kd ?ku ?_; (((case k1 => k_asm); (case k2 => k_asm); (case k3 => k_asm); (case k4 => k_asm); (case k5 => k_asm); (case kK => first | exact rfl | assumption); (case kd => ktr_room); (case ku => ktr_units); k_whole; intro t9 h9 tk9 F9 N9; (try dsimp only); (try k_fold))))) | ((with_reducible show wpAny _ _ (call (Value.ref 213) _) _ _ _); k_dflt (refine' Pure.use (isdoor_c _ _ _ _ _ _) ?k1 ?k2 ?k3 ?k4 ?k5 ?kK ?kd ?ku ?_; (((case k1 => k_asm); (case k2 => k_asm); (case k3 => k_asm); (case k4 => k_asm); (case k5 => k_asm); (case kK => first | exact rfl | assumption); (case kd => ktr_room); (case ku => ktr_units); k_whole; intro t9 h9 tk9 F9 N9; (try dsimp only); (try k_fold))))) | ((with_reducible show wpAny _ _ (call (Value.ref 206) _) _ _ _); k_dflt (refine' Pure.use (issock_c _ _ _ _ _ _) ?k1 ?k2 ?k3 ?k4 ?k5 ?kK ?kd ?ku ?_; (((case k1 => k_asm); (case k2 => k_asm); (case k3 => k_asm); (case k4 => k_asm); (case k5 => k_asm); (case kK => first | exact rfl | assumption); (case kd => ktr_room); (case ku => ktr_units); k_whole; intro t9 h9 tk9 F9 N9; (try dsimp only); (try k_fold))))) | ((with_reducible show wpAny _ _ (call (Value.ref 199) _) _ _ _); k_dflt (refine' Pure.use (islnk_c _ _ _ _ _ _) ?k1 ?k2 ?k3 ?k4 ?k5 ?kK ?kd ?ku ?_; (((case k1 => k_asm); (case k2 => k_asm); (case k3 => k_asm); (case k4 => k_asm); (case k5 => k_asm); (case kK => first | exact rfl | assumption); (case kd => ktr_room); (case ku => ktr_units); k_whole; intro t9 h9 tk9 F9 N9; (try dsimp only); (try k_fold))))) | ((with_reducible show wpAny _ _ (call (Value.ref 192) _) _ _ _); k_dflt (refine' Pure.use (isfifo_c _ _ _ _ _ _) ?k1 ?k2 ?k3 ?k4 ?k5 ?kK ?kd ?ku ?_; (((case k1 => k_asm); (case k2 => k_asm); (case k3 => k_asm); (case k4 => k_asm); (case k5 => k_asm); (case kK => first | exact rfl | assumption); (case kd => ktr_room); (case ku => ktr_units); k_whole; intro t9 h9 tk9 F9 N9; (try dsimp only); (try k_fold))))) | ((with_reducible show wpAny _ _ (call (Value.ref 185) _) _ _ _); k_dflt (refine' Pure.use (isreg_c _ _ _ _ _ _) ?k1 ?k2 ?k3 ?k4 ?k5 ?kK ?kd ?ku ?_; (((case k1 => k_asm); (case k2 => k_asm); (case k3 => k_asm); (case k4 => k_asm); (case k5 => k_asm); (case kK => first | exact rfl | assumption); (case kd => ktr_room); (case ku => ktr_units); k_whole; intro t9 h9 tk9 F9 N9; (try dsimp only); (try k_fold))))) | ((with_reducible show wpAny _ _ (call (Value.ref 178) _) _ _ _); k_dflt (refine' Pure.use (isblk_c _ _ _ _ _ _) ?k1 ?k2 ?k3 ?k4 ?k5 ?kK ?kd ?ku ?_; (((case k1 => k_asm); (case k2 => k_asm); (case k3 => k_asm); (case k4 => k_asm); (case k5 => k_asm); (case kK => first | exact rfl | assumption); (case kd => ktr_room); (case ku => ktr_units); k_whole; intro t9 h9 tk9 F9 N9; (try dsimp only); (try k_fold))))) | ((with_reducible show wpAny _ _ (call (Value.ref 171) _) _ _ _); k_dflt (refine' Pure.use (ischr_c _ _ _ _ _ _) ?k1 ?k2 ?k3 ?k4 ?k5 ?kK ?kd ?ku ?_; (((case k1 => k_asm); (case k2 => k_asm); (case k3 => k_asm); (case k4 => k_asm); (case k5 => k_asm); (case kK => first | exact rfl | assumption); (case kd => ktr_room); (case ku => ktr_units); k_whole; intro t9 h9 tk9 F9 N9; (try dsimp only); (try k_fold))))) | ((with_reducible show wpAny _ _ (call (Value.ref 164) _) _ _ _); k_dflt (refine' Pure.use (isdir_c _ _ _ _ _ _) ?k1 ?k2 ?k3 ?k4 ?k5 ?kK ?kd ?ku ?_; (((case k1 => k_asm); (case k2 => k_asm); (case k3 => k_asm); (case k4 => k_asm); (case k5 => k_asm); (case kK => first | exact rfl | assumption); (case kd => ktr_room); (case ku => ktr_units); k_whole; intro t9 h9 tk9 F9 N9; (try dsimp only); (try k_fold))))) | ((with_reducible show wpAny _ _ (call (Value.ref 267) _) _ _ _); k_dflt (refine' Pure.useF (mode_f _ _ _ _ _ _) ?k1 ?k2 ?k3 ?k4 ?k5 ?kK ?kd ?ku ?_; (((case k1 => k_asm); (case k2 => k_asm); (case k3 => k_asm); (case k4 => k_asm); (case k5 => k_asm); (case kK => first | exact rfl | assumption); (case kd => ktr_room); (case ku => ktr_units); k_whole; intro p9 t9 h9 tk9 F9 N9; (try dsimp only); (try k_fold))))) | ((with_reducible show wpAny _ _ (call (Value.ref 150) _) _ _ _); k_dflt (refine' Pure.use (imode_c _ _ _ _ _ _) ?k1 ?k2 ?k3 ?k4 ?k5 ?kK ?kd ?ku ?_; (((case k1 => k_asm); (case k2 => k_asm); (case k3 => k_asm); (case k4 => k_asm); (case k5 => k_asm); (case kK => first | exact rfl | assumption); (case kd => ktr_room); (case ku => ktr_units); k_whole; intro t9 h9 tk9 F9 N9; (try dsimp only); (try k_fold))))) | ((with_reducible show wpAny _ _ (call (Value.ref 157) _) _ _ _); k_dflt (refine' Pure.use (ifmt_c _ _ _ _ _ _) ?k1 ?k2 ?k3 ?k4 ?k5 ?kK ?kd ?ku ?_; (((case k1 => k_asm); (case k2 => k_asm); (case k3 => k_asm); (case k4 => k_asm); (case k5 => k_asm); (case kK => first | exact rfl | assumption); (case kd => ktr_room); (case ku => ktr_units); k_whole; intro t9 h9 tk9 F9 N9; (try dsimp only); (try k_fold))))) | ((with_reducible show wpAny _ _ (call (Value.ref 281) _) _ _ _); k_dflt (refine' Pure.use (read_c _ _ _ _ _ _ ?hx) ?k1 ?k2 ?k3 ?k4 ?k5 ?kK ?kd ?ku ?_; (case hx => omega); (((case k1 => k_asm); (case k2 => k_asm); (case k3 => k_asm); (case k4 => k_asm); (case k5 => k_asm); (case kK => first | exact rfl | assumption); (case kd => ktr_room); (case ku => ktr_units); k_whole; intro t9 h9 tk9 F9 N9; (try dsimp only); (try k_fold))))) | ((with_reducible show wpAny _ _ (call (Value.ref 143) _) _ _ _); k_dflt (refine' Pure.useF (norm_f _ _ _ _ _ _ ?hx) ?k1 ?k2 ?k3 ?k4 ?k5 ?kK ?kd ?ku ?_; (case hx => omega); (((case k1 => k_asm); (case k2 => k_asm); (case k3 => k_asm); (case k4 => k_asm); (case k5 => k_asm); (case kK => first | exact rfl | assumption); (case kd => ktr_room); (case ku => ktr_units); k_whole; intro p9 t9 h9 tk9 F9 N9; (try dsimp only); (try k_fold))))) | ((with_reducible show wpAny _ _ (call (Value.ref 136) _) _ _ _); k_dflt (refine' Pure.useF (base_f _ _ _ _ _ _ ?hx) ?k1 ?k2 ?k3 ?k4 ?k5 ?kK ?kd ?ku ?_; (case hx => omega); (((case k1 => k_asm); (case k2 => k_asm); (case k3 => k_asm); (case k4 => k_asm); (case k5 => k_asm); (case kK => first | exact rfl | assumption); (case kd => ktr_room); (case ku => ktr_units); k_whole; intro p9 t9 h9 tk9 F9 N9; (try dsimp only); (try k_fold)))))) <;> ((try dsimp only); k_steps))))
      all_goals unfold Halt
      all_goals rename Fr _ _ _ _ => lF
      all_goals rename News _ _ _ _ => lN
      · exact comp_end lF lN _ (by (((try simp only [List.cons_append, List.nil_append]); kcj_all))) off0 trivial (jyes_not hb hk)
      · exact comp_end lF lN _ (by (((try simp only [List.cons_append, List.nil_append]); kcj_all))) off0 trivial (jyes_add hb hk)
    case fin =>
      intro ys news hJ
      obtain ⟨rfl, ks, rfl, hk⟩ := hJ
      intro D h tk F N off
      simp only [LCg.Off1, and_true] at off
      have hf3 := fmod3 (Builtin.bitAnd md 4095)
      have l1 : (Str.ofString "/").length = 1 := by decide +kernel
      have l2 : (Str.ofString ".").length = 1 := by decide +kernel
      have l3 : (Str.ofString "..").length = 2 := by decide +kernel
      have l4 : (Str.ofString "").length = 0 := by decide +kernel
      have l5 : (Str.ofString "//").length = 2 := by decide +kernel
      have e1 : (fmF md ++ Str.ofString "//" ++ fmF md).length = (fmF md).length + 2 + (fmF md).length := by rw [Str.length_append, Str.length_append, l5]
      have e2 : (Txt.mul (Str.ofString "/") (1 + (Builtin.bitAnd md 4095).fmod 3) ++ fmF md).length = (Txt.mul (Str.ofString "/") (1 + (Builtin.bitAnd md 4095).fmod 3)).length + (fmF md).length := Str.length_append _ _
      have e3 := mul3_len (Builtin.bitAnd md 4095)
      rcases yes_cases md with ⟨hz, hq, hy⟩ | ⟨hz, hq, hy⟩ | ⟨hz, hq, hy⟩ | ⟨hz, hq, hy⟩ | ⟨hz, hq, hy⟩ | ⟨hz, hq, hy⟩ | ⟨hz, hq, hy⟩ | ⟨hz, hy⟩
      all_goals repeat (rename @LT.lt Nat _ _ _ ∧ _ => hz9; clear hz9)
      · obtain ⟨t7, rfl⟩ := fst_one hk hy
        replace N := news_pick [true, true, false, false, false, false, false, false, false, false, false, false, false, false, false, true, true, false, false, true] N
        dsimp only [List.map, pick] at N
        rw [hq] at N
        (k_steps; repeat (any_goals (unfold Halt; (first | (first | ((with_reducible show wpAny _ _ (call (Value.ref 115) [_, _, _, _]) _ _ _); k_dflt (refine' Pure.use (join3_c _ _ _ _ _ _ _ _ _ _ _ _ ?hx) ?k1 ?k2 ?k3 ?k4 ?k5 ?kK ?kd ?ku ?_; (case hx => (simp only [lens]; omega)); (((case k1 => k_asm); (case k2 => k_asm); (case k3 => k_asm); (case k4 => k_asm); (case k5 => k_asm); (case kK => first | exact rfl | assumption); (case kd => ktr_room); (case ku => ktr_units); k_whole; intro t9 h9 tk9 F9 N9; (try dsimp only); (try k_fold))))) | ((with_reducible show wpAny _ _ (call (Value.ref 115) [_, _, _]) _ _ _); k_dflt (refine' Pure.use (join2_c _ _ _ _ _ _ _ _ _ _ ?hx) ?k1 ?k2 ?k3 ?k4 ?k5 ?kK ?kd ?ku ?_; (case hx => (simp only [lens]; omega)); (((case k1 => k_asm); (case k2 => k_asm); (case k3 => k_asm); (case k4 => k_asm); (case k5 => k_asm); (case kK => first | exact rfl | assumption); (case kd => ktr_room); (case ku => ktr_units); k_whole; intro t9 h9 tk9 F9 N9; (try dsimp only); (try k_fold))))) | ((with_reducible show wpAny _ _ (call (Value.ref 115) [_, _]) _ _ _); k_dflt (refine' Pure.use (join_c _ _ _ _ _ _ _ _ ?hx) ?k1 ?k2 ?k3 ?k4 ?k5 ?kK ?kd ?ku ?_; (case hx => (simp only [lens]; omega)); (((case k1 => k_asm); (case k2 => k_asm); (case k3 => k_asm); (case k4 => k_asm); (case k5 => k_asm); (case kK => first | exact rfl | assumption); (case kd => ktr_room); (case ku => ktr_units); k_whole; intro t9 h9 tk9 F9 N9; (try dsimp only); (try k_fold)))))) | ((with_reducible show wpAny _ _ (call (Value.ref 227) _) _ _ _); k_dflt (refine' Pure.use (iswht_c _ _ _ _ _ _) ?k1 ?k2 ?k3 ?k4 ?k5 ?kK ?kd ?ku ?_; (((case k1 => k_asm); (case k2 => k_asm); (case k3 => k_asm); (case k4 => k_asm); (case k5 => k_asm); (case kK => first | exact rfl | assumption); (case kd => ktr_room); (case ku => ktr_units); k_whole; intro t9 h9 tk9 F9 N9; (try dsimp only); (try k_fold))))) | ((with_reducible show wpAny _ _ (call (Value.ref 220) _) _ _ _); k_dflt (refine' Pure.use (isport_c _ _ _ _ _ _) ?k1 ?k2 ?k3 ?k4 ?k5 ?kK ?kd ?ku ?_; (((case k1 => k_asm); (case k2 => k_asm); (case k3 => k_asm); (case k4 => k_asm); (case k5 => k_asm); (case kK => first | exact rfl | assumption); (case kd => ktr_room); (case ku => ktr_units); k_whole; intro t9 h9 tk9 F9 N9; (try dsimp only); (try k_fold))))) | ((with_reducible show wpAny _ _ (call (Value.ref 213) _) _ _ _); k_dflt (refine' Pure.use (isdoor_c _ _ _ _ _ _) ?k1 ?k2 ?k3 ?k4 ?k5 ?kK ?kd ?ku ?_; (((case k1 => k_asm); (case k2 => k_asm); (case k3 => k_asm); (case k4 => k_asm); (case k5 => k_asm); (case kK => first | exact rfl | assumption); (case kd => ktr_room); (case ku => ktr_units); k_whole; intro t9 h9 tk9 F9 N9; (try dsimp only); (try k_fold))))) | ((with_reducible show wpAny _ _ (call (Value.ref 206) _) _ _ _); k_dflt (refine' Pure.use (issock_c _ _ _ _ _ _) ?k1 ?k2 ?k3 ?k4 ?k5 ?kK ?kd ?ku ?_; (((case k1 => k_asm); (case k2 => k_asm); (case k3 => k_asm); (case k4 => k_asm); (case k5 => k_asm); (case kK => first | exact rfl | assumption); (case kd => ktr_room); (case ku => ktr_units); k_whole; intro t9 h9 tk9 F9 N9; (try dsimp only); (try k_fold))))) | ((with_reducible show wpAny _ _ (call (Value.ref 199) _) _ _ _); k_dflt (refine' Pure.use (islnk_c _ _ _ _ _ _) ?k1 ?k2 ?k3 ?k4 ?k5 ?kK ?kd ?ku ?_; (((case k1 => k_asm); (case k2 => k_asm); (case k3 => k_asm); (case k4 => k_asm); (case k5 => k_asm); (case kK => first | exact rfl | assumption); (case kd => ktr_room); (case ku => ktr_units); k_whole; intro t9 h9 tk9 F9 N9; (try dsimp only); (try k_fold))))) | ((with_reducible show wpAny _ _ (call (Value.ref 192) _) _ _ _); k_dflt (refine' Pure.use (isfifo_c _ _ _ _ _ _) ?k1 ?k2 ?k3 ?k4 ?k5 ?kK ?kd ?ku ?_; (((case k1 => k_asm); (case k2 => k_asm); (case k3 => k_asm); (case k4 => k_asm); (case k5 => k_asm); (case kK => first | exact rfl | assumption); (case kd => ktr_room); (case ku => ktr_units); k_whole; intro t9 h9 tk9 F9 N9; (try dsimp only); (try k_fold))))) | ((with_reducible show wpAny _ _ (call (Value.ref 185) _) _ _ _); k_dflt (refine' Pure.use (isreg_c _ _ _ _ _ _) ?k1 ?k2 ?k3 ?k4 ?k5 ?kK ?kd ?ku ?_; (((case k1 => k_asm); (case k2 => k_asm); (case k3 => k_asm); (case k4 => k_asm); (case k5 => k_asm); (case kK => first | exact rfl | assumption); (case kd => ktr_room); (case ku => ktr_units); k_whole; intro t9 h9 tk9 F9 N9; (try dsimp only); (try k_fold))))) | ((with_reducible show wpAny _ _ (call (Value.ref 178) _) _ _ _); k_dflt (refine' Pure.use (isblk_c _ _ _ _ _ _) ?k1 ?k2 ?k3 ?k4 ?k5 ?kK ?kd ?ku ?_; (((case k1 => k_asm); (case k2 => k_asm); (case k3 => k_asm); (case k4 => k_asm); (case k5 => k_asm); (case kK => first | exact rfl | assumption); (case kd => ktr_room); (case ku => ktr_units); k_whole; intro t9 h9 tk9 F9 N9; (try dsimp only); (try k_fold))))) | ((with_reducible show wpAny _ _ (call (Value.ref 171) _) _ _ _); k_dflt (refine' Pure.use (ischr_c _ _ _ _ _ _) ?k1 ?k2 ?k3 ?k4 ?k5 ?kK ?kd ?ku ?_; (((case k1 => k_asm); (case k2 => k_asm); (case k3 => k_asm); (case k4 => k_asm); (case k5 => k_asm); (case kK => first | exact rfl | assumption); (case kd => ktr_room); (case ku => ktr_units); k_whole; intro t9 h9 tk9 F9 N9; (try dsimp only); (try k_fold))))) | ((with_reducible show wpAny _ _ (call (Value.ref 164) _) _ _ _); k_dflt (refine' Pure.use (isdir_c _ _ _ _ _ _) ?k1 ?k2 ?k3 ?k4 ?k5 ?kK ?kd ?ku ?_; (((case k1 => k_asm); (case k2 => k_asm); (case k3 => k_asm); (case k4 => k_asm); (case k5 => k_asm); (case kK => first | exact rfl | assumption); (case kd => ktr_room); (case ku => ktr_units); k_whole; intro t9 h9 tk9 F9 N9; (try dsimp only); (try k_fold))))) | ((with_reducible show wpAny _ _ (call (Value.ref 267) _) _ _ _); k_dflt (refine' Pure.useF (mode_f _ _ _ _ _ _) ?k1 ?k2 ?k3 ?k4 ?k5 ?kK ?kd ?ku ?_; (((case k1 => k_asm); (case k2 => k_asm); (case k3 => k_asm); (case k4 => k_asm); (case k5 => k_asm); (case kK => first | exact rfl | assumption); (case kd => ktr_room); (case ku => ktr_units); k_whole; intro p9 t9 h9 tk9 F9 N9; (try dsimp only); (try k_fold))))) | ((with_reducible show wpAny _ _ (call (Value.ref 150) _) _ _ _); k_dflt (refine' Pure.use (imode_c _ _ _ _ _ _) ?k1 ?k2 ?k3 ?k4 ?k5 ?kK ?kd ?ku ?_; (((case k1 => k_asm); (case k2 => k_asm); (case k3 => k_asm); (case k4 => k_asm); (case k5 => k_asm); (case kK => first | exact rfl | assumption); (case kd => ktr_room); (case ku => ktr_units); k_whole; intro t9 h9 tk9 F9 N9; (try dsimp only); (try k_fold))))) | ((with_reducible show wpAny _ _ (call (Value.ref 157) _) _ _ _); k_dflt (refine' Pure.use (ifmt_c _ _ _ _ _ _) ?k1 ?k2 ?k3 ?k4 ?k5 ?kK ?kd ?ku ?_; (((case k1 => k_asm); (case k2 => k_asm); (case k3 => k_asm); (case k4 => k_asm); (case k5 => k_asm); (case kK => first | exact rfl | assumption); (case kd => ktr_room); (case ku => ktr_units); k_whole; intro t9 h9 tk9 F9 N9; (try dsimp only); (try k_fold))))) | ((with_reducible show wpAny _ _ (call (Value.ref 281) _) _ _ _); k_dflt (refine' Pure.use (read_c _ _ _ _ _ _ ?hx) ?k1 ?k2 ?k3 ?k4 ?k5 ?kK ?kd ?ku ?_; (case hx => omega); (((case k1 => k_asm); (case k2 => k_asm); (case k3 => k_asm); (case k4 => k_asm); (case k5 => k_asm); (case kK => first | exact rfl | assumption); (case kd => ktr_room); (case ku => ktr_units); k_whole; intro t9 h9 tk9 F9 N9; (try dsimp only); (try k_fold))))) | ((with_reducible show wpAny _ _ (call (Value.ref 143) _) _ _ _); k_dflt (refine' Pure.useF (norm_f _ _ _ _ _ _ ?hx) ?k1 ?k2 ?k3 ?k4 ?k5 ?kK ?kd ?ku ?_; (case hx => omega); (((case k1 => k_asm); (case k2 => k_asm); (case k3 => k_asm); (case k4 => k_asm); (case k5 => k_asm); (case kK => first | exact rfl | assumption); (case kd => ktr_room); (case ku => ktr_units); k_whole; intro p9 t9 h9 tk9 F9 N9; (try dsimp only); (try k_fold))))) | ((with_reducible show wpAny _ _ (call (Value.ref 136) _) _ _ _); k_dflt (refine' Pure.useF (base_f _ _ _ _ _ _ ?hx) ?k1 ?k2 ?k3 ?k4 ?k5 ?kK ?kd ?ku ?_; (case hx => omega); (((case k1 => k_asm); (case k2 => k_asm); (case k3 => k_asm); (case k4 => k_asm); (case k5 => k_asm); (case kK => first | exact rfl | assumption); (case kd => ktr_room); (case ku => ktr_units); k_whole; intro p9 t9 h9 tk9 F9 N9; (try dsimp only); (try k_fold)))))) <;> ((try dsimp only); k_steps))))
        all_goals refine q_str (lay_0 hmd hz).symm (hret _ _ _ (by k_asm) (gs_nil (by assumption) (by assumption)))
      · obtain ⟨t7, rfl⟩ := fst_one hk hy
        replace N := news_pick [true, true, false, false, false, false, false, false, false, false, false, false, false, false, false, false, true, false, false, true] N
        dsimp only [List.map, pick] at N
        rw [hq] at N
        (k_steps; repeat (any_goals (unfold Halt; (first | (first | ((with_reducible show wpAny _ _ (call (Value.ref 115) [_, _, _, _]) _ _ _); k_dflt (refine' Pure.use (join3_c _ _ _ _ _ _ _ _ _ _ _ _ ?hx) ?k1 ?k2 ?k3 ?k4 ?k5 ?kK ?kd ?ku ?_; (case hx => (simp only [lens]; omega)); (((case k1 => k_asm); (case k2 => k_asm); (case k3 => k_asm); (case k4 => k_asm); (case k5 => k_asm); (case kK => first | exact rfl | assumption); (case kd => ktr_room); (case ku => ktr_units); k_whole; intro t9 h9 tk9 F9 N9; (try dsimp only); (try k_fold))))) | ((with_reducible show wpAny _ _ (call (Value.ref 115) [_, _, _]) _ _ _); k_dflt (refine' Pure.use (join2_c _ _ _ _ _ _ _ _ _ _ ?hx) ?k1 ?k2 ?k3 ?k4 ?k5 ?kK ?kd ?ku ?_; (case hx => (simp only [lens]; omega)); (((case k1 => k_asm); (case k2 => k_asm); (case k3 => k_asm); (case k4 => k_asm); (case k5 => k_asm); (case kK => first | exact rfl | assumption); (case kd => ktr_room); (case ku => ktr_units); k_whole; intro t9 h9 tk9 F9 N9; (try dsimp only); (try k_fold))))) | ((with_reducible show wpAny _ _ (call (Value.ref 115) [_, _]) _ _ _); k_dflt (refine' Pure.use (join_c _ _ _ _ _ _ _ _ ?hx) ?k1 ?k2 ?k3 ?k4 ?k5 ?kK ?kd ?ku ?_; (case hx => (simp only [lens]; omega)); (((case k1 => k_asm); (case k2 => k_asm); (case k3 => k_asm); (case k4 => k_asm); (case k5 => k_asm); (case kK => first | exact rfl | assumption); (case kd => ktr_room); (case ku => ktr_units); k_whole; intro t9 h9 tk9 F9 N9; (try dsimp only); (try k_fold)))))) | ((with_reducible show wpAny _ _ (call (Value.ref 227) _) _ _ _); k_dflt (refine' Pure.use (iswht_c _ _ _ _ _ _) ?k1 ?k2 ?k3 ?k4 ?k5 ?kK ?kd ?ku ?_; (((case k1 => k_asm); (case k2 => k_asm); (case k3 => k_asm); (case k4 => k_asm); (case k5 => k_asm); (case kK => first | exact rfl | assumption); (case kd => ktr_room); (case ku => ktr_units); k_whole; intro t9 h9 tk9 F9 N9; (try dsimp only); (try k_fold))))) | ((with_reducible show wpAny _ _ (call (Value.ref 220) _) _ _ _); k_dflt (refine' Pure.use (isport_c _ _ _ _ _ _) ?k1 ?k2 ?k3 ?k4 ?k5 ?kK ?kd ?ku ?_; (((case k1 => k_asm); (case k2 => k_asm); (case k3 => k_asm); (case k4 => k_asm); (case k5 => k_asm); (case kK => first | exact rfl | assumption); (case kd => ktr_room); (case ku => ktr_units); k_whole; intro t9 h9 tk9 F9 N9; (try dsimp only); (try k_fold))))) | ((with_reducible show wpAny _ _ (call (Value.ref 213) _) _ _ _); k_dflt (refine' Pure.use (isdoor_c _ _ _ _ _ _) ?k1 ?k2 ?k3 ?k4 ?k5 ?kK ?kd ?ku ?_; (((case k1 => k_asm); (case k2 => k_asm); (case k3 => k_asm); (case k4 => k_asm); (case k5 => k_asm); (case kK => first | exact rfl | assumption); (case kd => ktr_room); (case ku => ktr_units); k_whole; intro t9 h9 tk9 F9 N9; (try dsimp only); (try k_fold))))) | ((with_reducible show wpAny _ _ (call (Value.ref 206) _) _ _ _); k_dflt (refine' Pure.use (issock_c _ _ _ _ _ _) ?k1 ?k2 ?k3 ?k4 ?k5 ?kK ?kd ?ku ?_; (((case k1 => k_asm); (case k2 => k_asm); (case k3 => k_asm); (case k4 => k_asm); (case k5 => k_asm); (case kK => first | exact rfl | assumption); (case kd => ktr_room); (case ku => ktr_units); k_whole; intro t9 h9 tk9 F9 N9; (try dsimp only); (try k_fold))))) | ((with_reducible show wpAny _ _ (call (Value.ref 199) _) _ _ _); k_dflt (refine' Pure.use (islnk_c _ _ _ _ _ _) ?k1 ?k2 ?k3 ?k4 ?k5 ?kK ?kd ?ku ?_; (((case k1 => k_asm); (case k2 => k_asm); (case k3 => k_asm); (case k4 => k_asm); (case k5 => k_asm); (case kK => first | exact rfl | assumption); (case kd => ktr_room); (case ku => ktr_units); k_whole; intro t9 h9 tk9 F9 N9; (try dsimp only); (try k_fold))))) | ((with_reducible show wpAny _ _ (call (Value.ref 192) _) _ _ _); k_dflt (refine' Pure.use (isfifo_c _ _ _ _ _ _) ?k1 ?k2 ?k3 ?k4 ?k5 ?kK ?kd ?ku ?_; (((case k1 => k_asm); (case k2 => k_asm); (case k3 => k_asm); (case k4 => k_asm); (case k5 => k_asm); (case kK => first | exact rfl | assumption); (case kd => ktr_room); (case ku => ktr_units); k_whole; intro t9 h9 tk9 F9 N9; (try dsimp only); (try k_fold))))) | ((with_reducible show wpAny _ _ (call (Value.ref 185) _) _ _ _); k_dflt (refine' Pure.use (isreg_c _ _ _ _ _ _) ?k1 ?k2 ?k3 ?k4 ?k5 ?kK ?kd ?ku ?_; (((case k1 => k_asm); (case k2 => k_asm); (case k3 => k_asm); (case k4 => k_asm); (case k5 => k_asm); (case kK => first | exact rfl | assumption); (case kd => ktr_room); (case ku => ktr_units); k_whole; intro t9 h9 tk9 F9 N9; (try dsimp only); (try k_fold))))) | ((with_reducible show wpAny _ _ (call (Value.ref 178) _) _ _ _); k_dflt (refine' Pure.use (isblk_c _ _ _ _ _ _) ?k1 ?k2 ?k3 ?k4 ?k5 ?kK ?kd ?ku ?_; (((case k1 => k_asm); (case k2 => k_asm); (case k3 => k_asm); (case k4 => k_asm); (case k5 => k_asm); (case kK => first | exact rfl | assumption); (case kd => ktr_room); (case ku => ktr_units); k_whole; intro t9 h9 tk9 F9 N9; (try dsimp only); (try k_fold))))) | ((with_reducible show wpAny _ _ (call (Value.ref 171) _) _ _ _); k_dflt (refine' Pure.use (ischr_c _ _ _ _ _ _) ?k1 ?k2 ?k3 ?k4 ?k5 ?kK ?kd ?ku ?_; (((case k1 => k_asm); (case k2 => k_asm); (case k3 => k_asm); (case k4 => k_asm); (case k5 => k_asm); (case kK => first | exact rfl | assumption); (case kd => ktr_room); (case ku => ktr_units); k_whole; intro t9 h9 tk9 F9 N9; (try dsimp only); (try k_fold))))) | ((with_reducible show wpAny _ _ (call (Value.ref 164) _) _ _ _); k_dflt (refine' Pure.use (isdir_c _ _ _ _ _ _) ?k1 ?k2 ?k3 ?k4 ?k5 ?kK ?kd ?ku ?_; (((case k1 => k_asm); (case k2 => k_asm); (case k3 => k_asm); (case k4 => k_asm); (case k5 => k_asm); (case kK => first | exact rfl | assumption); (case kd => ktr_room); (case ku => ktr_units); k_whole; intro t9 h9 tk9 F9 N9; (try dsimp only); (try k_fold))))) | ((with_reducible show wpAny _ _ (call (Value.ref 267) _) _ _ _); k_dflt (refine' Pure.useF (mode_f _ _ _ _ _ _) ?k1 ?k2 ?k3 ?k4 ?k5 ?kK ?kd ?ku ?_; (((case k1 => k_asm); (case k2 => k_asm); (case k3 => k_asm); (case k4 => k_asm); (case k5 => k_asm); (case kK => first | exact rfl | assumption); (case kd => ktr_room); (case ku => ktr_units); k_whole; intro p9 t9 h9 tk9 F9 N9; (try dsimp only); (try k_fold))))) | ((with_reducible show wpAny _ _ (call (Value.ref 150) _) _ _ _); k_dflt (refine' Pure.use (imode_c _ _ _ _ _ _) ?k1 ?k2 ?k3 ?k4 ?k5 ?kK ?kd ?ku ?_; (((case k1 => k_asm); (case k2 => k_asm); (case k3 => k_asm); (case k4 => k_asm); (case k5 => k_asm); (case kK => first | exact rfl | assumption); (case kd => ktr_room); (case ku => ktr_units); k_whole; intro t9 h9 tk9 F9 N9; (try dsimp only); (try k_fold))))) | ((with_reducible show wpAny _ _ (call (Value.ref 157) _) _ _ _); k_dflt (refine' Pure.use (ifmt_c _ _ _ _ _ _) ?k1 ?k2 ?k3 ?k4 ?k5 ?kK ?kd ?ku ?_; (((case k1 => k_asm); (case k2 => k_asm); (case k3 => k_asm); (case k4 => k_asm); (case k5 => k_asm); (case kK => first | exact rfl | assumption); (case kd => ktr_room); (case ku => ktr_units); k_whole; intro t9 h9 tk9 F9 N9; (try dsimp only); (try k_fold))))) | ((with_reducible show wpAny _ _ (call (Value.ref 281) _) _ _ _); k_dflt (refine' Pure.use (read_c _ _ _ _ _ _ ?hx) ?k1 ?k2 ?k3 ?k4 ?k5 ?kK ?kd ?ku ?_; (case hx => omega); (((case k1 => k_asm); (case k2 => k_asm); (case k3 => k_asm); (case k4 => k_asm); (case k5 => k_asm); (case kK => first | exact rfl | assumption); (case kd => ktr_room); (case ku => ktr_units); k_whole; intro t9 h9 tk9 F9 N9; (try dsimp only); (try k_fold))))) | ((with_reducible show wpAny _ _ (call (Value.ref 143) _) _ _ _); k_dflt (refine' Pure.useF (norm_f _ _ _ _ _ _ ?hx) ?k1 ?k2 ?k3 ?k4 ?k5 ?kK ?kd ?ku ?_; (case hx => omega); (((case k1 => k_asm); (case k2 => k_asm); (case k3 => k_asm); (case k4 => k_asm); (case k5 => k_asm); (case kK => first | exact rfl | assumption); (case kd => ktr_room); (case ku => ktr_units); k_whole; intro p9 t9 h9 tk9 F9 N9; (try dsimp only); (try k_fold))))) | ((with_reducible show wpAny _ _ (call (Value.ref 136) _) _ _ _); k_dflt (refine' Pure.useF (base_f _ _ _ _ _ _ ?hx) ?k1 ?k2 ?k3 ?k4 ?k5 ?kK ?kd ?ku ?_; (case hx => omega); (((case k1 => k_asm); (case k2 => k_asm); (case k3 => k_asm); (case k4 => k_asm); (case k5 => k_asm); (case kK => first | exact rfl | assumption); (case kd => ktr_room); (case ku => ktr_units); k_whole; intro p9 t9 h9 tk9 F9 N9; (try dsimp only); (try k_fold)))))) <;> ((try dsimp only); k_steps))))
        all_goals refine q_str (lay_1 hmd hz).symm (hret _ _ _ (by k_asm) (gs_nil (by assumption) (by assumption)))
      · obtain ⟨t7, rfl⟩ := fst_one hk hy
        replace N := news_pick [true, true, false, false, false, false, false, false, false, false, false, false, false, true, false, false, true, false, false, true] N
        dsimp only [List.map, pick] at N
        rw [hq] at N
        (k_steps; repeat (any_goals (unfold Halt; (first | (first | ((with_reducible show wpAny _ _ (call (Value.ref 115) [_, _, _, _]) _ _ _); k_dflt (refine' Pure.use (join3_c _ _ _ _ _ _ _ _ _ _ _ _ ?hx) ?k1 ?k2 ?k3 ?k4 ?k5 ?kK ?kd ?ku ?_; (case hx => (simp only [lens]; omega)); (((case k1 => k_asm); (case k2 => k_asm); (case k3 => k_asm); (case k4 => k_asm); (case k5 => k_asm); (case kK => first | exact rfl | assumption); (case kd => ktr_room); (case ku => ktr_units); k_whole; intro t9 h9 tk9 F9 N9; (try dsimp only); (try k_fold))))) | ((with_reducible show wpAny _ _ (call (Value.ref 115) [_, _, _]) _ _ _); k_dflt (refine' Pure.use (join2_c _ _ _ _ _ _ _ _ _ _ ?hx) ?k1 ?k2 ?k3 ?k4 ?k5 ?kK ?kd ?ku ?_; (case hx => (simp only [lens]; omega)); (((case k1 => k_asm); (case k2 => k_asm); (case k3 => k_asm); (case k4 => k_asm); (case k5 => k_asm); (case kK => first | exact rfl | assumption); (case kd => ktr_room); (case ku => ktr_units); k_whole; intro t9 h9 tk9 F9 N9; (try dsimp only); (try k_fold))))) | ((with_reducible show wpAny _ _ (call (Value.ref 115) [_, _]) _ _ _); k_dflt (refine' Pure.use (join_c _ _ _ _ _ _ _ _ ?hx) ?k1 ?k2 ?k3 ?k4 ?k5 ?kK ?kd ?ku ?_; (case hx => (simp only [lens]; omega)); (((case k1 => k_asm); (case k2 => k_asm); (case k3 => k_asm); (case k4 => k_asm); (case k5 => k_asm); (case kK => first | exact rfl | assumption); (case kd => ktr_room); (case ku => ktr_units); k_whole; intro t9 h9 tk9 F9 N9; (try dsimp only); (try k_fold)))))) | ((with_reducible show wpAny _ _ (call (Value.ref 227) _) _ _ _); k_dflt (refine' Pure.use (iswht_c _ _ _ _ _ _) ?k1 ?k2 ?k3 ?k4 ?k5 ?kK ?kd ?ku ?_; (((case k1 => k_asm); (case k2 => k_asm); (case k3 => k_asm); (case k4 => k_asm); (case k5 => k_asm); (case kK => first | exact rfl | assumption); (case kd => ktr_room); (case ku => ktr_units); k_whole; intro t9 h9 tk9 F9 N9; (try dsimp only); (try k_fold))))) | ((with_reducible show wpAny _ _ (call (Value.ref 220) _) _ _ _); k_dflt (refine' Pure.use (isport_c _ _ _ _ _ _) ?k1 ?k2 ?k3 ?k4 ?k5 ?kK ?kd ?ku ?_; (((case k1 => k_asm); (case k2 => k_asm); (case k3 => k_asm); (case k4 => k_asm); (case k5 => k_asm); (case kK => first | exact rfl | assumption); (case kd => ktr_room); (case ku => ktr_units); k_whole; intro t9 h9 tk9 F9 N9; (try dsimp only); (try k_fold))))) | ((with_reducible show wpAny _ _ (call (Value.ref 213) _) _ _ _); k_dflt (refine' Pure.use (isdoor_c _ _ _ _ _ _) ?k1 ?k2 ?k3 ?k4 ?k5 ?kK ?kd ?ku ?_; (((case k1 => k_asm); (case k2 => k_asm); (case k3 => k_asm); (case k4 => k_asm); (case k5 => k_asm); (case kK => first | exact rfl | assumption); (case kd => ktr_room); (case ku => ktr_units); k_whole; intro t9 h9 tk9 F9 N9; (try dsimp only); (try k_fold))))) | ((with_reducible show wpAny _ _ (call (Value.ref 206) _) _ _ _); k_dflt (refine' Pure.use (issock_c _ _ _ _ _ _) ?k1 ?k2 ?k3 ?k4 ?k5 ?kK ?kd ?ku ?_; (((case k1 => k_asm); (case k2 => k_asm); (case k3 => k_asm); (case k4 => k_asm); (case k5 => k_asm); (case kK => first | exact rfl | assumption); (case kd => ktr_room); (case ku => ktr_units); k_whole; intro t9 h9 tk9 F9 N9; (try dsimp only); (try k_fold))))) | ((with_reducible show wpAny _ _ (call (Value.ref 199) _) _ _ _); k_dflt (refine' Pure.use (islnk_c _ _ _ _ _ _) ?k1 ?k2 ?k3 ?k4 ?k5 ?kK ?kd ?ku ?_; (((case k1 => k_asm); (case k2 => k_asm); (case k3 => k_asm); (case k4 => k_asm); (case k5 => k_asm); (case kK => first | exact rfl | assumption); (case kd => ktr_room); (case ku => ktr_units); k_whole; intro t9 h9 tk9 F9 N9; (try dsimp only); (try k_fold))))) | ((with_reducible show wpAny _ _ (call (Value.ref 192) _) _ _ _); k_dflt (refine' Pure.use (isfifo_c _ _ _ _ _ _) ?k1 ?k2 ?k3 ?k4 ?k5 ?kK ?kd ?ku ?_; (((case k1 => k_asm); (case k2 => k_asm); (case k3 => k_asm); (case k4 => k_asm); (case k5 => k_asm); (case kK => first | exact rfl | assumption); (case kd => ktr_room); (case ku => ktr_units); k_whole; intro t9 h9 tk9 F9 N9; (try dsimp only); (try k_fold))))) | ((with_reducible show wpAny _ _ (call (Value.ref 185) _) _ _ _); k_dflt (refine' Pure.use (isreg_c _ _ _ _ _ _) ?k1 ?k2 ?k3 ?k4 ?k5 ?kK ?kd ?ku ?_; (((case k1 => k_asm); (case k2 => k_asm); (case k3 => k_asm); (case k4 => k_asm); (case k5 => k_asm); (case kK => first | exact rfl | assumption); (case kd => ktr_room); (case ku => ktr_units); k_whole; intro t9 h9 tk9 F9 N9; (try dsimp only); (try k_fold))))) | ((with_reducible show wpAny _ _ (call (Value.ref 178) _) _ _ _); k_dflt (refine' Pure.use (isblk_c _ _ _ _ _ _) ?k1 ?k2 ?k3 ?k4 ?k5 ?kK ?kd ?ku ?_; (((case k1 => k_asm); (case k2 => k_asm); (case k3 => k_asm); (case k4 => k_asm); (case k5 => k_asm); (case kK => first | exact rfl | assumption); (case kd => ktr_room); (case ku => ktr_units); k_whole; intro t9 h9 tk9 F9 N9; (try dsimp only); (try k_fold))))) | ((with_reducible show wpAny _ _ (call (Value.ref 171) _) _ _ _); k_dflt (refine' Pure.use (ischr_c _ _ _ _ _ _) ?k1 ?k2 ?k3 ?k4 ?k5 ?kK ?kd ?ku ?_; (((case k1 => k_asm); (case k2 => k_asm); (case k3 => k_asm); (case k4 => k_asm); (case k5 => k_asm); (case kK => first | exact rfl | assumption); (case kd => ktr_room); (case ku => ktr_units); k_whole; intro t9 h9 tk9 F9 N9; (try dsimp only); (try k_fold))))) | ((with_reducible show wpAny _ _ (call (Value.ref 164) _) _ _ _); k_dflt (refine' Pure.use (isdir_c _ _ _ _ _ _) ?k1 ?k2 ?k3 ?k4 ?k5 ?kK ?kd ?ku ?_; (((case k1 => k_asm); (case k2 => k_asm); (case k3 => k_asm); (case k4 => k_asm); (case k5 => k_asm); (case kK => first | exact rfl | assumption); (case kd => ktr_room); (case ku => ktr_units); k_whole; intro t9 h9 tk9 F9 N9; (try dsimp only); (try k_fold))))) | ((with_reducible show wpAny _ _ (call (Value.ref 267) _) _ _ _); k_dflt (refine' Pure.useF (mode_f _ _ _ _ _ _) ?k1 ?k2 ?k3 ?k4 ?k5 ?kK ?kd ?ku ?_; (((case k1 => k_asm); (case k2 => k_asm); (case k3 => k_asm); (case k4 => k_asm); (case k5 => k_asm); (case kK => first | exact rfl | assumption); (case kd => ktr_room); (case ku => ktr_units); k_whole; intro p9 t9 h9 tk9 F9 N9; (try dsimp only); (try k_fold))))) | ((with_reducible show wpAny _ _ (call (Value.ref 150) _) _ _ _); k_dflt (refine' Pure.use (imode_c _ _ _ _ _ _) ?k1 ?k2 ?k3 ?k4 ?k5 ?kK ?kd ?ku ?_; (((case k1 => k_asm); (case k2 => k_asm); (case k3 => k_asm); (case k4 => k_asm); (case k5 => k_asm); (case kK => first | exact rfl | assumption); (case kd => ktr_room); (case ku => ktr_units); k_whole; intro t9 h9 tk9 F9 N9; (try dsimp only); (try k_fold))))) | ((with_reducible show wpAny _ _ (call (Value.ref 157) _) _ _ _); k_dflt (refine' Pure.use (ifmt_c _ _ _ _ _ _) ?k1 ?k2 ?k3 ?k4 ?k5 ?kK ?kd ?ku ?_; (((case k1 => k_asm); (case k2 => k_asm); (case k3 => k_asm); (case k4 => k_asm); (case k5 => k_asm); (case kK => first | exact rfl | assumption); (case kd => ktr_room); (case ku => ktr_units); k_whole; intro t9 h9 tk9 F9 N9; (try dsimp only); (try k_fold))))) | ((with_reducible show wpAny _ _ (call (Value.ref 281) _) _ _ _); k_dflt (refine' Pure.use (read_c _ _ _ _ _ _ ?hx) ?k1 ?k2 ?k3 ?k4 ?k5 ?kK ?kd ?ku ?_; (case hx => omega); (((case k1 => k_asm); (case k2 => k_asm); (case k3 => k_asm); (case k4 => k_asm); (case k5 => k_asm); (case kK => first | exact rfl | assumption); (case kd => ktr_room); (case ku => ktr_units); k_whole; intro t9 h9 tk9 F9 N9; (try dsimp only); (try k_fold))))) | ((with_reducible show wpAny _ _ (call (Value.ref 143) _) _ _ _); k_dflt (refine' Pure.useF (norm_f _ _ _ _ _ _ ?hx) ?k1 ?k2 ?k3 ?k4 ?k5 ?kK ?kd ?ku ?_; (case hx => omega); (((case k1 => k_asm); (case k2 => k_asm); (case k3 => k_asm); (case k4 => k_asm); (case k5 => k_asm); (case kK => first | exact rfl | assumption); (case kd => ktr_room); (case ku => ktr_units); k_whole; intro p9 t9 h9 tk9 F9 N9; (try dsimp only); (try k_fold))))) | ((with_reducible show wpAny _ _ (call (Value.ref 136) _) _ _ _); k_dflt (refine' Pure.useF (base_f _ _ _ _ _ _ ?hx) ?k1 ?k2 ?k3 ?k4 ?k5 ?kK ?kd ?ku ?_; (case hx => omega); (((case k1 => k_asm); (case k2 => k_asm); (case k3 => k_asm); (case k4 => k_asm); (case k5 => k_asm); (case kK => first | exact rfl | assumption); (case kd => ktr_room); (case ku => ktr_units); k_whole; intro p9 t9 h9 tk9 F9 N9; (try dsimp only); (try k_fold)))))) <;> ((try dsimp only); k_steps))))
        all_goals refine q_str (lay_2 hmd hz).symm (hret _ _ _ (by k_asm) (gs_nil (by assumption) (by assumption)))
      · obtain ⟨t7, rfl⟩ := fst_one hk hy
        replace N := news_pick [true, true, false, false, false, false, false, false, false, false, false, true, false, false, false, false, true, false, false, true] N
        dsimp only [List.map, pick] at N
        rw [hq] at N
        (k_steps; repeat (any_goals (unfold Halt; (first | (first | ((with_reducible show wpAny _ _ (call (Value.ref 115) [_, _, _, _]) _ _ _); k_dflt (refine' Pure.use (join3_c _ _ _ _ _ _ _ _ _ _ _ _ ?hx) ?k1 ?k2 ?k3 ?k4 ?k5 ?kK ?kd ?ku ?_; (case hx => (simp only [lens]; omega)); (((case k1 => k_asm); (case k2 => k_asm); (case k3 => k_asm); (case k4 => k_asm); (case k5 => k_asm); (case kK => first | exact rfl | assumption); (case kd => ktr_room); (case ku => ktr_units); k_whole; intro t9 h9 tk9 F9 N9; (try dsimp only); (try k_fold))))) | ((with_reducible show wpAny _ _ (call (Value.ref 115) [_, _, _]) _ _ _); k_dflt (refine' Pure.use (join2_c _ _ _ _ _ _ _ _ _ _ ?hx) ?k1 ?k2 ?k3 ?k4 ?k5 ?kK ?kd ?ku ?_; (case hx => (simp only [lens]; omega)); (((case k1 => k_asm); (case k2 => k_asm); (case k3 => k_asm); (case k4 => k_asm); (case k5 => k_asm); (case kK => first | exact rfl | assumption); (case kd => ktr_room); (case ku => ktr_units); k_whole; intro t9 h9 tk9 F9 N9; (try dsimp only); (try k_fold))))) | ((with_reducible show wpAny _ _ (call (Value.ref 115) [_, _]) _ _ _); k_dflt (refine' Pure.use (join_c _ _ _ _ _ _ _ _ ?hx) ?k1 ?k2 ?k3 ?k4 ?k5 ?kK ?kd ?ku ?_; (case hx => (simp only [lens]; omega)); (((case k1 => k_asm); (case k2 => k_asm); (case k3 => k_asm); (case k4 => k_asm); (case k5 => k_asm); (case kK => first | exact rfl | assumption); (case kd => ktr_room); (case ku => ktr_units); k_whole; intro t9 h9 tk9 F9 N9; (try dsimp only); (try k_fold)))))) | ((with_reducible show wpAny _ _ (call (Value.ref 227) _) _ _ _); k_dflt (refine' Pure.use (iswht_c _ _ _ _ _ _) ?k1 ?k2 ?k3 ?k4 ?k5 ?kK ?kd ?ku ?_; (((case k1 => k_asm); (case k2 => k_asm); (case k3 => k_asm); (case k4 => k_asm); (case k5 => k_asm); (case kK => first | exact rfl | assumption); (case kd => ktr_room); (case ku => ktr_units); k_whole; intro t9 h9 tk9 F9 N9; (try dsimp only); (try k_fold))))) | ((with_reducible show wpAny _ _ (call (Value.ref 220) _) _ _ _); k_dflt (refine' Pure.use (isport_c _ _ _ _ _ _) ?k1 ?k2 ?k3 ?k4 ?k5 ?kK ?kd ?ku ?_; (((case k1 => k_asm); (case k2 => k_asm); (case k3 => k_asm); (case k4 => k_asm); (case k5 => k_asm); (case kK => first | exact rfl | assumption); (case kd => ktr_room); (case ku => ktr_units); k_whole; intro t9 h9 tk9 F9 N9; (try dsimp only); (try k_fold))))) | ((with_reducible show wpAny _ _ (call (Value.ref 213) _) _ _ _); k_dflt (refine' Pure.use (isdoor_c _ _ _ _ _ _) ?k1 ?k2 ?k3 ?k4 ?k5 ?kK ?kd ?ku ?_; (((case k1 => k_asm); (case k2 => k_asm); (case k3 => k_asm); (case k4 => k_asm); (case k5 => k_asm); (case kK => first | exact rfl | assumption); (case kd => ktr_room); (case ku => ktr_units); k_whole; intro t9 h9 tk9 F9 N9; (try dsimp only); (try k_fold))))) | ((with_reducible show wpAny _ _ (call (Value.ref 206) _) _ _ _); k_dflt (refine' Pure.use (issock_c _ _ _ _ _ _) ?k1 ?k2 ?k3 ?k4 ?k5 ?kK ?kd ?ku ?_; (((case k1 => k_asm); (case k2 => k_asm); (case k3 => k_asm); (case k4 => k_asm); (case k5 => k_asm); (case kK => first | exact rfl | assumption); (case kd => ktr_room); (case ku => ktr_units); k_whole; intro t9 h9 tk9 F9 N9; (try dsimp only); (try k_fold))))) | ((with_reducible show wpAny _ _ (call (Value.ref 199) _) _ _ _); k_dflt (refine' Pure.use (islnk_c _ _ _ _ _ _) ?k1 ?k2 ?k3 ?k4 ?k5 ?kK ?kd ?ku ?_; (((case k1 => k_asm); (case k2 => k_asm); (case k3 => k_asm); (case k4 => k_asm); (case k5 => k_asm); (case kK => first | exact rfl | assumption); (case kd => ktr_room); (case ku => ktr_units); k_whole; intro t9 h9 tk9 F9 N9; (try dsimp only); (try k_fold))))) | ((with_reducible show wpAny _ _ (call (Value.ref 192) _) _ _ _); k_dflt (refine' Pure.use (isfifo_c _ _ _ _ _ _) ?k1 ?k2 ?k3 ?k4 ?k5 ?kK ?kd ?ku ?_; (((case k1 => k_asm); (case k2 => k_asm); (case k3 => k_asm); (case k4 => k_asm); (case k5 => k_asm); (case kK => first | exact rfl | assumption); (case kd => ktr_room); (case ku => ktr_units); k_whole; intro t9 h9 tk9 F9 N9; (try dsimp only); (try k_fold))))) | ((with_reducible show wpAny _ _ (call (Value.ref 185) _) _ _ _); k_dflt (refine' Pure.use (isreg_c _ _ _ _ _ _) ?k1 ?k2 ?k3 ?k4 ?k5 ?kK ?kd ?ku ?_; (((case k1 => k_asm); (case k2 => k_asm); (case k3 => k_asm); (case k4 => k_asm); (case k5 => k_asm); (case kK => first | exact rfl | assumption); (case kd => ktr_room); (case ku => ktr_units); k_whole; intro t9 h9 tk9 F9 N9; (try dsimp only); (try k_fold))))) | ((with_reducible show wpAny _ _ (call (Value.ref 178) _) _ _ _); k_dflt (refine' Pure.use (isblk_c _ _ _ _ _ _) ?k1 ?k2 ?k3 ?k4 ?k5 ?kK ?kd ?ku ?_; (((case k1 => k_asm); (case k2 => k_asm); (case k3 => k_asm); (case k4 => k_asm); (case k5 => k_asm); (case kK => first | exact rfl | assumption); (case kd => ktr_room); (case ku => ktr_units); k_whole; intro t9 h9 tk9 F9 N9; (try dsimp only); (try k_fold))))) | ((with_reducible show wpAny _ _ (call (Value.ref 171) _) _ _ _); k_dflt (refine' Pure.use (ischr_c _ _ _ _ _ _) ?k1 ?k2 ?k3 ?k4 ?k5 ?kK ?kd ?ku ?_; (((case k1 => k_asm); (case k2 => k_asm); (case k3 => k_asm); (case k4 => k_asm); (case k5 => k_asm); (case kK => first | exact rfl | assumption); (case kd => ktr_room); (case ku => ktr_units); k_whole; intro t9 h9 tk9 F9 N9; (try dsimp only); (try k_fold))))) | ((with_reducible show wpAny _ _ (call (Value.ref 164) _) _ _ _); k_dflt (refine' Pure.use (isdir_c _ _ _ _ _ _) ?k1 ?k2 ?k3 ?k4 ?k5 ?kK ?kd ?ku ?_; (((case k1 => k_asm); (case k2 => k_asm); (case k3 => k_asm); (case k4 => k_asm); (case k5 => k_asm); (case kK => first | exact rfl | assumption); (case kd => ktr_room); (case ku => ktr_units); k_whole; intro t9 h9 tk9 F9 N9; (try dsimp only); (try k_fold))))) | ((with_reducible show wpAny _ _ (call (Value.ref 267) _) _ _ _); k_dflt (refine' Pure.useF (mode_f _ _ _ _ _ _) ?k1 ?k2 ?k3 ?k4 ?k5 ?kK ?kd ?ku ?_; (((case k1 => k_asm); (case k2 => k_asm); (case k3 => k_asm); (case k4 => k_asm); (case k5 => k_asm); (case kK => first | exact rfl | assumption); (case kd => ktr_room); (case ku => ktr_units); k_whole; intro p9 t9 h9 tk9 F9 N9; (try dsimp only); (try k_fold))))) | ((with_reducible show wpAny _ _ (call (Value.ref 150) _) _ _ _); k_dflt (refine' Pure.use (imode_c _ _ _ _ _ _) ?k1 ?k2 ?k3 ?k4 ?k5 ?kK ?kd ?ku ?_; (((case k1 => k_asm); (case k2 => k_asm); (case k3 => k_asm); (case k4 => k_asm); (case k5 => k_asm); (case kK => first | exact rfl | assumption); (case kd => ktr_room); (case ku => ktr_units); k_whole; intro t9 h9 tk9 F9 N9; (try dsimp only); (try k_fold))))) | ((with_reducible show wpAny _ _ (call (Value.ref 157) _) _ _ _); k_dflt (refine' Pure.use (ifmt_c _ _ _ _ _ _) ?k1 ?k2 ?k3 ?k4 ?k5 ?kK ?kd ?ku ?_; (((case k1 => k_asm); (case k2 => k_asm); (case k3 => k_asm); (case k4 => k_asm); (case k5 => k_asm); (case kK => first | exact rfl | assumption); (case kd => ktr_room); (case ku => ktr_units); k_whole; intro t9 h9 tk9 F9 N9; (try dsimp only); (try k_fold))))) | ((with_reducible show wpAny _ _ (call (Value.ref 281) _) _ _ _); k_dflt (refine' Pure.use (read_c _ _ _ _ _ _ ?hx) ?k1 ?k2 ?k3 ?k4 ?k5 ?kK ?kd ?ku ?_; (case hx => omega); (((case k1 => k_asm); (case k2 => k_asm); (case k3 => k_asm); (case k4 => k_asm); (case k5 => k_asm); (case kK => first | exact rfl | assumption); (case kd => ktr_room); (case ku => ktr_units); k_whole; intro t9 h9 tk9 F9 N9; (try dsimp only); (try k_fold))))) | ((with_reducible show wpAny _ _ (call (Value.ref 143) _) _ _ _); k_dflt (refine' Pure.useF (norm_f _ _ _ _ _ _ ?hx) ?k1 ?k2 ?k3 ?k4 ?k5 ?kK ?kd ?ku ?_; (case hx => omega); (((case k1 => k_asm); (case k2 => k_asm); (case k3 => k_asm); (case k4 => k_asm); (case k5 => k_asm); (case kK => first | exact rfl | assumption); (case kd => ktr_room); (case ku => ktr_units); k_whole; intro p9 t9 h9 tk9 F9 N9; (try dsimp only); (try k_fold))))) | ((with_reducible show wpAny _ _ (call (Value.ref 136) _) _ _ _); k_dflt (refine' Pure.useF (base_f _ _ _ _ _ _ ?hx) ?k1 ?k2 ?k3 ?k4 ?k5 ?kK ?kd ?ku ?_; (case hx => omega); (((case k1 => k_asm); (case k2 => k_asm); (case k3 => k_asm); (case k4 => k_asm); (case k5 => k_asm); (case kK => first | exact rfl | assumption); (case kd => ktr_room); (case ku => ktr_units); k_whole; intro p9 t9 h9 tk9 F9 N9; (try dsimp only); (try k_fold)))))) <;> ((try dsimp only); k_steps))))
        all_goals refine q_str (lay_3 hmd hz).symm (hret _ _ _ (by k_asm) (gs_nil (by assumption) (by assumption)))
      · obtain ⟨t7, rfl⟩ := fst_one hk hy
        replace N := news_pick [true, true, false, false, false, false, false, false, false, false, true, false, false, false, false, false, true, false, false, true] N
        dsimp only [List.map, pick] at N
        rw [hq] at N
        (k_steps; repeat (any_goals (unfold Halt; (first | (first | ((with_reducible show wpAny _ _ (call (Value.ref 115) [_, _, _, _]) _ _ _); k_dflt (refine' Pure.use (join3_c _ _ _ _ _ _ _ _ _ _ _ _ ?hx) ?k1 ?k2 ?k3 ?k4 ?k5 ?kK ?kd ?ku ?_; (case hx => (simp only [lens]; omega)); (((case k1 => k_asm); (case k2 => k_asm); (case k3 => k_asm); (case k4 => k_asm); (case k5 => k_asm); (case kK => first | exact rfl | assumption); (case kd => ktr_room); (case ku => ktr_units); k_whole; intro t9 h9 tk9 F9 N9; (try dsimp only); (try k_fold))))) | ((with_reducible show wpAny _ _ (call (Value.ref 115) [_, _, _]) _ _ _); k_dflt (refine' Pure.use (join2_c _ _ _ _ _ _ _ _ _ _ ?hx) ?k1 ?k2 ?k3 ?k4 ?k5 ?kK ?kd ?ku ?_; (case hx => (simp only [lens]; omega)); (((case k1 => k_asm); (case k2 => k_asm); (case k3 => k_asm); (case k4 => k_asm); (case k5 => k_asm); (case kK => first | exact rfl | assumption); (case kd => ktr_room); (case ku => ktr_units); k_whole; intro t9 h9 tk9 F9 N9; (try dsimp only); (try k_fold))))) | ((with_reducible show wpAny _ _ (call (Value.ref 115) [_, _]) _ _ _); k_dflt (refine' Pure.use (join_c _ _ _ _ _ _ _ _ ?hx) ?k1 ?k2 ?k3 ?k4 ?k5 ?kK ?kd ?ku ?_; (case hx => (simp only [lens]; omega)); (((case k1 => k_asm); (case k2 => k_asm); (case k3 => k_asm); (case k4 => k_asm); (case k5 => k_asm); (case kK => first | exact rfl | assumption); (case kd => ktr_room); (case ku => ktr_units); k_whole; intro t9 h9 tk9 F9 N9; (try dsimp only); (try k_fold)))))) | ((with_reducible show wpAny _ _ (call (Value.ref 227) _) _ _ _); k_dflt (refine' Pure.use (iswht_c _ _ _ _ _ _) ?k1 ?k2 ?k3 ?k4 ?k5 ?kK ?kd ?ku ?_; (((case k1 => k_asm); (case k2 => k_asm); (case k3 => k_asm); (case k4 => k_asm); (case k5 => k_asm); (case kK => first | exact rfl | assumption); (case kd => ktr_room); (case ku => ktr_units); k_whole; intro t9 h9 tk9 F9 N9; (try dsimp only); (try k_fold))))) | ((with_reducible show wpAny _ _ (call (Value.ref 220) _) _ _ _); k_dflt (refine' Pure.use (isport_c _ _ _ _ _ _) ?k1 ?k2 ?k3 ?k4 ?k5 ?kK ?kd ?ku ?_; (((case k1 => k_asm); (case k2 => k_asm); (case k3 => k_asm); (case k4 => k_asm); (case k5 => k_asm); (case kK => first | exact rfl | assumption); (case kd => ktr_room); (case ku => ktr_units); k_whole; intro t9 h9 tk9 F9 N9; (try dsimp only); (try k_fold))))) | ((with_reducible show wpAny _ _ (call (Value.ref 213) _) _ _ _); k_dflt (refine' Pure.use (isdoor_c _ _ _ _ _ _) ?k1 ?k2 ?k3 ?k4 ?k5 ?kK ?kd ?ku ?_; (((case k1 => k_asm); (case k2 => k_asm); (case k3 => k_asm); (case k4 => k_asm); (case k5 => k_asm); (case kK => first | exact rfl | assumption); (case kd => ktr_room); (case ku => ktr_units); k_whole; intro t9 h9 tk9 F9 N9; (try dsimp only); (try k_fold))))) | ((with_reducible show wpAny _ _ (call (Value.ref 206) _) _ _ _); k_dflt (refine' Pure.use (issock_c _ _ _ _ _ _) ?k1 ?k2 ?k3 ?k4 ?k5 ?kK ?kd ?ku ?_; (((case k1 => k_asm); (case k2 => k_asm); (case k3 => k_asm); (case k4 => k_asm); (case k5 => k_asm); (case kK => first | exact rfl | assumption); (case kd => ktr_room); (case ku => ktr_units); k_whole; intro t9 h9 tk9 F9 N9; (try dsimp only); (try k_fold))))) | ((with_reducible show wpAny _ _ (call (Value.ref 199) _) _ _ _); k_dflt (refine' Pure.use (islnk_c _ _ _ _ _ _) ?k1 ?k2 ?k3 ?k4 ?k5 ?kK ?kd ?ku ?_; (((case k1 => k_asm); (case k2 => k_asm); (case k3 => k_asm); (case k4 => k_asm); (case k5 => k_asm); (case kK => first | exact rfl | assumption); (case kd => ktr_room); (case ku => ktr_units); k_whole; intro t9 h9 tk9 F9 N9; (try dsimp only); (try k_fold))))) | ((with_reducible show wpAny _ _ (call (Value.ref 192) _) _ _ _); k_dflt (refine' Pure.use (isfifo_c _ _ _ _ _ _) ?k1 ?k2 ?k3 ?k4 ?k5 ?kK ?kd ?ku ?_; (((case k1 => k_asm); (case k2 => k_asm); (case k3 => k_asm); (case k4 => k_asm); (case k5 => k_asm); (case kK => first | exact rfl | assumption); (case kd => ktr_room); (case ku => ktr_units); k_whole; intro t9 h9 tk9 F9 N9; (try dsimp only); (try k_fold))))) | ((with_reducible show wpAny _ _ (call (Value.ref 185) _) _ _ _); k_dflt (refine' Pure.use (isreg_c _ _ _ _ _ _) ?k1 ?k2 ?k3 ?k4 ?k5 ?kK ?kd ?ku ?_; (((case k1 => k_asm); (case k2 => k_asm); (case k3 => k_asm); (case k4 => k_asm); (case k5 => k_asm); (case kK => first | exact rfl | assumption); (case kd => ktr_room); (case ku => ktr_units); k_whole; intro t9 h9 tk9 F9 N9; (try dsimp only); (try k_fold))))) | ((with_reducible show wpAny _ _ (call (Value.ref 178) _) _ _ _); k_dflt (refine' Pure.use (isblk_c _ _ _ _ _ _) ?k1 ?k2 ?k3 ?k4 ?k5 ?kK ?kd ?ku ?_; (((case k1 => k_asm); (case k2 => k_asm); (case k3 => k_asm); (case k4 => k_asm); (case k5 => k_asm); (case kK => first | exact rfl | assumption); (case kd => ktr_room); (case ku => ktr_units); k_whole; intro t9 h9 tk9 F9 N9; (try dsimp only); (try k_fold))))) | ((with_reducible show wpAny _ _ (call (Value.ref 171) _) _ _ _); k_dflt (refine' Pure.use (ischr_c _ _ _ _ _ _) ?k1 ?k2 ?k3 ?k4 ?k5 ?kK ?kd ?ku ?_; (((case k1 => k_asm); (case k2 => k_asm); (case k3 => k_asm); (case k4 => k_asm); (case k5 => k_asm); (case kK => first | exact rfl | assumption); (case kd => ktr_room); (case ku => ktr_units); k_whole; intro t9 h9 tk9 F9 N9; (try dsimp only); (try k_fold))))) | ((with_reducible show wpAny _ _ (call (Value.ref 164) _) _ _ _); k_dflt (refine' Pure.use (isdir_c _ _ _ _ _ _) ?k1 ?k2 ?k3 ?k4 ?k5 ?kK ?kd ?ku ?_; (((case k1 => k_asm); (case k2 => k_asm); (case k3 => k_asm); (case k4 => k_asm); (case k5 => k_asm); (case kK => first | exact rfl | assumption); (case kd => ktr_room); (case ku => ktr_units); k_whole; intro t9 h9 tk9 F9 N9; (try dsimp only); (try k_fold))))) | ((with_reducible show wpAny _ _ (call (Value.ref 267) _) _ _ _); k_dflt (refine' Pure.useF (mode_f _ _ _ _ _ _) ?k1 ?k2 ?k3 ?k4 ?k5 ?kK ?kd ?ku ?_; (((case k1 => k_asm); (case k2 => k_asm); (case k3 => k_asm); (case k4 => k_asm); (case k5 => k_asm); (case kK => first | exact rfl | assumption); (case kd => ktr_room); (case ku => ktr_units); k_whole; intro p9 t9 h9 tk9 F9 N9; (try dsimp only); (try k_fold))))) | ((with_reducible show wpAny _ _ (call (Value.ref 150) _) _ _ _); k_dflt (refine' Pure.use (imode_c _ _ _ _ _ _) ?k1 ?k2 ?k3 ?k4 ?k5 ?kK ?kd ?ku ?_; (((case k1 => k_asm); (case k2 => k_asm); (case k3 => k_asm); (case k4 => k_asm); (case k5 => k_asm); (case kK => first | exact rfl | assumption); (case kd => ktr_room); (case ku => ktr_units); k_whole; intro t9 h9 tk9 F9 N9; (try dsimp only); (try k_fold))))) | ((with_reducible show wpAny _ _ (call (Value.ref 157) _) _ _ _); k_dflt (refine' Pure.use (ifmt_c _ _ _ _ _ _) ?k1 ?k2 ?k3 ?k4 ?k5 ?kK ?kd ?ku ?_; (((case k1 => k_asm); (case k2 => k_asm); (case k3 => k_asm); (case k4 => k_asm); (case k5 => k_asm); (case kK => first | exact rfl | assumption); (case kd => ktr_room); (case ku => ktr_units); k_whole; intro t9 h9 tk9 F9 N9; (try dsimp only); (try k_fold))))) | ((with_reducible show wpAny _ _ (call (Value.ref 281) _) _ _ _); k_dflt (refine' Pure.use (read_c _ _ _ _ _ _ ?hx) ?k1 ?k2 ?k3 ?k4 ?k5 ?kK ?kd ?ku ?_; (case hx => omega); (((case k1 => k_asm); (case k2 => k_asm); (case k3 => k_asm); (case k4 => k_asm); (case k5 => k_asm); (case kK => first | exact rfl | assumption); (case kd => ktr_room); (case ku => ktr_units); k_whole; intro t9 h9 tk9 F9 N9; (try dsimp only); (try k_fold))))) | ((with_reducible show wpAny _ _ (call (Value.ref 143) _) _ _ _); k_dflt (refine' Pure.useF (norm_f _ _ _ _ _ _ ?hx) ?k1 ?k2 ?k3 ?k4 ?k5 ?kK ?kd ?ku ?_; (case hx => omega); (((case k1 => k_asm); (case k2 => k_asm); (case k3 => k_asm); (case k4 => k_asm); (case k5 => k_asm); (case kK => first | exact rfl | assumption); (case kd => ktr_room); (case ku => ktr_units); k_whole; intro p9 t9 h9 tk9 F9 N9; (try dsimp only); (try k_fold))))) | ((with_reducible show wpAny _ _ (call (Value.ref 136) _) _ _ _); k_dflt (refine' Pure.useF (base_f _ _ _ _ _ _ ?hx) ?k1 ?k2 ?k3 ?k4 ?k5 ?kK ?kd ?ku ?_; (case hx => omega); (((case k1 => k_asm); (case k2 => k_asm); (case k3 => k_asm); (case k4 => k_asm); (case k5 => k_asm); (case kK => first | exact rfl | assumption); (case kd => ktr_room); (case ku => ktr_units); k_whole; intro p9 t9 h9 tk9 F9 N9; (try dsimp only); (try k_fold)))))) <;> ((try dsimp only); k_steps))))
        all_goals refine q_str (lay_4 hmd hz).symm (hret _ _ _ (by k_asm) (gs_nil (by assumption) (by assumption)))
      · obtain ⟨t7, rfl⟩ := fst_one hk hy
        replace N := news_pick [true, true, false, false, false, false, false, false, false, true, false, false, false, false, false, false, true, false, false, true] N
        dsimp only [List.map, pick] at N
        rw [hq] at N
        (k_steps; repeat (any_goals (unfold Halt; (first | (first | ((with_reducible show wpAny _ _ (call (Value.ref 115) [_, _, _, _]) _ _ _); k_dflt (refine' Pure.use (join3_c _ _ _ _ _ _ _ _ _ _ _ _ ?hx) ?k1 ?k2 ?k3 ?k4 ?k5 ?kK ?kd ?ku ?_; (case hx => (simp only [lens]; omega)); (((case k1 => k_asm); (case k2 => k_asm); (case k3 => k_asm); (case k4 => k_asm); (case k5 => k_asm); (case kK => first | exact rfl | assumption); (case kd => ktr_room); (case ku => ktr_units); k_whole; intro t9 h9 tk9 F9 N9; (try dsimp only); (try k_fold))))) | ((with_reducible show wpAny _ _ (call (Value.ref 115) [_, _, _]) _ _ _); k_dflt (refine' Pure.use (join2_c _ _ _ _ _ _ _ _ _ _ ?hx) ?k1 ?k2 ?k3 ?k4 ?k5 ?kK ?kd ?ku ?_; (case hx => (simp only [lens]; omega)); (((case k1 => k_asm); (case k2 => k_asm); (case k3 => k_asm); (case k4 => k_asm); (case k5 => k_asm); (case kK => first | exact rfl | assumption); (case kd => ktr_room); (case ku => ktr_units); k_whole; intro t9 h9 tk9 F9 N9; (try dsimp only); (try k_fold))))) | ((with_reducible show wpAny _ _ (call (Value.ref 115) [_, _]) _ _ _); k_dflt (refine' Pure.use (join_c _ _ _ _ _ _ _ _ ?hx) ?k1 ?k2 ?k3 ?k4 ?k5 ?kK ?kd ?ku ?_; (case hx => (simp only [lens]; omega)); (((case k1 => k_asm); (case k2 => k_asm); (case k3 => k_asm); (case k4 => k_asm); (case k5 => k_asm); (case kK => first | exact rfl | assumption); (case kd => ktr_room); (case ku => ktr_units); k_whole; intro t9 h9 tk9 F9 N9; (try dsimp only); (try k_fold)))))) | ((with_reducible show wpAny _ _ (call (Value.ref 227) _) _ _ _); k_dflt (refine' Pure.use (iswht_c _ _ _ _ _ _) ?k1 ?k2 ?k3 ?k4 ?k5 ?kK ?kd ?ku ?_; (((case k1 => k_asm); (case k2 => k_asm); (case k3 => k_asm); (case k4 => k_asm); (case k5 => k_asm); (case kK => first | exact rfl | assumption); (case kd => ktr_room); (case ku => ktr_units); k_whole; intro t9 h9 tk9 F9 N9; (try dsimp only); (try k_fold))))) | ((with_reducible show wpAny _ _ (call (Value.ref 220) _) _ _ _); k_dflt (refine' Pure.use (isport_c _ _ _ _ _ _) ?k1 ?k2 ?k3 ?k4 ?k5 ?kK ?kd ?ku ?_; (((case k1 => k_asm); (case k2 => k_asm); (case k3 => k_asm); (case k4 => k_asm); (case k5 => k_asm); (case kK => first | exact rfl | assumption); (case kd => ktr_room); (case ku => ktr_units); k_whole; intro t9 h9 tk9 F9 N9; (try dsimp only); (try k_fold))))) | ((with_reducible show wpAny _ _ (call (Value.ref 213) _) _ _ _); k_dflt (refine' Pure.use (isdoor_c _ _ _ _ _ _) ?k1 ?k2 ?k3 ?k4 ?k5 ?kK ?kd ?ku ?_; (((case k1 => k_asm); (case k2 => k_asm); (case k3 => k_asm); (case k4 => k_asm); (case k5 => k_asm); (case kK => first | exact rfl | assumption); (case kd => ktr_room); (case ku => ktr_units); k_whole; intro t9 h9 tk9 F9 N9; (try dsimp only); (try k_fold))))) | ((with_reducible show wpAny _ _ (call (Value.ref 206) _) _ _ _); k_dflt (refine' Pure.use (issock_c _ _ _ _ _ _) ?k1 ?k2 ?k3 ?k4 ?k5 ?kK ?kd ?ku ?_; (((case k1 => k_asm); (case k2 => k_asm); (case k3 => k_asm); (case k4 => k_asm); (case k5 => k_asm); (case kK => first | exact rfl | assumption); (case kd => ktr_room); (case ku => ktr_units); k_whole; intro t9 h9 tk9 F9 N9; (try dsimp only); (try k_fold))))) | ((with_reducible show wpAny _ _ (call (Value.ref 199) _) _ _ _); k_dflt (refine' Pure.use (islnk_c _ _ _ _ _ _) ?k1 ?k2 ?k3 ?k4 ?k5 ?kK ?kd ?ku ?_; (((case k1 => k_asm); (case k2 => k_asm); (case k3 => k_asm); (case k4 => k_asm); (case k5 => k_asm); (case kK => first | exact rfl | assumption); (case kd => ktr_room); (case ku => ktr_units); k_whole; intro t9 h9 tk9 F9 N9; (try dsimp only); (try k_fold))))) | ((with_reducible show wpAny _ _ (call (Value.ref 192) _) _ _ _); k_dflt (refine' Pure.use (isfifo_c _ _ _ _ _ _) ?k1 ?k2 ?k3 ?k4 ?k5 ?kK ?kd ?ku ?_; (((case k1 => k_asm); (case k2 => k_asm); (case k3 => k_asm); (case k4 => k_asm); (case k5 => k_asm); (case kK => first | exact rfl | assumption); (case kd => ktr_room); (case ku => ktr_units); k_whole; intro t9 h9 tk9 F9 N9; (try dsimp only); (try k_fold))))) | ((with_reducible show wpAny _ _ (call (Value.ref 185) _) _ _ _); k_dflt (refine' Pure.use (isreg_c _ _ _ _ _ _) ?k1 ?k2 ?k3 ?k4 ?k5 ?kK ?kd ?ku ?_; (((case k1 => k_asm); (case k2 => k_asm); (case k3 => k_asm); (case k4 => k_asm); (case k5 => k_asm); (case kK => first | exact rfl | assumption); (case kd => ktr_room); (case ku => ktr_units); k_whole; intro t9 h9 tk9 F9 N9; (try dsimp only); (try k_fold))))) | ((with_reducible show wpAny _ _ (call (Value.ref 178) _) _ _ _); k_dflt (refine' Pure.use (isblk_c _ _ _ _ _ _) ?k1 ?k2 ?k3 ?k4 ?k5 ?kK ?kd ?ku ?_; (((case k1 => k_asm); (case k2 => k_asm); (case k3 => k_asm); (case k4 => k_asm); (case k5 => k_asm); (case kK => first | exact rfl | assumption); (case kd => ktr_room); (case ku => ktr_units); k_whole; intro t9 h9 tk9 F9 N9; (try dsimp only); (try k_fold))))) | ((with_reducible show wpAny _ _ (call (Value.ref 171) _) _ _ _); k_dflt (refine' Pure.use (ischr_c _ _ _ _ _ _) ?k1 ?k2 ?k3 ?k4 ?k5 ?kK ?kd ?ku ?_; (((case k1 => k_asm); (case k2 => k_asm); (case k3 => k_asm); (case k4 => k_asm); (case k5 => k_asm); (case kK => first | exact rfl | assumption); (case kd => ktr_room); (case ku => ktr_units); k_whole; intro t9 h9 tk9 F9 N9; (try dsimp only); (try k_fold))))) | ((with_reducible show wpAny _ _ (call (Value.ref 164) _) _ _ _); k_dflt (refine' Pure.use (isdir_c _ _ _ _ _ _) ?k1 ?k2 ?k3 ?k4 ?k5 ?kK ?kd ?ku ?_; (((case k1 => k_asm); (case k2 => k_asm); (case k3 => k_asm); (case k4 => k_asm); (case k5 => k_asm); (case kK => first | exact rfl | assumption); (case kd => ktr_room); (case ku => ktr_units); k_whole; intro t9 h9 tk9 F9 N9; (try dsimp only); (try k_fold))))) | ((with_reducible show wpAny _ _ (call (Value.ref 267) _) _ _ _); k_dflt (refine' Pure.useF (mode_f _ _ _ _ _ _) ?k1 ?k2 ?k3 ?k4 ?k5 ?kK ?kd ?ku ?_; (((case k1 => k_asm); (case k2 => k_asm); (case k3 => k_asm); (case k4 => k_asm); (case k5 => k_asm); (case kK => first | exact rfl | assumption); (case kd => ktr_room); (case ku => ktr_units); k_whole; intro p9 t9 h9 tk9 F9 N9; (try dsimp only); (try k_fold))))) | ((with_reducible show wpAny _ _ (call (Value.ref 150) _) _ _ _); k_dflt (refine' Pure.use (imode_c _ _ _ _ _ _) ?k1 ?k2 ?k3 ?k4 ?k5 ?kK ?kd ?ku ?_; (((case k1 => k_asm); (case k2 => k_asm); (case k3 => k_asm); (case k4 => k_asm); (case k5 => k_asm); (case kK => first | exact rfl | assumption); (case kd => ktr_room); (case ku => ktr_units); k_whole; intro t9 h9 tk9 F9 N9; (try dsimp only); (try k_fold))))) | ((with_reducible show wpAny _ _ (call (Value.ref 157) _) _ _ _); k_dflt (refine' Pure.use (ifmt_c _ _ _ _ _ _) ?k1 ?k2 ?k3 ?k4 ?k5 ?kK ?kd ?ku ?_; (((case k1 => k_asm); (case k2 => k_asm); (case k3 => k_asm); (case k4 => k_asm); (case k5 => k_asm); (case kK => first | exact rfl | assumption); (case kd => ktr_room); (case ku => ktr_units); k_whole; intro t9 h9 tk9 F9 N9; (try dsimp only); (try k_fold))))) | ((with_reducible show wpAny _ _ (call (Value.ref 281) _) _ _ _); k_dflt (refine' Pure.use (read_c _ _ _ _ _ _ ?hx) ?k1 ?k2 ?k3 ?k4 ?k5 ?kK ?kd ?ku ?_; (case hx => omega); (((case k1 => k_asm); (case k2 => k_asm); (case k3 => k_asm); (case k4 => k_asm); (case k5 => k_asm); (case kK => first | exact rfl | assumption); (case kd => ktr_room); (case ku => ktr_units); k_whole; intro t9 h9 tk9 F9 N9; (try dsimp only); (try k_fold))))) | ((with_reducible show wpAny _ _ (call (Value.ref 143) _) _ _ _); k_dflt (refine' Pure.useF (norm_f _ _ _ _ _ _ ?hx) ?k1 ?k2 ?k3 ?k4 ?k5 ?kK ?kd ?ku ?_; (case hx => omega); (((case k1 => k_asm); (case k2 => k_asm); (case k3 => k_asm); (case k4 => k_asm); (case k5 => k_asm); (case kK => first | exact rfl | assumption); (case kd => ktr_room); (case ku => ktr_units); k_whole; intro p9 t9 h9 tk9 F9 N9; (try dsimp only); (try k_fold))))) | ((with_reducible show wpAny _ _ (call (Value.ref 136) _) _ _ _); k_dflt (refine' Pure.useF (base_f _ _ _ _ _ _ ?hx) ?k1 ?k2 ?k3 ?k4 ?k5 ?kK ?kd ?ku ?_; (case hx => omega); (((case k1 => k_asm); (case k2 => k_asm); (case k3 => k_asm); (case k4 => k_asm); (case k5 => k_asm); (case kK => first | exact rfl | assumption); (case kd => ktr_room); (case ku => ktr_units); k_whole; intro p9 t9 h9 tk9 F9 N9; (try dsimp only); (try k_fold)))))) <;> ((try dsimp only); k_steps))))
        all_goals refine q_str (lay_5 hmd hz).symm (hret _ _ _ (by k_asm) (gs_nil (by assumption) (by assumption)))
      · obtain ⟨t7, rfl⟩ := fst_one hk hy
        replace N := news_pick [true, true, false, false, false, false, true, false, false, false, false, false, false, false, false, false, true, false, false, true] N
        dsimp only [List.map, pick] at N
        rw [hq] at N
        (k_steps; repeat (any_goals (unfold Halt; (first | (first | ((with_reducible show wpAny _ _ (call (Value.ref 115) [_, _, _, _]) _ _ _); k_dflt (refine' Pure.use (join3_c _ _ _ _ _ _ _ _ _ _ _ _ ?hx) ?k1 ?k2 ?k3 ?k4 ?k5 ?kK ?kd ?ku ?_; (case hx => (simp only [lens]; omega)); (((case k1 => k_asm); (case k2 => k_asm); (case k3 => k_asm); (case k4 => k_asm); (case k5 => k_asm); (case kK => first | exact rfl | assumption); (case kd => ktr_room); (case ku => ktr_units); k_whole; intro t9 h9 tk9 F9 N9; (try dsimp only); (try k_fold))))) | ((with_reducible show wpAny _ _ (call (Value.ref 115) [_, _, _]) _ _ _); k_dflt (refine' Pure.use (join2_c _ _ _ _ _ _ _ _ _ _ ?hx) ?k1 ?k2 ?k3 ?k4 ?k5 ?kK ?kd ?ku ?_; (case hx => (simp only [lens]; omega)); (((case k1 => k_asm); (case k2 => k_asm); (case k3 => k_asm); (case k4 => k_asm); (case k5 => k_asm); (case kK => first | exact rfl | assumption); (case kd => ktr_room); (case ku => ktr_units); k_whole; intro t9 h9 tk9 F9 N9; (try dsimp only); (try k_fold))))) | ((with_reducible show wpAny _ _ (call (Value.ref 115) [_, _]) _ _ _); k_dflt (refine' Pure.use (join_c _ _ _ _ _ _ _ _ ?hx) ?k1 ?k2 ?k3 ?k4 ?k5 ?kK ?kd ?ku ?_; (case hx => (simp only [lens]; omega)); (((case k1 => k_asm); (case k2 => k_asm); (case k3 => k_asm); (case k4 => k_asm); (case k5 => k_asm); (case kK => first | exact rfl | assumption); (case kd => ktr_room); (case ku => ktr_units); k_whole; intro t9 h9 tk9 F9 N9; (try dsimp only); (try k_fold)))))) | ((with_reducible show wpAny _ _ (call (Value.ref 227) _) _ _ _); k_dflt (refine' Pure.use (iswht_c _ _ _ _ _ _) ?k1 ?k2 ?k3 ?k4 ?k5 ?kK ?kd ?ku ?_; (((case k1 => k_asm); (case k2 => k_asm); (case k3 => k_asm); (case k4 => k_asm); (case k5 => k_asm); (case kK => first | exact rfl | assumption); (case kd => ktr_room); (case ku => ktr_units); k_whole; intro t9 h9 tk9 F9 N9; (try dsimp only); (try k_fold))))) | ((with_reducible show wpAny _ _ (call (Value.ref 220) _) _ _ _); k_dflt (refine' Pure.use (isport_c _ _ _ _ _ _) ?k1 ?k2 ?k3 ?k4 ?k5 ?kK ?kd ?ku ?_; (((case k1 => k_asm); (case k2 => k_asm); (case k3 => k_asm); (case k4 => k_asm); (case k5 => k_asm); (case kK => first | exact rfl | assumption); (case kd => ktr_room); (case ku => ktr_units); k_whole; intro t9 h9 tk9 F9 N9; (try dsimp only); (try k_fold))))) | ((with_reducible show wpAny _ _ (call (Value.ref 213) _) _ _ _); k_dflt (refine' Pure.use (isdoor_c _ _ _ _ _ _) ?k1 ?k2 ?k3 ?k4 ?k5 ?kK ?kd ?ku ?_; (((case k1 => k_asm); (case k2 => k_asm); (case k3 => k_asm); (case k4 => k_asm); (case k5 => k_asm); (case kK => first | exact rfl | assumption); (case kd => ktr_room); (case ku => ktr_units); k_whole; intro t9 h9 tk9 F9 N9; (try dsimp only); (try k_fold))))) | ((with_reducible show wpAny _ _ (call (Value.ref 206) _) _ _ _); k_dflt (refine' Pure.use (issock_c _ _ _ _ _ _) ?k1 ?k2 ?k3 ?k4 ?k5 ?kK ?kd ?ku ?_; (((case k1 => k_asm); (case k2 => k_asm); (case k3 => k_asm); (case k4 => k_asm); (case k5 => k_asm); (case kK => first | exact rfl | assumption); (case kd => ktr_room); (case ku => ktr_units); k_whole; intro t9 h9 tk9 F9 N9; (try dsimp only); (try k_fold))))) | ((with_reducible show wpAny _ _ (call (Value.ref 199) _) _ _ _); k_dflt (refine' Pure.use (islnk_c _ _ _ _ _ _) ?k1 ?k2 ?k3 ?k4 ?k5 ?kK ?kd ?ku ?_; (((case k1 => k_asm); (case k2 => k_asm); (case k3 => k_asm); (case k4 => k_asm); (case k5 => k_asm); (case kK => first | exact rfl | assumption); (case kd => ktr_room); (case ku => ktr_units); k_whole; intro t9 h9 tk9 F9 N9; (try dsimp only); (try k_fold))))) | ((with_reducible show wpAny _ _ (call (Value.ref 192) _) _ _ _); k_dflt (refine' Pure.use (isfifo_c _ _ _ _ _ _) ?k1 ?k2 ?k3 ?k4 ?k5 ?kK ?kd ?ku ?_; (((case k1 => k_asm); (case k2 => k_asm); (case k3 => k_asm); (case k4 => k_asm); (case k5 => k_asm); (case kK => first | exact rfl | assumption); (case kd => ktr_room); (case ku => ktr_units); k_whole; intro t9 h9 tk9 F9 N9; (try dsimp only); (try k_fold))))) | ((with_reducible show wpAny _ _ (call (Value.ref 185) _) _ _ _); k_dflt (refine' Pure.use (isreg_c _ _ _ _ _ _) ?k1 ?k2 ?k3 ?k4 ?k5 ?kK ?kd ?ku ?_; (((case k1 => k_asm); (case k2 => k_asm); (case k3 => k_asm); (case k4 => k_asm); (case k5 => k_asm); (case kK => first | exact rfl | assumption); (case kd => ktr_room); (case ku => ktr_units); k_whole; intro t9 h9 tk9 F9 N9; (try dsimp only); (try k_fold))))) | ((with_reducible show wpAny _ _ (call (Value.ref 178) _) _ _ _); k_dflt (refine' Pure.use (isblk_c _ _ _ _ _ _) ?k1 ?k2 ?k3 ?k4 ?k5 ?kK ?kd ?ku ?_; (((case k1 => k_asm); (case k2 => k_asm); (case k3 => k_asm); (case k4 => k_asm); (case k5 => k_asm); (case kK => first | exact rfl | assumption); (case kd => ktr_room); (case ku => ktr_units); k_whole; intro t9 h9 tk9 F9 N9; (try dsimp only); (try k_fold))))) | ((with_reducible show wpAny _ _ (call (Value.ref 171) _) _ _ _); k_dflt (refine' Pure.use (ischr_c _ _ _ _ _ _) ?k1 ?k2 ?k3 ?k4 ?k5 ?kK ?kd ?ku ?_; (((case k1 => k_asm); (case k2 => k_asm); (case k3 => k_asm); (case k4 => k_asm); (case k5 => k_asm); (case kK => first | exact rfl | assumption); (case kd => ktr_room); (case ku => ktr_units); k_whole; intro t9 h9 tk9 F9 N9; (try dsimp only); (try k_fold))))) | ((with_reducible show wpAny _ _ (call (Value.ref 164) _) _ _ _); k_dflt (refine' Pure.use (isdir_c _ _ _ _ _ _) ?k1 ?k2 ?k3 ?k4 ?k5 ?kK ?kd ?ku ?_; (((case k1 => k_asm); (case k2 => k_asm); (case k3 => k_asm); (case k4 => k_asm); (case k5 => k_asm); (case kK => first | exact rfl | assumption); (case kd => ktr_room); (case ku => ktr_units); k_whole; intro t9 h9 tk9 F9 N9; (try dsimp only); (try k_fold))))) | ((with_reducible show wpAny _ _ (call (Value.ref 267) _) _ _ _); k_dflt (refine' Pure.useF (mode_f _ _ _ _ _ _) ?k1 ?k2 ?k3 ?k4 ?k5 ?kK ?kd ?ku ?_; (((case k1 => k_asm); (case k2 => k_asm); (case k3 => k_asm); (case k4 => k_asm); (case k5 => k_asm); (case kK => first | exact rfl | assumption); (case kd => ktr_room); (case ku => ktr_units); k_whole; intro p9 t9 h9 tk9 F9 N9; (try dsimp only); (try k_fold))))) | ((with_reducible show wpAny _ _ (call (Value.ref 150) _) _ _ _); k_dflt (refine' Pure.use (imode_c _ _ _ _ _ _) ?k1 ?k2 ?k3 ?k4 ?k5 ?kK ?kd ?ku ?_; (((case k1 => k_asm); (case k2 => k_asm); (case k3 => k_asm); (case k4 => k_asm); (case k5 => k_asm); (case kK => first | exact rfl | assumption); (case kd => ktr_room); (case ku => ktr_units); k_whole; intro t9 h9 tk9 F9 N9; (try dsimp only); (try k_fold))))) | ((with_reducible show wpAny _ _ (call (Value.ref 157) _) _ _ _); k_dflt (refine' Pure.use (ifmt_c _ _ _ _ _ _) ?k1 ?k2 ?k3 ?k4 ?k5 ?kK ?kd ?ku ?_; (((case k1 => k_asm); (case k2 => k_asm); (case k3 => k_asm); (case k4 => k_asm); (case k5 => k_asm); (case kK => first | exact rfl | assumption); (case kd => ktr_room); (case ku => ktr_units); k_whole; intro t9 h9 tk9 F9 N9; (try dsimp only); (try k_fold))))) | ((with_reducible show wpAny _ _ (call (Value.ref 281) _) _ _ _); k_dflt (refine' Pure.use (read_c _ _ _ _ _ _ ?hx) ?k1 ?k2 ?k3 ?k4 ?k5 ?kK ?kd ?ku ?_; (case hx => omega); (((case k1 => k_asm); (case k2 => k_asm); (case k3 => k_asm); (case k4 => k_asm); (case k5 => k_asm); (case kK => first | exact rfl | assumption); (case kd => ktr_room); (case ku => ktr_units); k_whole; intro t9 h9 tk9 F9 N9; (try dsimp only); (try k_fold))))) | ((with_reducible show wpAny _ _ (call (Value.ref 143) _) _ _ _); k_dflt (refine' Pure.useF (norm_f _ _ _ _ _ _ ?hx) ?k1 ?k2 ?k3 ?k4 ?k5 ?kK ?kd ?ku ?_; (case hx => omega); (((case k1 => k_asm); (case k2 => k_asm); (case k3 => k_asm); (case k4 => k_asm); (case k5 => k_asm); (case kK => first | exact rfl | assumption); (case kd => ktr_room); (case ku => ktr_units); k_whole; intro p9 t9 h9 tk9 F9 N9; (try dsimp only); (try k_fold))))) | ((with_reducible show wpAny _ _ (call (Value.ref 136) _) _ _ _); k_dflt (refine' Pure.useF (base_f _ _ _ _ _ _ ?hx) ?k1 ?k2 ?k3 ?k4 ?k5 ?kK ?kd ?ku ?_; (case hx => omega); (((case k1 => k_asm); (case k2 => k_asm); (case k3 => k_asm); (case k4 => k_asm); (case k5 => k_asm); (case kK => first | exact rfl | assumption); (case kd => ktr_room); (case ku => ktr_units); k_whole; intro p9 t9 h9 tk9 F9 N9; (try dsimp only); (try k_fold)))))) <;> ((try dsimp only); k_steps))))
        all_goals refine q_str (lay_6 hmd hz).symm (hret _ _ _ (by k_asm) (gs_nil (by assumption) (by assumption)))
      · have ek := fst_nil hk hy
        subst ek
        replace N := news_pick [true, true, false, false, false, false, false, false, false, false, false, false, false, false, false, false, true, false, false, true] N
        dsimp only [List.map, pick] at N
        (k_steps; repeat (any_goals (unfold Halt; (first | (first | ((with_reducible show wpAny _ _ (call (Value.ref 115) [_, _, _, _]) _ _ _); k_dflt (refine' Pure.use (join3_c _ _ _ _ _ _ _ _ _ _ _ _ ?hx) ?k1 ?k2 ?k3 ?k4 ?k5 ?kK ?kd ?ku ?_; (case hx => (simp only [lens]; omega)); (((case k1 => k_asm); (case k2 => k_asm); (case k3 => k_asm); (case k4 => k_asm); (case k5 => k_asm); (case kK => first | exact rfl | assumption); (case kd => ktr_room); (case ku => ktr_units); k_whole; intro t9 h9 tk9 F9 N9; (try dsimp only); (try k_fold))))) | ((with_reducible show wpAny _ _ (call (Value.ref 115) [_, _, _]) _ _ _); k_dflt (refine' Pure.use (join2_c _ _ _ _ _ _ _ _ _ _ ?hx) ?k1 ?k2 ?k3 ?k4 ?k5 ?kK ?kd ?ku ?_; (case hx => (simp only [lens]; omega)); (((case k1 => k_asm); (case k2 => k_asm); (case k3 => k_asm); (case k4 => k_asm); (case k5 => k_asm); (case kK => first | exact rfl | assumption); (case kd => ktr_room); (case ku => ktr_units); k_whole; intro t9 h9 tk9 F9 N9; (try dsimp only); (try k_fold))))) | ((with_reducible show wpAny _ _ (call (Value.ref 115) [_, _]) _ _ _); k_dflt (refine' Pure.use (join_c _ _ _ _ _ _ _ _ ?hx) ?k1 ?k2 ?k3 ?k4 ?k5 ?kK ?kd ?ku ?_; (case hx => (simp only [lens]; omega)); (((case k1 => k_asm); (case k2 => k_asm); (case k3 => k_asm); (case k4 => k_asm); (case k5 => k_asm); (case kK => first | exact rfl | assumption); (case kd => ktr_room); (case ku => ktr_units); k_whole; intro t9 h9 tk9 F9 N9; (try dsimp only); (try k_fold)))))) | ((with_reducible show wpAny _ _ (call (Value.ref 227) _) _ _ _); k_dflt (refine' Pure.use (iswht_c _ _ _ _ _ _) ?k1 ?k2 ?k3 ?k4 ?k5 ?kK ?kd ?ku ?_; (((case k1 => k_asm); (case k2 => k_asm); (case k3 => k_asm); (case k4 => k_asm); (case k5 => k_asm); (case kK => first | exact rfl | assumption); (case kd => ktr_room); (case ku => ktr_units); k_whole; intro t9 h9 tk9 F9 N9; (try dsimp only); (try k_fold))))) | ((with_reducible show wpAny _ _ (call (Value.ref 220) _) _ _ _); k_dflt (refine' Pure.use (isport_c _ _ _ _ _ _) ?k1 ?k2 ?k3 ?k4 ?k5 ?kK ?kd ?ku ?_; (((case k1 => k_asm); (case k2 => k_asm); (case k3 => k_asm); (case k4 => k_asm); (case k5 => k_asm); (case kK => first | exact rfl | assumption); (case kd => ktr_room); (case ku => ktr_units); k_whole; intro t9 h9 tk9 F9 N9; (try dsimp only); (try k_fold))))) | ((with_reducible show wpAny _ _ (call (Value.ref 213) _) _ _ _); k_dflt (refine' Pure.use (isdoor_c _ _ _ _ _ _) ?k1 ?k2 ?k3 ?k4 ?k5 ?kK ?kd ?ku ?_; (((case k1 => k_asm); (case k2 => k_asm); (case k3 => k_asm); (case k4 => k_asm); (case k5 => k_asm); (case kK => first | exact rfl | assumption); (case kd => ktr_room); (case ku => ktr_units); k_whole; intro t9 h9 tk9 F9 N9; (try dsimp only); (try k_fold))))) | ((with_reducible show wpAny _ _ (call (Value.ref 206) _) _ _ _); k_dflt (refine' Pure.use (issock_c _ _ _ _ _ _) ?k1 ?k2 ?k3 ?k4 ?k5 ?kK ?kd ?ku ?_; (((case k1 => k_asm); (case k2 => k_asm); (case k3 => k_asm); (case k4 => k_asm); (case k5 => k_asm); (case kK => first | exact rfl | assumption); (case kd => ktr_room); (case ku => ktr_units); k_whole; intro t9 h9 tk9 F9 N9; (try dsimp only); (try k_fold))))) | ((with_reducible show wpAny _ _ (call (Value.ref 199) _) _ _ _); k_dflt (refine' Pure.use (islnk_c _ _ _ _ _ _) ?k1 ?k2 ?k3 ?k4 ?k5 ?kK ?kd ?ku ?_; (((case k1 => k_asm); (case k2 => k_asm); (case k3 => k_asm); (case k4 => k_asm); (case k5 => k_asm); (case kK => first | exact rfl | assumption); (case kd => ktr_room); (case ku => ktr_units); k_whole; intro t9 h9 tk9 F9 N9; (try dsimp only); (try k_fold))))) | ((with_reducible show wpAny _ _ (call (Value.ref 192) _) _ _ _); k_dflt (refine' Pure.use (isfifo_c _ _ _ _ _ _) ?k1 ?k2 ?k3 ?k4 ?k5 ?kK ?kd ?ku ?_; (((case k1 => k_asm); (case k2 => k_asm); (case k3 => k_asm); (case k4 => k_asm); (case k5 => k_asm); (case kK => first | exact rfl | assumption); (case kd => ktr_room); (case ku => ktr_units); k_whole; intro t9 h9 tk9 F9 N9; (try dsimp only); (try k_fold))))) | ((with_reducible show wpAny _ _ (call (Value.ref 185) _) _ _ _); k_dflt (refine' Pure.use (isreg_c _ _ _ _ _ _) ?k1 ?k2 ?k3 ?k4 ?k5 ?kK ?kd ?ku ?_; (((case k1 => k_asm); (case k2 => k_asm); (case k3 => k_asm); (case k4 => k_asm); (case k5 => k_asm); (case kK => first | exact rfl | assumption); (case kd => ktr_room); (case ku => ktr_units); k_whole; intro t9 h9 tk9 F9 N9; (try dsimp only); (try k_fold))))) | ((with_reducible show wpAny _ _ (call (Value.ref 178) _) _ _ _); k_dflt (refine' Pure.use (isblk_c _ _ _ _ _ _) ?k1 ?k2 ?k3 ?k4 ?k5 ?kK ?kd ?ku ?_; (((case k1 => k_asm); (case k2 => k_asm); (case k3 => k_asm); (case k4 => k_asm); (case k5 => k_asm); (case kK => first | exact rfl | assumption); (case kd => ktr_room); (case ku => ktr_units); k_whole; intro t9 h9 tk9 F9 N9; (try dsimp only); (try k_fold))))) | ((with_reducible show wpAny _ _ (call (Value.ref 171) _) _ _ _); k_dflt (refine' Pure.use (ischr_c _ _ _ _ _ _) ?k1 ?k2 ?k3 ?k4 ?k5 ?kK ?kd ?ku ?_; (((case k1 => k_asm); (case k2 => k_asm); (case k3 => k_asm); (case k4 => k_asm); (case k5 => k_asm); (case kK => first | exact rfl | assumption); (case kd => ktr_room); (case ku => ktr_units); k_whole; intro t9 h9 tk9 F9 N9; (try dsimp only); (try k_fold))))) | ((with_reducible show wpAny _ _ (call (Value.ref 164) _) _ _ _); k_dflt (refine' Pure.use (isdir_c _ _ _ _ _ _) ?k1 ?k2 ?k3 ?k4 ?k5 ?kK ?kd ?ku ?_; (((case k1 => k_asm); (case k2 => k_asm); (case k3 => k_asm); (case k4 => k_asm); (case k5 => k_asm); (case kK => first | exact rfl | assumption); (case kd => ktr_room); (case ku => ktr_units); k_whole; intro t9 h9 tk9 F9 N9; (try dsimp only); (try k_fold))))) | ((with_reducible show wpAny _ _ (call (Value.ref 267) _) _ _ _); k_dflt (refine' Pure.useF (mode_f _ _ _ _ _ _) ?k1 ?k2 ?k3 ?k4 ?k5 ?kK ?kd ?ku ?_; (((case k1 => k_asm); (case k2 => k_asm); (case k3 => k_asm); (case k4 => k_asm); (case k5 => k_asm); (case kK => first | exact rfl | assumption); (case kd => ktr_room); (case ku => ktr_units); k_whole; intro p9 t9 h9 tk9 F9 N9; (try dsimp only); (try k_fold))))) | ((with_reducible show wpAny _ _ (call (Value.ref 150) _) _ _ _); k_dflt (refine' Pure.use (imode_c _ _ _ _ _ _) ?k1 ?k2 ?k3 ?k4 ?k5 ?kK ?kd ?ku ?_; (((case k1 => k_asm); (case k2 => k_asm); (case k3 => k_asm); (case k4 => k_asm); (case k5 => k_asm); (case kK => first | exact rfl | assumption); (case kd => ktr_room); (case ku => ktr_units); k_whole; intro t9 h9 tk9 F9 N9; (try dsimp only); (try k_fold))))) | ((with_reducible show wpAny _ _ (call (Value.ref 157) _) _ _ _); k_dflt (refine' Pure.use (ifmt_c _ _ _ _ _ _) ?k1 ?k2 ?k3 ?k4 ?k5 ?kK ?kd ?ku ?_; (((case k1 => k_asm); (case k2 => k_asm); (case k3 => k_asm); (case k4 => k_asm); (case k5 => k_asm); (case kK => first | exact rfl | assumption); (case kd => ktr_room); (case ku => ktr_units); k_whole; intro t9 h9 tk9 F9 N9; (try dsimp only); (try k_fold))))) | ((with_reducible show wpAny _ _ (call (Value.ref 281) _) _ _ _); k_dflt (refine' Pure.use (read_c _ _ _ _ _ _ ?hx) ?k1 ?k2 ?k3 ?k4 ?k5 ?kK ?kd ?ku ?_; (case hx => omega); (((case k1 => k_asm); (case k2 => k_asm); (case k3 => k_asm); (case k4 => k_asm); (case k5 => k_asm); (case kK => first | exact rfl | assumption); (case kd => ktr_room); (case ku => ktr_units); k_whole; intro t9 h9 tk9 F9 N9; (try dsimp only); (try k_fold))))) | ((with_reducible show wpAny _ _ (call (Value.ref 143) _) _ _ _); k_dflt (refine' Pure.useF (norm_f _ _ _ _ _ _ ?hx) ?k1 ?k2 ?k3 ?k4 ?k5 ?kK ?kd ?ku ?_; (case hx => omega); (((case k1 => k_asm); (case k2 => k_asm); (case k3 => k_asm); (case k4 => k_asm); (case k5 => k_asm); (case kK => first | exact rfl | assumption); (case kd => ktr_room); (case ku => ktr_units); k_whole; intro p9 t9 h9 tk9 F9 N9; (try dsimp only); (try k_fold))))) | ((with_reducible show wpAny _ _ (call (Value.ref 136) _) _ _ _); k_dflt (refine' Pure.useF (base_f _ _ _ _ _ _ ?hx) ?k1 ?k2 ?k3 ?k4 ?k5 ?kK ?kd ?ku ?_; (case hx => omega); (((case k1 => k_asm); (case k2 => k_asm); (case k3 => k_asm); (case k4 => k_asm); (case k5 => k_asm); (case kK => first | exact rfl | assumption); (case kd => ktr_room); (case ku => ktr_units); k_whole; intro p9 t9 h9 tk9 F9 N9; (try dsimp only); (try k_fold)))))) <;> ((try dsimp only); k_steps))))
        all_goals refine q_str (lay_7 hmd hz).symm (hret _ _ _ (by k_asm) (gs_nil (by assumption) (by assumption)))
end

-- 27_rows
-- rows of names: lists of pairs (an int, a text), none of which is ever changed
noncomputable def EntIn (P : Addr → Obj → Prop) (v : Value) (e : Int × Str) : Prop := ∃ b t1 t2, v = .ref b ∧ P b (tupO [.int e.1 t1, .str e.2 t2]) ∧ PyData.strOk e.2 = true
noncomputable def EntsIn (P : Addr → Obj → Prop) : List Value → List (Int × Str) → Prop
  | [], [] => True
  | v :: vs, e :: es => EntIn P v e ∧ EntsIn P vs es
  | _, _ => False
noncomputable def RowIn (P : Addr → Obj → Prop) (v : Value) (row : List (Int × Str)) : Prop := ∃ a vs n, v = .ref a ∧ P a (W.listOf (List.toArray vs) n) ∧ EntsIn P vs row
theorem EntIn.mono {P P' : Addr → Obj → Prop} (h : ∀ a o, P a o → P' a o) {v : Value} {e : Int × Str} : EntIn P v e → EntIn P' v e := fun ⟨b, t1, t2, h1, h2, h3⟩ => ⟨b, t1, t2, h1, h _ _ h2, h3⟩
theorem EntsIn.mono {P P' : Addr → Obj → Prop} (h : ∀ a o, P a o → P' a o) : ∀ {vs : List Value} {es : List (Int × Str)}, EntsIn P vs es → EntsIn P' vs es
  | [], [], _ => trivial
  | _ :: _, _ :: _, x => ⟨x.1.mono h, EntsIn.mono h x.2⟩
  | [], _ :: _, x => x.elim
  | _ :: _, [], x => x.elim
theorem RowIn.mono {P P' : Addr → Obj → Prop} (h : ∀ a o, P a o → P' a o) {v : Value} {row : List (Int × Str)} : RowIn P v row → RowIn P' v row := fun ⟨a, vs, n, h1, h2, h3⟩ => ⟨a, vs, n, h1, h _ _ h2, h3.mono h⟩
theorem EntsIn.len {P : Addr → Obj → Prop} : ∀ {vs : List Value} {es : List (Int × Str)}, EntsIn P vs es → vs.length = es.length
  | [], [], _ => rfl
  | _ :: _, _ :: _, x => congrArg (· + 1) (EntsIn.len x.2)
  | [], _ :: _, x => x.elim
  | _ :: _, [], x => x.elim
theorem EntsIn.app {P : Addr → Obj → Prop} : ∀ {vs us : List Value} {es fs : List (Int × Str)}, EntsIn P vs es → EntsIn P us fs → EntsIn P (vs ++ us) (es ++ fs)
  | [], _, [], _, _, y => y
  | _ :: _, _, _ :: _, _, x, y => ⟨x.1, EntsIn.app x.2 y⟩
  | [], _, _ :: _, _, x, _ => x.elim
  | _ :: _, _, [], _, x, _ => x.elim
theorem EntsIn.one {P : Addr → Obj → Prop} {v : Value} {e : Int × Str} (x : EntIn P v e) : EntsIn P [v] [e] := ⟨x, trivial⟩
theorem EntsIn.snoc {P : Addr → Obj → Prop} : ∀ {vs : List Value} {es : List (Int × Str)} {e : Int × Str}, EntsIn P vs (es ++ [e]) → ∃ vs' v, vs = vs' ++ [v] ∧ EntsIn P vs' es ∧ EntIn P v e
  | [], [], _, x => x.elim
  | [], _ :: _, _, x => x.elim
  | [v], [], _, x => ⟨[], v, rfl, trivial, x.1⟩
  | _ :: _ :: _, [], _, x => x.2.elim
  | v :: vs, _ :: es, _, x => by
    obtain ⟨vs', u, rfl, h1, h2⟩ := EntsIn.snoc x.2
    exact ⟨v :: vs', u, rfl, ⟨x.1, h1⟩, h2⟩
theorem EntsIn.nil {P : Addr → Obj → Prop} : ∀ {vs : List Value}, EntsIn P vs [] → vs = []
  | [], _ => rfl
  | _ :: _, x => x.elim
theorem EntIn.tup {h : Heap} {v : Value} {e : Int × Str} (x : EntIn (fun a o => h.get? a = some o) v e) : ∃ b t1 t2, v = .ref b ∧ IsTup h b [Value.int e.1 t1, .str e.2 t2].toArray := by
  obtain ⟨b, t1, t2, h1, h2, _⟩ := x
  exact ⟨b, t1, t2, h1, _, h2, rfl, _, rfl⟩
noncomputable def entD (e : Int × Str) : PyData := .tuple [.int e.1, .str e.2]
theorem EntsIn.reads {h : Heap} : ∀ {vs : List Value} {es : List (Int × Str)}, EntsIn (fun a o => h.get? a = some o) vs es → ReadsAll h vs (es.map entD) []
  | [], [], _ => .nil
  | _ :: _, _ :: _, x => by
    obtain ⟨⟨b, t1, t2, rfl, h2, _⟩, x⟩ := x
    have r : Reads h (.ref b) (entD _) [] := reads_tuple_at h2 rfl rfl (.cons (as := []) (bs := []) (.int _ _) (.cons (as := []) (bs := []) (.str _ _) .nil))
    exact .cons (as := []) (bs := []) r (EntsIn.reads x)
  | [], _ :: _, x => x.elim
  | _ :: _, [], x => x.elim
theorem EntsIn.lay {P : Addr → Obj → Prop} : ∀ {vs : List Value} {es : List (Int × Str)}, EntsIn P vs es → PyData.canLayAll0 (es.map entD) = true ∧ PyData.depthAll (es.map entD) ≤ 1
  | [], [], _ => ⟨rfl, by simp [PyData.depthAll]⟩
  | _ :: _, e :: es, x => by
    obtain ⟨⟨b, t1, t2, rfl, h2, ho⟩, x⟩ := x
    obtain ⟨h3, h4⟩ := EntsIn.lay x
    refine ⟨?_, ?_⟩
    · simp [PyData.canLayAll0, entD, PyData.canLay0, ho]
      simpa [entD] using h3
    · simp only [List.map_cons, PyData.depthAll, entD, PyData.depth]
      have : PyData.depthAll (es.map entD) ≤ 1 := h4
      omega
  | [], _ :: _, x => x.elim
  | _ :: _, [], x => x.elim
theorem RowIn.shaped {P : Addr → Obj → Prop} {v : Value} {row : List (Int × Str)} (x : RowIn P v row) : SeqAt.shaped (.list (row.map entD)) = true := by
  obtain ⟨a, vs, n, rfl, h2, h3⟩ := x
  obtain ⟨h4, h5⟩ := h3.lay
  have e1 : PyData.canLay0 (.list (row.map entD)) = PyData.canLayAll0 (row.map entD) := by simp [PyData.canLay0]
  have e2 : PyData.depth (.list (row.map entD)) = PyData.depthAll (row.map entD) + 1 := by simp [PyData.depth]
  exact Bool.and_eq_true_iff.mpr ⟨e1.trans h4, decide_eq_true (by rw [e2]; omega)⟩
theorem RowIn.reads {h : Heap} {v : Value} {row : List (Int × Str)} (x : RowIn (fun a o => h.get? a = some o) v row) : ∃ as, Reads h v (.list (row.map entD)) as := by
  obtain ⟨a, vs, n, rfl, h2, h3⟩ := x
  exact ⟨_, reads_list_at h2 rfl rfl h3.reads⟩
section
variable {prog : Program} {w : World} {A : Around} {E : Value → Shared → Prop} {s : Shared} {h₀ : Heap} {L : Addr} {m : Str → Option Value} {news : List (Addr × Obj)}
theorem row_ne_nil {v : Value} {b : Addr} {row : List (Int × Str)} {n : Nat} {Q : Value → Shared → Prop} (hr : RowIn (fun a o => s.heap.get? a = some o) v row) (N : News h₀ L s.heap news) (hm : (b, W.listOf (#[] : Array Value) n) ∈ news) (hu : A.units + 64 < cLine)
    (h : Q (.bool (!row.isEmpty)) s) : wpAny (model prog w) A (compareOp .NotEq v (.ref b)) Q E s := by
  obtain ⟨as, ra⟩ := hr.reads
  have rb : Reads s.heap (.ref b) (.list []) [b] := reads_list_at (N _ hm).1 rfl rfl .nil
  refine ne_dataH ra rb hr.shaped (by decide) hu ?_
  have e : PyData.eqv (.list (row.map entD)) (.list []) = row.isEmpty := by cases row <;> simp [PyData.eqv, PyData.eqvAll]
  rw [e]; exact h
theorem row_ne0 {v : Value} {b : Addr} {n : Nat} {Q : Value → Shared → Prop} (hr : RowIn (fun a o => s.heap.get? a = some o) v []) (N : News h₀ L s.heap news) (hm : (b, W.listOf (#[] : Array Value) n) ∈ news) (hu : A.units + 64 < cLine)
    (h : Q (.bool false) s) : wpAny (model prog w) A (compareOp .NotEq v (.ref b)) Q E s := row_ne_nil hr N hm hu h
theorem row_ne1 {v : Value} {b : Addr} {n : Nat} {row : List (Int × Str)} {e : Int × Str} {Q : Value → Shared → Prop} (hr : RowIn (fun a o => s.heap.get? a = some o) v (row ++ [e])) (N : News h₀ L s.heap news) (hm : (b, W.listOf (#[] : Array Value) n) ∈ news) (hu : A.units + 64 < cLine)
    (h : Q (.bool true) s) : wpAny (model prog w) A (compareOp .NotEq v (.ref b)) Q E s := row_ne_nil hr N hm hu (by
      have e : (!(row ++ [e]).isEmpty) = true := by simp
      rw [e]; exact h)
theorem row_lift {g h : Heap} {L : Addr} {m : Str → Option Value} {v : Value} {row : List (Int × Str)} (F : Fr g L h m) (x : RowIn (fun a o => g.get? a = some o) v row) : RowIn (fun a o => h.get? a = some o) v row := x.mono F.keep
theorem list_last {value slice : Expr} {l : Addr} {vs : List Value} {v : Value} {u : Tok} {Q : Value → Shared → Prop} (hl : s.heap.IsList l (vs ++ [v]).toArray) (h : Q v s)
    (hs : subscripted slice false (.ref l) (.int (-1) u) = operate [.ref l, .int (-1) u] (getItem (.ref l) (.int (-1) u))) : wpAny (model prog w) A (subscriptTail value slice (.ref l) (.int (-1) u)) Q E s := by
  refine kde_neg (j := vs.length) (v := v) hl (by decide) (by decide) ?_ (by simp) h hs
  unfold seqIndex?; simp; omega
theorem pick_init (vs : List Value) (v : Value) : kms_pick (vs ++ [v]).toArray.toList none (some (-1)) = vs := by
  unfold kms_pick kms_lo kms_hi
  simp
theorem list_init {value slice : Expr} {l : Addr} {vs : List Value} {v vl vu : Value} {Q : Value → Shared → Prop} (F : Fr h₀ L s.heap m) (N : News h₀ L s.heap news) (hl : s.heap.IsList l (vs ++ [v]).toArray) (pl : IsPart vl none) (pu : IsPart vu (some (-1))) (hz : vs.length ≤ 1000)
    (h : ∀ D h', Fr h₀ L h' m → News h₀ L h' ((D, listOf vs.toArray 0) :: news) → (∀ p ∈ news, p.1 < D) → Q (.ref D) { s with heap := h' })
    (hs : subscripted slice false (.ref l) (.ref s.heap.objs.size) = operate [.ref s.heap.objs.size, .ref l] (getItem (.ref l) (.ref s.heap.objs.size))) (ht : ∀ r, letTemporaryGo value (.ref l) r = pure ()) :
    wpAny (model prog w) A (subscriptTail value slice (.ref l) (.ref s.heap.objs.size)) Q E { s with heap := s.heap.push { cls := .type "slice", data := .fields #[vl, vu, .none] } } :=
  kms_slice_lit F N hl pl pu (pick_init vs v) h hs ht (by rw [sizeLine_eq]; simp; omega)
theorem list_add {a b : Addr} {vs us : List Value} {Q : Value → Shared → Prop} (F : Fr h₀ L s.heap m) (N : News h₀ L s.heap news) (ha : s.heap.IsList a vs.toArray) (hb : s.heap.IsList b us.toArray) (hz : vs.length + us.length ≤ 1000)
    (h : ∀ D h', Fr h₀ L h' m → News h₀ L h' ((D, listOf (vs ++ us).toArray 0) :: news) → (∀ p ∈ news, p.1 < D) → Q (.ref D) { s with heap := h' }) : wpAny (model prog w) A (binaryOp .Add (.ref a) (.ref b)) Q E s :=
  kmk_add_lit F N ha hb rfl h (by rw [sizeLine_eq]; simp; omega)
end
theorem rowIn_list {h : Heap} {v : Value} {row : List (Int × Str)} (x : RowIn (fun a o => h.get? a = some o) v row) : ∃ a vs, v = .ref a ∧ h.IsList a (List.toArray vs) ∧ EntsIn (fun a o => h.get? a = some o) vs row ∧ vs.length = row.length := by
  obtain ⟨a, vs, n, rfl, h2, h3⟩ := x
  exact ⟨a, vs, rfl, ⟨_, h2, rfl, n, rfl⟩, h3, h3.len⟩
theorem rowIn_get {P : Addr → Obj → Prop} {h : Heap} {v : Value} {row : List (Int × Str)} (hp : ∀ a o, P a o → h.get? a = some o) (x : RowIn P v row) : ∃ a vs, v = .ref a ∧ h.IsList a (List.toArray vs) ∧ EntsIn P vs row ∧ vs.length = row.length := by
  obtain ⟨a, vs, n, rfl, h2, h3⟩ := x
  exact ⟨a, vs, rfl, ⟨_, hp _ _ h2, rfl, n, rfl⟩, h3, h3.len⟩
theorem EntIn.get {P : Addr → Obj → Prop} {h : Heap} {v : Value} {e : Int × Str} (hp : ∀ a o, P a o → h.get? a = some o) (x : EntIn P v e) : ∃ b t1 t2, v = .ref b ∧ IsTup h b [Value.int e.1 t1, .str e.2 t2].toArray := (x.mono hp).tup
theorem or_l {P : Addr → Obj → Prop} {tl : List (Addr × Obj)} : ∀ a o, P a o → (P a o ∨ (a, o) ∈ tl) := fun _ _ h => .inl h
theorem rowIn_new {P : Addr → Obj → Prop} {tl : List (Addr × Obj)} {D : Addr} {vs : List Value} {n : Nat} {row : List (Int × Str)} (hm : (D, W.listOf (List.toArray vs) n) ∈ tl) (hE : EntsIn (fun a o => P a o ∨ (a, o) ∈ tl) vs row) : RowIn (fun a o => P a o ∨ (a, o) ∈ tl) (.ref D) row := ⟨D, vs, n, rfl, .inr hm, hE⟩
theorem entIn_new {P : Addr → Obj → Prop} {tl : List (Addr × Obj)} {b : Addr} {k : Int} {x : Str} {t1 t2 : Tok} (hm : (b, tupO [.int k t1, .str x t2]) ∈ tl) (ho : PyData.strOk x = true) : EntIn (fun a o => P a o ∨ (a, o) ∈ tl) (.ref b) (k, x) := ⟨b, t1, t2, rfl, .inr hm, ho⟩

local macro_rules | `(tactic| walk_at "compareOp NotEq ref ref") => `(tactic| (k_here; (with_reducible show wpAny _ _ (compareOp CmpOp.NotEq (Value.ref _) (Value.ref _)) _ _ _); k_dflt (first | refine row_ne0 (row_lift (by k_asm) (by with_reducible assumption)) (by k_asm) (by k_mem) (by ktr_units) ?_ | refine row_ne1 (row_lift (by k_asm) (by with_reducible assumption)) (by k_asm) (by k_mem) (by ktr_units) ?_)))
local macro_rules | `(tactic| walk_at "subscriptTail Name UnaryOp ref int") => `(tactic| (k_here; k_dflt (refine' list_last ?k1 ?_ ?k2; (case k1 => exact Fr.lst (by k_asm) (by with_reducible assumption)); (case k2 => with_unfolding_all rfl); k_whole)))
local macro_rules | `(tactic| walk_at "subscriptTail") => `(tactic| (k_here; (with_reducible show wpAny _ _ (subscriptTail (PySem.Expr.Subscript _ _ _) (PySem.Expr.Constant _ _ _) (Value.ref _) (Value.int _ _)) _ _ _); k_dflt (refine' item_tupleT ?t ?a ?b ?c ?d ?_ ?e; (case t => exact tup_keep (by k_asm) (by with_reducible assumption)); (case a => decide); (case b => decide); (case c => rfl); (case d => rfl); (case e => with_unfolding_all rfl); k_whole)))
local macro_rules | `(tactic| walk_at "subscriptTail Name Slice ref ref") => `(tactic| (k_here; k_dflt (refine' list_init ?F ?N ?l ?p ?q ?z ?_ ?s ?t; (case F => k_asm); (case N => k_asm); (case l => exact Fr.lst (by k_asm) (by with_reducible assumption)); (case p => exact IsPart.none); (case q => exact IsPart.int _ _); (case z => omega); (case s => with_unfolding_all rfl); (case t => kmk_pure); k_whole); intro D' h' F' N' l1; (try k_lt l1); (try k_sweep)))
local macro_rules | `(tactic| walk_at "binaryOp Add ref ref") => `(tactic| (k_here; k_dflt (refine' list_add ?F ?N ?a ?b ?z ?_; (case F => k_asm); (case N => k_asm); (case a => kmk_list); (case b => kmk_list); (case z => first | (simp only [List.length_append, List.length_cons, List.length_nil]; omega) | omega); k_whole); intro D' h' F' N' l1; (try k_lt l1); (try k_sweep)))
-- 30_up
noncomputable def upF (root : Str) (row : List (Int × Str)) : List (Int × Str) :=
  match row.getLast? with
  | some e => if 0 ≤ e.1 then row.dropLast else if (root == Str.ofString "") = true then row ++ [(-1, Str.ofString "..")] else row
  | none => if (root == Str.ofString "") = true then row ++ [(-1, Str.ofString "..")] else row
theorem up_add0 {root : Str} (h : (root == Str.ofString "") = true) : [] ++ [(-1, Str.ofString "..")] = upF root [] := by show _ = if _ then _ else _; rw [if_pos h]
theorem up_not0 {root : Str} (h : (root == Str.ofString "") = false) : [] = upF root [] := by show _ = if _ then _ else _; rw [if_neg (by rw [h]; decide)]
theorem up_last {root : Str} {r : List (Int × Str)} {e : Int × Str} : upF root (r ++ [e]) = if 0 ≤ e.1 then (r ++ [e]).dropLast else if (root == Str.ofString "") = true then (r ++ [e]) ++ [(-1, Str.ofString "..")] else (r ++ [e]) := by
  unfold upF; rw [List.getLast?_concat]
theorem up_cut {root : Str} {r : List (Int × Str)} {e : Int × Str} (h : 0 ≤ e.1) : r = upF root (r ++ [e]) := by rw [up_last, if_pos h, List.dropLast_concat]
theorem up_add1 {root : Str} {r : List (Int × Str)} {e : Int × Str} (h0 : ¬ 0 ≤ e.1) (h : (root == Str.ofString "") = true) : (r ++ [e]) ++ [(-1, Str.ofString "..")] = upF root (r ++ [e]) := by rw [up_last, if_neg h0, if_pos h]
theorem up_not1 {root : Str} {r : List (Int × Str)} {e : Int × Str} (h0 : ¬ 0 ≤ e.1) (h : (root == Str.ofString "") = false) : r ++ [e] = upF root (r ++ [e]) := by rw [up_last, if_neg h0, if_neg (by rw [h]; decide)]
theorem dots_ok : PyData.strOk (Str.ofString "..") = true := by decide +kernel
section
variable (w : World) (mean : ExcName → Option Value) (mg mb : Str → Option Value)
theorem up_c (P : Addr → Obj → Prop) (root : Str) (t : Tok) (rv : Value) (row : List (Int × Str)) (hr : RowIn P rv row) (hl : row.length ≤ 100) :
    Made 12 w mean mg mb 314 (fun h => ∀ a o, P a o → h.get? a = some o) [.str root t, rv] (fun r tl => RowIn (fun a o => P a o ∨ (a, o) ∈ tl) r (upF root row)) := by
  dsimp only [Made]; k_fill; intros; rename_i hp hret
  refine wpAny_call ?_
  k_dflt (((refine' code_defG ?k1 ?k2 ?k3 ?k4 ?k5 ?kA ?kF ?kK ?k6 ?k7 ?k8 ?k9 ?kB ?_ ?c2 ?c3 ?c4 ?c5; (case kA => exact rfl); (case kF => exact rfl); (case kK => assumption); (case k1 => k_asm); (case k2 => k_asm); (case k3 => k_asm); (case k4 => exact News.nil); (case k5 => k_asm); (case k6 => k_is); (case k7 => k_is); (case k8 => k_room); (case k9 => exact BindsTo.of_eq rfl); (case c5 => decide); (case kB => exact locs rfl); (case c2 => exact rfl); (case c3 => exact rfl); (case c4 => exact rfl); k_whole; intro g' L' h' FG' F' N' B' X' T' GS'; (try dsimp only); (try k_lift B'); (try k_fold))))
  rename GSub _ _ _ => lG
  have hPg := fun a o q => lG a o (hp a o q) (fun h => nomatch h)
  have hR := hr.mono hPg
  obtain ⟨a, vs, rfl, hL, hE, hn⟩ := rowIn_get hPg hr
  rcases snoc_cases row with rfl | ⟨r', e, rfl⟩
  · have hn' : vs.length ≤ 100 := by rw [hn]; decide
    k_steps
    all_goals rename News _ _ _ _ => lN
    all_goals refine hret _ _ _ _ (by k_asm) (gs_nil (by assumption) (by assumption)) lN (gs_fresh (by assumption) (by assumption)) ?_
    · rw [← up_add0 (by assumption)]
      exact rowIn_new (by k_mem) ((hE.mono or_l).app (.one (entIn_new (by k_mem) dots_ok)))
    · rw [← up_not0 (by assumption)]
      exact hr.mono or_l
  · obtain ⟨vs', v, rfl, hE', hv⟩ := hE.snoc
    obtain ⟨b, t1, t2, rfl, ht⟩ := hv.get hPg
    have hn' : vs'.length ≤ 99 := by simp at hn hl; omega
    k_steps
    all_goals rename News _ _ _ _ => lN
    all_goals refine hret _ _ _ _ (by k_asm) (gs_nil (by assumption) (by assumption)) lN (gs_fresh (by assumption) (by assumption)) ?_
    · rw [← up_cut (by assumption)]
      exact rowIn_new (by k_mem) (hE'.mono or_l)
    · rw [← up_add1 (by assumption) (by assumption)]
      exact rowIn_new (by k_mem) ((hE.mono or_l).app (.one (entIn_new (by k_mem) dots_ok)))
    · rw [← up_not1 (by assumption) (by assumption)]
      exact hr.mono or_l
end

-- 31_toldl
noncomputable def StateIn (P : Addr → Obj → Prop) (v : Value) (st : Str × List (Int × Str)) : Prop := ∃ b t rv, v = .ref b ∧ P b (tupO [.str st.1 t, rv]) ∧ RowIn P rv st.2
noncomputable def rightsF (row : List (Int × Str)) (d : Int) : Int :=
  match row.getLast? with
  | some e => if 0 ≤ e.1 then Builtin.bitXor (d.fmod 4096) (e.1.fmod 4096) else d.fmod 4096
  | none => d.fmod 4096
noncomputable def JoinN (h₀ : Heap) (L : Addr) (m : Str → Option Value) (news : List (Addr × Obj)) (s : Shared) (x : Str) (k : Int) (f : Flow) (s' : Shared) : Prop :=
  f = .next ∧ ∃ h tk t, s' = { s with heap := h, toks := tk } ∧ Fr h₀ L h (fun y => if y = x then some (.int k t) else m y) ∧ News h₀ L h news
theorem joinN_set {h₀ : Heap} {L : Addr} {m : Str → Option Value} {news all : List (Addr × Obj)} {s : Shared} {x : Str} {k k' : Int} {t : Tok} {h : Heap} {tk : Nat} (F : Fr h₀ L h (fun y => if y = x then some (.int k' t) else m y)) (N : News h₀ L h all) (hs : ∀ p ∈ news, p ∈ all) (e : k' = k) :
    JoinN h₀ L m news s x k .next { s with heap := h, toks := tk } := ⟨rfl, h, tk, t, rfl, e ▸ F, fun p hp => N p (hs p hp)⟩
theorem joinN_not {h₀ : Heap} {L : Addr} {m : Str → Option Value} {news all : List (Addr × Obj)} {s : Shared} {x : Str} {k k' : Int} {t : Tok} {h : Heap} {tk : Nat} (F : Fr h₀ L h m) (N : News h₀ L h all) (hs : ∀ p ∈ news, p ∈ all) (hm : m x = some (.int k' t)) (e : k' = k) :
    JoinN h₀ L m news s x k .next { s with heap := h, toks := tk } := ⟨rfl, h, tk, t, rfl, by
      subst e
      have q : (fun y => if y = x then some (Value.int k' t) else m y) = m := by
        funext y
        by_cases hy : y = x
        · rw [if_pos hy, hy, hm]
        · rw [if_neg hy]
      rw [q]; exact F, fun p hp => N p (hs p hp)⟩
theorem join_next {M : Model} {A : Around} {h₀ : Heap} {L : Addr} {m : Str → Option Value} {news : List (Addr × Obj)} {s : Shared} {T : Sem Flow} {Q : Flow → Shared → Prop} {E : Value → Shared → Prop} (x : Str) (k : Int) (_F : Fr h₀ L s.heap m) (_N : News h₀ L s.heap news)
    (hw : wpAny M A T (JoinN h₀ L m news s x k) E s) (h : ∀ h' tk t, Fr h₀ L h' (fun y => if y = x then some (.int k t) else m y) → News h₀ L h' news → Q .next { s with heap := h', toks := tk }) : wpAny M A T Q E s :=
  wpAny_mono hw (fun f s' q => by obtain ⟨rfl, h', tk, t, rfl, F, N⟩ := q; exact h h' tk t F N) fun _ _ e => e
noncomputable def fmNew (k rg : Int) : Int × Str := (4096 * k + rg, signsF (4096 * k + rg))
noncomputable def toldF (root : Str) (row : List (Int × Str)) (d : Int) : Str × List (Int × Str) :=
  let kd := d.fdiv 4096
  let rg := rightsF row d
  if kd = 6 then (if rg.fmod 3 = 0 then Str.ofString "/" else if rg.fmod 3 = 1 then Str.ofString "//" else Str.ofString "/", [fmNew kd rg])
  else if kd = 4 then (root, row ++ [fmNew kd rg])
  else if kd = 1 then (root, row ++ [fmNew kd rg, fmNew kd rg])
  else if kd = 2 then (root, row ++ [(8192, Str.ofString "c---------"), (rg, signsF rg)])
  else if kd = 8 then (root, upF root row ++ [fmNew kd rg])
  else if kd = 12 then (root, upF root row ++ [fmNew kd rg, fmNew kd rg])
  else if kd = 10 then (root, upF root (upF root row) ++ [fmNew kd rg])
  else (root, upF root row)
section
variable {root : Str} {row : List (Int × Str)} {d kd rg : Int}
theorem told_6a (h1 : d.fdiv 4096 = kd) (h2 : rightsF row d = rg) (h : kd = 6) (h3 : rg.fmod 3 = 0) : toldF root row d = (Str.ofString "/", [fmNew kd rg]) := by subst h1 h2; unfold toldF; simp only [h, h3, if_true]
theorem told_6b (h1 : d.fdiv 4096 = kd) (h2 : rightsF row d = rg) (h : kd = 6) (h3 : rg.fmod 3 = 1) : toldF root row d = (Str.ofString "//", [fmNew kd rg]) := by subst h1 h2; unfold toldF; simp [h, h3]
theorem told_6c (h1 : d.fdiv 4096 = kd) (h2 : rightsF row d = rg) (h : kd = 6) (h3 : rg.fmod 3 = 2) : toldF root row d = (Str.ofString "/", [fmNew kd rg]) := by subst h1 h2; unfold toldF; simp [h, h3]
theorem told_4 (h1 : d.fdiv 4096 = kd) (h2 : rightsF row d = rg) (h : kd = 4) : toldF root row d = (root, row ++ [fmNew kd rg]) := by subst h1 h2; unfold toldF; simp [h]
theorem told_1 (h1 : d.fdiv 4096 = kd) (h2 : rightsF row d = rg) (h : kd = 1) : toldF root row d = (root, row ++ [fmNew kd rg, fmNew kd rg]) := by subst h1 h2; unfold toldF; simp [h]
theorem told_2 (h1 : d.fdiv 4096 = kd) (h2 : rightsF row d = rg) (h : kd = 2) : toldF root row d = (root, row ++ [(8192, Str.ofString "c---------"), (rg, signsF rg)]) := by subst h1 h2; unfold toldF; simp [h]
theorem told_8 (h1 : d.fdiv 4096 = kd) (h2 : rightsF row d = rg) (h : kd = 8) : toldF root row d = (root, upF root row ++ [fmNew kd rg]) := by subst h1 h2; unfold toldF; simp [h]
theorem told_12 (h1 : d.fdiv 4096 = kd) (h2 : rightsF row d = rg) (h : kd = 12) : toldF root row d = (root, upF root row ++ [fmNew kd rg, fmNew kd rg]) := by subst h1 h2; unfold toldF; simp [h]
theorem told_10 (h1 : d.fdiv 4096 = kd) (h2 : rightsF row d = rg) (h : kd = 10) : toldF root row d = (root, upF root (upF root row) ++ [fmNew kd rg]) := by subst h1 h2; unfold toldF; simp [h]
theorem told_0 (h1 : d.fdiv 4096 = kd) (h2 : rightsF row d = rg) (a : kd ≠ 6) (b : kd ≠ 4) (c : kd ≠ 1) (e : kd ≠ 2) (f : kd ≠ 8) (g : kd ≠ 12) (i : kd ≠ 10) : toldF root row d = (root, upF root row) := by
  subst h1 h2; unfold toldF; simp [a, b, c, e, f, g, i]
end
theorem ok_app {x y : Str} (hx : PyData.strOk x = true) (hy : PyData.strOk y = true) : PyData.strOk (x ++ y) = true := by
  obtain ⟨a⟩ := x; obtain ⟨b⟩ := y
  show (a ++ b).all _ = true
  unfold PyData.strOk at hx hy
  rw [Array.all_append, hx, hy]; rfl
theorem ok_item {x : Str} (hx : PyData.strOk x = true) (i : Int) : PyData.strOk (Txt.item x i) = true := by
  unfold PyData.strOk at hx ⊢
  rw [Array.all_eq_true'] at hx
  unfold Txt.item Txt.charAt
  cases h : seqIndex? i x.length with
  | none => simp
  | some j =>
    simp only [Option.bind_some]
    cases h2 : x.cps[j]? with
    | none => simp
    | some c => simpa using hx c (Array.mem_of_getElem? h2)
theorem signs_ok (x : Int) : PyData.strOk (signsF x) = true := by
  have h : ∀ i z, PyData.strOk z = true → PyData.strOk (signsStep x i z) = true := fun i z hz => by
    unfold signsStep
    refine ok_app (ok_app hz (ok_app (ok_item (by decide +kernel) _) (ok_item (by decide +kernel) _))) (ok_item ?_ _)
    match i with
    | 0 => decide +kernel
    | 1 => decide +kernel
    | 2 => decide +kernel
    | (n + 3) => unfold signsTab; split <;> decide +kernel
  exact h _ _ (h _ _ (h _ _ (ok_item (by decide +kernel) _)))
theorem chr_ok : PyData.strOk (Str.ofString "c---------") = true := by decide +kernel
theorem up_len (root : Str) (row : List (Int × Str)) : (upF root row).length ≤ row.length + 1 := by
  rcases snoc_cases row with rfl | ⟨r, e, rfl⟩
  · show List.length (if _ then _ else _) ≤ _
    split <;> simp
  · rw [up_last]
    split
    · rw [List.dropLast_concat]; simp; omega
    · split <;> simp
theorem bitOr_pp {x y : Int} (hx : 0 ≤ x) (hy : 0 ≤ y) : Builtin.bitOr x y = ((x.toNat ||| y.toNat : Nat) : Int) := by
  have nn : ∀ z : Int, Builtin.bitNot (Builtin.bitNot z) = z := fun z => by unfold Builtin.bitNot; omega
  have ng : ∀ z : Int, 0 ≤ z → ¬ 0 ≤ Builtin.bitNot z := fun z hz => by unfold Builtin.bitNot; omega
  unfold Builtin.bitOr
  rw [bitAnd_nn (ng _ hx) (ng _ hy), nn, nn, nn]
theorem xor_lt {x y : Int} (hx : 0 ≤ x ∧ x < 4096) (hy : 0 ≤ y ∧ y < 4096) : 0 ≤ Builtin.bitXor x y ∧ Builtin.bitXor x y < 4096 := by
  unfold Builtin.bitXor
  rw [bitOr_pp hx.1 hy.1, bitAnd_pp hx.1 hy.1]
  have h := @Nat.or_lt_two_pow x.toNat y.toNat 12 (by omega) (by omega)
  have h1 := @Nat.and_le_left x.toNat y.toNat
  have h2 := @Nat.left_le_or x.toNat y.toNat
  omega
theorem fmod_eq (x : Int) : x.fmod 4096 = x % 4096 := by rw [Int.fmod_eq_emod_of_nonneg _ (by decide)]
theorem fdiv_eq (x : Int) : x.fdiv 4096 = x / 4096 := by rw [Int.fdiv_eq_ediv_of_nonneg _ (by decide)]
theorem rights_lt (row : List (Int × Str)) (d : Int) : 0 ≤ rightsF row d ∧ rightsF row d < 4096 := by
  have h1 : 0 ≤ d.fmod 4096 ∧ d.fmod 4096 < 4096 := by rw [fmod_eq]; omega
  unfold rightsF
  split
  · split
    · rename_i e _ _
      exact xor_lt h1 (by rw [fmod_eq]; omega)
    · exact h1
  · exact h1
theorem rights_0 (d : Int) : d.fmod 4096 = rightsF [] d := rfl
theorem rights_x {r : List (Int × Str)} {e : Int × Str} {d : Int} (h : 0 ≤ e.1) : Builtin.bitXor (d.fmod 4096) (e.1.fmod 4096) = rightsF (r ++ [e]) d := by unfold rightsF; rw [List.getLast?_concat]; show _ = if _ then _ else _; rw [if_pos h]
theorem rights_n {r : List (Int × Str)} {e : Int × Str} {d : Int} (h : ¬ 0 ≤ e.1) : d.fmod 4096 = rightsF (r ++ [e]) d := by unfold rightsF; rw [List.getLast?_concat]; show _ = if _ then _ else _; rw [if_neg h]
theorem at_list {g h : Heap} {L a : Addr} {m : Str → Option Value} {tl news : List (Addr × Obj)} {vs : List Value} {n : Nat} (F : Fr g L h m) (N : News g L h news) (x : g.get? a = some (W.listOf vs.toArray n) ∨ (a, W.listOf vs.toArray n) ∈ tl) (hs : ∀ p ∈ tl, p ∈ news) : h.IsList a vs.toArray := by
  rcases x with x | x
  · exact ⟨_, F.keep _ _ x, rfl, n, rfl⟩
  · exact ⟨_, (N _ (hs _ x)).1, rfl, n, rfl⟩
theorem rowIn_or {P : Addr → Obj → Prop} {g : Heap} {tl : List (Addr × Obj)} {v : Value} {row : List (Int × Str)} (hp : ∀ a o, P a o → g.get? a = some o) (x : RowIn (fun a o => P a o ∨ (a, o) ∈ tl) v row) :
    ∃ a vs n, v = .ref a ∧ (g.get? a = some (W.listOf (List.toArray vs) n) ∨ (a, W.listOf (List.toArray vs) n) ∈ tl) ∧ EntsIn (fun a o => P a o ∨ (a, o) ∈ tl) vs row ∧ vs.length = row.length := by
  obtain ⟨a, vs, n, rfl, h2, h3⟩ := x
  exact ⟨a, vs, n, rfl, h2.imp_left (hp _ _), h3, h3.len⟩
theorem or_sub {P : Addr → Obj → Prop} {tl tl' : List (Addr × Obj)} (h : ∀ p ∈ tl, p ∈ tl') : ∀ a o, (P a o ∨ (a, o) ∈ tl) → (P a o ∨ (a, o) ∈ tl') := fun _ _ x => x.imp_right (h _)
theorem or_sub2 {P : Addr → Obj → Prop} {t1 t2 tl' : List (Addr × Obj)} (h1 : ∀ p ∈ t1, p ∈ tl') (h2 : ∀ p ∈ t2, p ∈ tl') : ∀ a o, ((P a o ∨ (a, o) ∈ t1) ∨ (a, o) ∈ t2) → (P a o ∨ (a, o) ∈ tl') := fun _ _ x => x.elim (fun y => y.imp_right (h1 _)) fun y => .inr (h2 _ y)
theorem state_new {P : Addr → Obj → Prop} {tl : List (Addr × Obj)} {D : Addr} {x : Str} {t : Tok} {rv : Value} {st : Str × List (Int × Str)} {row : List (Int × Str)} (e : st = (x, row)) (hm : (D, tupO [.str x t, rv]) ∈ tl) (hr : RowIn (fun a o => P a o ∨ (a, o) ∈ tl) rv row) : StateIn (fun a o => P a o ∨ (a, o) ∈ tl) (.ref D) st := by
  subst e; exact ⟨D, t, rv, rfl, .inr hm, hr⟩
theorem news_swap {h₀ h : Heap} {L : Addr} {a b : List (Addr × Obj)} (N : News h₀ L h (a ++ b)) : News h₀ L h (b ++ a) := fun p hp => N p (List.mem_append.mpr (List.mem_append.mp hp).symm)
theorem news_swap2 {h₀ h : Heap} {L : Addr} {a b c : List (Addr × Obj)} (N : News h₀ L h (c ++ (b ++ a))) : News h₀ L h (b ++ (a ++ c)) := fun p hp => N p (by
  simp only [List.mem_append] at hp ⊢
  rcases hp with h | h | h
  · exact .inr (.inl h)
  · exact .inr (.inr h)
  · exact .inl h)
theorem or_app {P : Addr → Obj → Prop} {t1 t2 : List (Addr × Obj)} : ∀ a o, ((P a o ∨ (a, o) ∈ t1) ∨ (a, o) ∈ t2) → (P a o ∨ (a, o) ∈ t1 ++ t2) := fun _ _ x => x.elim (fun y => y.imp_right (List.mem_append_left _)) fun y => .inr (List.mem_append_right _ y)
theorem entsIn_two {P : Addr → Obj → Prop} {v u : Value} {e f : Int × Str} (x : EntIn P v e) (y : EntIn P u f) : EntsIn P [v, u] [e, f] := ⟨x, y, trivial⟩

-- 32_told
section
local macro_rules | `(tactic| walk_at "exec If") => `(tactic| (k_here; (with_reducible show wpAny _ _ (exec (Stmt.If (Expr.BoolOp _ _ _) _ _ _) _) _ _ _); (fail_if_success (with_reducible show wpAny _ _ _ (JoinN _ _ _ _ _ _ _) _ _)); refine halt ?_))
local macro_rules | `(tactic| walk_at "binaryOp Add ref ref") => `(tactic| refine halt ?_)
variable (w : World) (mean : ExcName → Option Value) (mg mb : Str → Option Value)
theorem told_c (P : Addr → Obj → Prop) (root : Str) (t : Tok) (rv : Value) (row : List (Int × Str)) (hr : RowIn P rv row) (hl : row.length ≤ 50) (d : Int) (u : Tok) (hd0 : 0 ≤ d) (hd1 : d < 65536) :
    Made 24 w mean mg mb 321 (fun h => ∀ a o, P a o → h.get? a = some o) [.str root t, rv, .int d u] (fun r tl => StateIn (fun a o => P a o ∨ (a, o) ∈ tl) r (toldF root row d)) := by
  dsimp only [Made]; k_fill; intros; rename_i hp hret
  refine wpAny_call ?_
  k_dflt (((refine' code_defG ?k1 ?k2 ?k3 ?k4 ?k5 ?kA ?kF ?kK ?k6 ?k7 ?k8 ?k9 ?kB ?_ ?c2 ?c3 ?c4 ?c5; (case kA => exact rfl); (case kF => exact rfl); (case kK => assumption); (case k1 => k_asm); (case k2 => k_asm); (case k3 => k_asm); (case k4 => exact News.nil); (case k5 => k_asm); (case k6 => k_is); (case k7 => k_is); (case k8 => k_room); (case k9 => exact BindsTo.of_eq rfl); (case c5 => decide); (case kB => exact locs rfl); (case c2 => exact rfl); (case c3 => exact rfl); (case c4 => exact rfl); k_whole; intro g' L' h' FG' F' N' B' X' T' GS'; (try dsimp only); (try k_lift B'); (try k_fold))))
  rename GSub _ _ _ => lG
  have hPg := fun a o q => lG a o (hp a o q) (fun h => nomatch h)
  have hR := hr.mono hPg
  obtain ⟨a, vs, rfl, hL, hE, hn⟩ := rowIn_get hPg hr
  (k_steps; repeat (any_goals (unfold Halt; (first | (k_dflt (refine' list_add ?F ?N ?a ?b ?z ?_; (case F => k_asm); (case N => k_asm); (case a => first | exact Fr.lst (by k_asm) (by with_reducible assumption) | (refine at_list (by k_asm) (by k_asm) (by with_reducible assumption) (fun p hp => ?_); walk_at "my memx")); (case b => kmk_list); (case z => first | (simp only [List.length_append, List.length_cons, List.length_nil]; omega) | omega); k_whole); intro D' h' F' N' l1; (try k_lt l1); (try k_sweep)) | ((with_reducible show wpAny _ _ (call (Value.ref 307) _) _ _ _); k_dflt (refine' Pure.use (signs_c _ _ _ _ _ _ ?h0 ?h1) ?k1 ?k2 ?k3 ?k4 ?k5 ?kK ?kd ?ku ?_; (case h0 => omega); (case h1 => omega); (((case k1 => k_asm); (case k2 => k_asm); (case k3 => k_asm); (case k4 => k_asm); (case k5 => k_asm); (case kK => first | exact rfl | assumption); (case kd => ktr_room); (case ku => ktr_units); k_whole; intro t9 h9 tk9 F9 N9; (try dsimp only); (try k_fold)))))) <;> ((try dsimp only); k_steps))))
  unfold Halt
  rename Fr _ _ _ _ => lF
  rename News _ _ _ _ => lN
  refine join_next (Str.ofString "rights") (rightsF row d) lF lN ?way ?rest
  case way =>
    clear hret
    rcases snoc_cases row with rfl | ⟨r', e, rfl⟩
    · (k_steps; repeat (any_goals (unfold Halt; (first | (k_dflt (refine' list_add ?F ?N ?a ?b ?z ?_; (case F => k_asm); (case N => k_asm); (case a => first | exact Fr.lst (by k_asm) (by with_reducible assumption) | (refine at_list (by k_asm) (by k_asm) (by with_reducible assumption) (fun p hp => ?_); walk_at "my memx")); (case b => kmk_list); (case z => first | (simp only [List.length_append, List.length_cons, List.length_nil]; omega) | omega); k_whole); intro D' h' F' N' l1; (try k_lt l1); (try k_sweep)) | ((with_reducible show wpAny _ _ (call (Value.ref 307) _) _ _ _); k_dflt (refine' Pure.use (signs_c _ _ _ _ _ _ ?h0 ?h1) ?k1 ?k2 ?k3 ?k4 ?k5 ?kK ?kd ?ku ?_; (case h0 => omega); (case h1 => omega); (((case k1 => k_asm); (case k2 => k_asm); (case k3 => k_asm); (case k4 => k_asm); (case k5 => k_asm); (case kK => first | exact rfl | assumption); (case kd => ktr_room); (case ku => ktr_units); k_whole; intro t9 h9 tk9 F9 N9; (try dsimp only); (try k_fold)))))) <;> ((try dsimp only); k_steps))))
      rename Fr _ _ _ _ => lF
      rename News _ _ _ _ => lN
      exact joinN_not lF lN (by (((try simp only [List.cons_append, List.nil_append]); kcj_all))) rfl (rights_0 d)
    · obtain ⟨vs', v, rfl, hE', hv⟩ := hE.snoc
      obtain ⟨b, t1, t2, rfl, ht⟩ := hv.get hPg
      (k_steps; repeat (any_goals (unfold Halt; (first | (k_dflt (refine' list_add ?F ?N ?a ?b ?z ?_; (case F => k_asm); (case N => k_asm); (case a => first | exact Fr.lst (by k_asm) (by with_reducible assumption) | (refine at_list (by k_asm) (by k_asm) (by with_reducible assumption) (fun p hp => ?_); walk_at "my memx")); (case b => kmk_list); (case z => first | (simp only [List.length_append, List.length_cons, List.length_nil]; omega) | omega); k_whole); intro D' h' F' N' l1; (try k_lt l1); (try k_sweep)) | ((with_reducible show wpAny _ _ (call (Value.ref 307) _) _ _ _); k_dflt (refine' Pure.use (signs_c _ _ _ _ _ _ ?h0 ?h1) ?k1 ?k2 ?k3 ?k4 ?k5 ?kK ?kd ?ku ?_; (case h0 => omega); (case h1 => omega); (((case k1 => k_asm); (case k2 => k_asm); (case k3 => k_asm); (case k4 => k_asm); (case k5 => k_asm); (case kK => first | exact rfl | assumption); (case kd => ktr_room); (case ku => ktr_units); k_whole; intro t9 h9 tk9 F9 N9; (try dsimp only); (try k_fold)))))) <;> ((try dsimp only); k_steps))))
      all_goals rename Fr _ _ _ _ => lF
      all_goals rename News _ _ _ _ => lN
      · exact joinN_set lF lN (by (((try simp only [List.cons_append, List.nil_append]); kcj_all))) (rights_x (by with_reducible assumption))
      · exact joinN_not lF lN (by (((try simp only [List.cons_append, List.nil_append]); kcj_all))) rfl (rights_n (by with_reducible assumption))
  case rest =>
    clear lF lN
    intro h9 tk9 t9 F9 N9
    have hk0 : 0 ≤ d.fdiv 4096 ∧ d.fdiv 4096 < 16 := by rw [fdiv_eq]; omega
    have hr0 := rights_lt row d
    have hT : ∃ kd rg, Halt (d.fdiv 4096 = kd ∧ rightsF row d = rg) := ⟨_, _, rfl, rfl⟩
    generalize hkd : d.fdiv 4096 = kd at hk0 F9 ⊢
    generalize hrg : rightsF row d = rg at hr0 F9 ⊢
    replace hT : Halt (d.fdiv 4096 = kd ∧ rightsF row d = rg) := ⟨hkd, hrg⟩
    clear hkd hrg hd0 hd1
    have hS := signs_ok (4096 * kd + rg)
    have hS2 := signs_ok rg
    have hn' : vs.length ≤ 50 := by omega
    (k_steps; repeat (any_goals (unfold Halt; (first | (k_dflt (refine' list_add ?F ?N ?a ?b ?z ?_; (case F => k_asm); (case N => k_asm); (case a => first | exact Fr.lst (by k_asm) (by with_reducible assumption) | (refine at_list (by k_asm) (by k_asm) (by with_reducible assumption) (fun p hp => ?_); walk_at "my memx")); (case b => kmk_list); (case z => first | (simp only [List.length_append, List.length_cons, List.length_nil]; omega) | omega); k_whole); intro D' h' F' N' l1; (try k_lt l1); (try k_sweep)) | ((with_reducible show wpAny _ _ (call (Value.ref 307) _) _ _ _); k_dflt (refine' Pure.use (signs_c _ _ _ _ _ _ ?h0 ?h1) ?k1 ?k2 ?k3 ?k4 ?k5 ?kK ?kd ?ku ?_; (case h0 => omega); (case h1 => omega); (((case k1 => k_asm); (case k2 => k_asm); (case k3 => k_asm); (case k4 => k_asm); (case k5 => k_asm); (case kK => first | exact rfl | assumption); (case kd => ktr_room); (case ku => ktr_units); k_whole; intro t9 h9 tk9 F9 N9; (try dsimp only); (try k_fold)))))) <;> ((try dsimp only); k_steps))))
    rotate_left 6
    · unfold Halt
      rename Fr _ _ _ _ => lF
      rename News _ _ _ _ => lN
      refine' Made.use (up_c w mean mg mb P root t (.ref a) row hr (by omega)) ?k1 ?k2 ?k3 ?k4 ?k5 ?kK ?kd ?ku ?kp ?_
      case kp => exact fun a o q => lF.keep _ _ (hPg a o q)
      (((case k1 => k_asm); (case k2 => k_asm); (case k3 => k_asm); (case k4 => k_asm); (case k5 => k_asm); (case kK => first | exact rfl | assumption); (case kd => ktr_room); (case ku => ktr_units)))
      k_whole
      clear lF lN
      intro r9 tl9 h9 tk9 F9 N9 ne9 o9
      obtain ⟨a9, vs9, n9, rfl, hL9, hE9, hn9⟩ := rowIn_or hPg o9
      replace N9 := news_swap N9
      simp only [List.cons_append, List.nil_append] at N9
      have hu9 := up_len root row
      have hn9' : vs9.length ≤ 51 := by omega
      clear hu9
      (k_steps; repeat (any_goals (unfold Halt; (first | (k_dflt (refine' list_add ?F ?N ?a ?b ?z ?_; (case F => k_asm); (case N => k_asm); (case a => first | exact Fr.lst (by k_asm) (by with_reducible assumption) | (refine at_list (by k_asm) (by k_asm) (by with_reducible assumption) (fun p hp => ?_); walk_at "my memx")); (case b => kmk_list); (case z => first | (simp only [List.length_append, List.length_cons, List.length_nil]; omega) | omega); k_whole); intro D' h' F' N' l1; (try k_lt l1); (try k_sweep)) | ((with_reducible show wpAny _ _ (call (Value.ref 307) _) _ _ _); k_dflt (refine' Pure.use (signs_c _ _ _ _ _ _ ?h0 ?h1) ?k1 ?k2 ?k3 ?k4 ?k5 ?kK ?kd ?ku ?_; (case h0 => omega); (case h1 => omega); (((case k1 => k_asm); (case k2 => k_asm); (case k3 => k_asm); (case k4 => k_asm); (case k5 => k_asm); (case kK => first | exact rfl | assumption); (case kd => ktr_room); (case ku => ktr_units); k_whole; intro t9 h9 tk9 F9 N9; (try dsimp only); (try k_fold)))))) <;> ((try dsimp only); k_steps))))
      rotate_left 2
      unfold Halt
      rename Fr _ _ _ _ => lF
      rename News _ _ _ _ => lN
      refine' Made.use (up_c w mean mg mb (fun a o => P a o ∨ (a, o) ∈ tl9) root t (.ref a9) (upF root row) o9 (by omega)) ?k1 ?k2 ?k3 ?k4 ?k5 ?kK ?kd ?ku ?kp ?_
      (case kp => exact fun a o q => q.elim (fun q => lF.keep _ _ (hPg a o q)) fun q => (lN (a, o) (by walk_at "my memx")).1)
      (((case k1 => k_asm); (case k2 => k_asm); (case k3 => k_asm); (case k4 => k_asm); (case k5 => k_asm); (case kK => first | exact rfl | assumption); (case kd => ktr_room); (case ku => ktr_units)))
      k_whole
      clear lF lN
      intro r7 tl7 h7 tk7 F7 N7 ne7 o7
      replace o7 := o7.mono or_app
      obtain ⟨a7, vs7, n7, rfl, hL7, hE7, hn7⟩ := rowIn_or hPg o7
      replace N7 := news_swap N7
      simp only [List.cons_append, List.nil_append] at N7
      have hu7 := up_len root (upF root row)
      have hn7' : vs7.length ≤ 52 := by omega
      clear hu7
      (k_steps; repeat (any_goals (unfold Halt; (first | (k_dflt (refine' list_add ?F ?N ?a ?b ?z ?_; (case F => k_asm); (case N => k_asm); (case a => first | exact Fr.lst (by k_asm) (by with_reducible assumption) | (refine at_list (by k_asm) (by k_asm) (by with_reducible assumption) (fun p hp => ?_); walk_at "my memx")); (case b => kmk_list); (case z => first | (simp only [List.length_append, List.length_cons, List.length_nil]; omega) | omega); k_whole); intro D' h' F' N' l1; (try k_lt l1); (try k_sweep)) | ((with_reducible show wpAny _ _ (call (Value.ref 307) _) _ _ _); k_dflt (refine' Pure.use (signs_c _ _ _ _ _ _ ?h0 ?h1) ?k1 ?k2 ?k3 ?k4 ?k5 ?kK ?kd ?ku ?_; (case h0 => omega); (case h1 => omega); (((case k1 => k_asm); (case k2 => k_asm); (case k3 => k_asm); (case k4 => k_asm); (case k5 => k_asm); (case kK => first | exact rfl | assumption); (case kd => ktr_room); (case ku => ktr_units); k_whole; intro t9 h9 tk9 F9 N9; (try dsimp only); (try k_fold)))))) <;> ((try dsimp only); k_steps))))
      all_goals rename News _ _ _ _ => lN
      all_goals refine hret _ _ _ _ (by k_asm) (gs_nil (by with_reducible assumption) (by with_reducible assumption)) lN (gs_fresh (by with_reducible assumption) (by with_reducible assumption)) ?_
      · exact state_new (told_10 hT.1 hT.2 (by with_reducible assumption)) (by k_mem) (rowIn_new (by k_mem) ((hE7.mono (or_sub fun p hp => by walk_at "my memx")).app (.one (entIn_new (by k_mem) hS))))
      · exact state_new (told_0 hT.1 hT.2 (by with_reducible assumption) (by with_reducible assumption) (by with_reducible assumption) (by with_reducible assumption) (by with_reducible assumption) (by with_reducible assumption) (by with_reducible assumption)) (by k_mem) (o9.mono (or_sub fun p hp => by walk_at "my memx"))
      · exact state_new (told_8 hT.1 hT.2 (by with_reducible assumption)) (by k_mem) (rowIn_new (by k_mem) ((hE9.mono (or_sub fun p hp => by walk_at "my memx")).app (.one (entIn_new (by k_mem) hS))))
      · exact state_new (told_12 hT.1 hT.2 (by with_reducible assumption)) (by k_mem) (rowIn_new (by k_mem) ((hE9.mono (or_sub fun p hp => by walk_at "my memx")).app (entsIn_two (entIn_new (by k_mem) hS) (entIn_new (by k_mem) hS))))
    all_goals rename News _ _ _ _ => lN
    all_goals refine hret _ _ _ _ (by k_asm) (gs_nil (by with_reducible assumption) (by with_reducible assumption)) lN (gs_fresh (by with_reducible assumption) (by with_reducible assumption)) ?_
    · exact state_new (told_6a hT.1 hT.2 (by with_reducible assumption) (by with_reducible assumption)) (by k_mem) (rowIn_new (by k_mem) (.one (entIn_new (by k_mem) hS)))
    · exact state_new (told_6b hT.1 hT.2 (by with_reducible assumption) (by with_reducible assumption)) (by k_mem) (rowIn_new (by k_mem) (.one (entIn_new (by k_mem) hS)))
    · exact state_new (told_6c hT.1 hT.2 (by with_reducible assumption) (by with_reducible assumption)) (by k_mem) (rowIn_new (by k_mem) (.one (entIn_new (by k_mem) hS)))
    · exact state_new (told_4 hT.1 hT.2 (by with_reducible assumption)) (by k_mem) (rowIn_new (by k_mem) ((hE.mono or_l).app (.one (entIn_new (by k_mem) hS))))
    · exact state_new (told_1 hT.1 hT.2 (by with_reducible assumption)) (by k_mem) (rowIn_new (by k_mem) ((hE.mono or_l).app (entsIn_two (entIn_new (by k_mem) hS) (entIn_new (by k_mem) hS))))
    · exact state_new (told_2 hT.1 hT.2 (by with_reducible assumption)) (by k_mem) (rowIn_new (by k_mem) ((hE.mono or_l).app (entsIn_two (entIn_new (by k_mem) chr_ok) (entIn_new (by k_mem) hS2))))
end

-- 33_walk
-- a loop over a list of the top; the walk of paths
section
variable {prog : Program} {w : World} {A : Around} {E : Value → Shared → Prop} {s : Shared} {env : Env} {h₀ : Heap} {target : Expr} {body : List Stmt} {Q : Flow → Shared → Prop}
theorem iter_listG {ax : Addr} {lo : Obj} {vs : List Value} {n : Nat} {m₀ : Str → Option Value} {news : List (Addr × Obj)}
    (hh : A.handled = none) (F : Fr h₀ env.locals s.heap m₀) (N : News h₀ env.locals s.heap news) (hg : h₀.get? ax = some lo) (hc : lo.cls = .type "list") (hd : lo.data = .seq vs.toArray n)
    (rest₀ : ∀ I : Addr, (∀ p ∈ news, p.1 < I) → ItemsRest prog w A E h₀ env target body Q s [(I, "list_iterator")] [] (vs.map .val) m₀ news) :
    wpAny (model prog w) A (pyIter (.ref ax)) (fun it s₂ => TurnsAt prog w A h₀ env target body Q E it s₂) E s := by
  have hax : s.heap.get? ax = some lo := F.keep _ _ hg
  have hl : s.heap.IsList ax vs.toArray := ⟨lo, hax, hc, n, hd⟩
  have hlt : ax < s.heap.objs.size := Heap.lt_size hax
  have hne : ax ≠ s.heap.objs.size := Nat.ne_of_lt hlt
  refine wpAny_pyIter_list hl ?_
  refine ktg_core (tk0 := s.toks) (keep := []) (KTurns.ofWalks (Walks.list hh s.heap.objs.size ax hne vs.toArray) fun i v s Q E st q => letGo_listiter st.1 q) (by simp) (fun i v h hp => ⟨.val v, ?_, rfl⟩) (fun i h st => ?_) (fun b hb => ?_) (fun b hb => by simpa using hb) (fun b hb => ?_) ?_ (fun p hp hI => ?_) ?_ (F.push _) (fun p hp => ⟨Heap.get?_push_of_some _ (N p hp).1, (N p hp).2⟩) trivial (rest₀ _ fun p hp => Heap.lt_size (N p hp).1)
  · have hp' : vs.toArray[i]? = some v := hp
    simpa using hp'
  · obtain ⟨it, hit, hic, _⟩ := st.1
    exact ⟨[(s.heap.objs.size, it)], ⟨⟨rfl, hic⟩, trivial⟩, fun p hp => by rw [List.mem_singleton.mp hp]; exact hit⟩
  · have hb' : b = s.heap.objs.size := by simpa using hb
    rw [hb']
    exact ⟨List.mem_cons_self .., next_is_new F⟩
  · have hb' : b = s.heap.objs.size ∨ b = ax := by simpa using hb
    rcases hb' with e | e
    · exact .inl (by simp [e])
    · exact .inr (.inr ⟨lo, by rw [e]; exact hg⟩)
  · intro hI
    rcases List.mem_cons.mp hI with e | hI
    · exact absurd F.ns.lt (e ▸ Nat.lt_irrefl _)
    · have e : env.locals = ax := List.mem_singleton.mp hI
      exact absurd (Heap.lt_size hg) (Nat.not_lt.mpr (e ▸ F.above))
  · exact absurd (Heap.lt_size (N p hp).1) ((List.mem_singleton.mp hI) ▸ Nat.lt_irrefl _)
  · exact ⟨⟨_, Heap.get?_push_size _ rfl, rfl, rfl⟩, hl.at fun o e => Heap.get?_push_of_some _ e⟩
end
noncomputable def intVals (cs : List (Int × Tok)) : List Value := cs.map fun p => .int p.1 p.2
noncomputable def pathsF : Str → List Int → List Str
  | x, [] => [x]
  | x, n :: r => x :: pathsF (stepF x (drawnF n)) r
theorem piece_len (x y : Str) : (pieceF x y).length ≤ x.length + y.length + 1 := by
  unfold pieceF
  repeat' split
  all_goals (try simp only [Str.length_append, slash_len])
  all_goals omega
theorem joinF_len : ∀ (ys : List Str) (x : Str), (joinF x ys).length ≤ x.length + weight ys
  | [], x => by simp [joinF, weight]
  | y :: r, x => by
    have h1 := piece_len x y
    have h2 := joinF_len r (pieceF x y)
    rw [weight_cons]
    simp only [joinF]
    omega
theorem step_len (x : Str) (d : Int) : (stepF x d).length ≤ x.length + 60 := by
  unfold stepF
  generalize modeF x d = md
  have l2 : (Str.ofString ".").length = 1 := by decide +kernel
  have l3 : (Str.ofString "..").length = 2 := by decide +kernel
  have l4 : (Str.ofString "").length = 0 := by decide +kernel
  have l5 : (Str.ofString "//").length = 2 := by decide +kernel
  have f1 := fm_len md
  have f2 := fm_len (Builtin.bitAnd md 61440)
  have f3 := fm_len (Builtin.bitAnd md 4095)
  have f4 := mul3_len (Builtin.bitAnd md 4095)
  unfold layF
  repeat' split
  all_goals refine Nat.le_trans (joinF_len _ _) ?_
  all_goals simp only [weight, List.map_cons, List.map_nil, List.sum_cons, List.sum_nil, List.length_cons, List.length_nil, Str.length_append]
  all_goals omega
noncomputable def JWalk (m₀ : Str → Option Value) (l : Addr) (n₀ : List (Addr × Obj)) (z : List Str) (ps : List (Int × Tok)) (m : Str → Option Value) (n : List (Addr × Obj)) : Prop :=
  (∀ y, y ≠ Str.ofString "number" → m y = m₀ y) ∧ ∃ cs x t k, n = (l, W.listOf (strValues (cs ++ [(x, t)])).toArray k) :: n₀ ∧ cs.map (·.1) ++ pathsF x (ps.map (·.1)) = z ∧ x.length + 60 * ps.length ≤ 900 ∧ cs.length + ps.length ≤ 100
section
local macro_rules | `(tactic| walk_at "exec For Name Name cons nil") => `(tactic| refine halt ?_)
local macro_rules | `(tactic| walk_at "pyIter ref") => `(tactic| (k_here; refine halt ?_))
local macro_rules | `(tactic| walk_at "subscriptTail Name UnaryOp ref int") => `(tactic| refine halt ?_)
local macro_rules | `(tactic| walk_at "call builtin:list.append") => `(tactic| refine halt ?_)
variable (w : World) (mean : ExcName → Option Value) (mg mb : Str → Option Value)
theorem walk_c (x : Str) (t : Tok) (hx : x.length ≤ 2) (a : Addr) (l : List (Int × Tok)) (k : Nat) (hl : l.length ≤ 14) :
    Made 40 w mean mg mb 293 (fun h => h.get? a = some (W.listOf (intVals l).toArray k)) [.str x t, .ref a] (fun r tl => ∃ b cs k', r = .ref b ∧ (b, W.listOf (strValues cs).toArray k') ∈ tl ∧ cs.map (·.1) = pathsF x (l.map (·.1))) := by
  dsimp only [Made]; k_fill; intros; rename_i hp hret
  refine wpAny_call ?_
  k_dflt (((refine' code_defG ?k1 ?k2 ?k3 ?k4 ?k5 ?kA ?kF ?kK ?k6 ?k7 ?k8 ?k9 ?kB ?_ ?c2 ?c3 ?c4 ?c5; (case kA => exact rfl); (case kF => exact rfl); (case kK => assumption); (case k1 => k_asm); (case k2 => k_asm); (case k3 => k_asm); (case k4 => exact News.nil); (case k5 => k_asm); (case k6 => k_is); (case k7 => k_is); (case k8 => k_room); (case k9 => exact BindsTo.of_eq rfl); (case c5 => decide); (case kB => exact locs rfl); (case c2 => exact rfl); (case c3 => exact rfl); (case c4 => exact rfl); k_whole; intro g' L' h' FG' F' N' B' X' T' GS'; (try dsimp only); (try k_lift B'); (try k_fold))))
  rename GSub _ _ _ => lG
  have hga := lG _ _ hp (fun h => nomatch h)
  (k_steps; repeat (any_goals (unfold Halt; (first | (k_dflt (refine' strs_append ?kF ?kN ?kU ?kb ?_; (case kF => k_asm); (case kN => k_asm); (case kU => k_upd); (case kb => (simp only [List.length_append, List.length_cons, List.length_nil]; omega)); k_whole); intro h' F' N') | (k_dflt (refine' strs_last ?kN ?km ?_ ?hs; (case kN => k_asm); (case km => k_mem); (case hs => with_unfolding_all rfl); k_whole)) | ((rename Fr _ _ _ _ => lF'); (with_unfolding_all refine' For_turns lF' ?_; k_whole)) | ((with_reducible show wpAny _ _ (call (Value.ref 274) _) _ _ _); k_dflt (refine' Pure.use (drawn_c _ _ _ _ _ _) ?k1 ?k2 ?k3 ?k4 ?k5 ?kK ?kd ?ku ?_; (((case k1 => k_asm); (case k2 => k_asm); (case k3 => k_asm); (case k4 => k_asm); (case k5 => k_asm); (case kK => first | exact rfl | assumption); (case kd => ktr_room); (case ku => ktr_units); k_whole; intro t9 h9 tk9 F9 N9; (try dsimp only); (try k_fold))))) | ((with_reducible show wpAny _ _ (call (Value.ref 286) _) _ _ _); k_dflt (refine' Pure.use (step_c _ _ _ _ _ _ ?hx _ _) ?k1 ?k2 ?k3 ?k4 ?k5 ?kK ?kd ?ku ?_; (case hx => omega); (((case k1 => k_asm); (case k2 => k_asm); (case k3 => k_asm); (case k4 => k_asm); (case k5 => k_asm); (case kK => first | exact rfl | assumption); (case kd => ktr_room); (case ku => ktr_units); k_whole; intro t9 h9 tk9 F9 N9; (try dsimp only); (try k_fold)))))) <;> ((try dsimp only); k_steps))))
  unfold Halt
  rename Fr _ _ _ _ => lF
  rename News _ _ _ _ => lN
  with_unfolding_all refine iter_listG (lo := W.listOf (intVals l).toArray k) (vs := intVals l) (by rfl) lF lN hga (by rfl) (by rfl) ?_
  clear lF lN
  intro I l1
  k_lt l1
  have e9 : (intVals l).map Itm.val = l.map (fun p => Itm.val (Value.int p.1 p.2)) := by unfold intVals; rw [List.map_map]; rfl
  rw [e9]
  refine items_vals (val := fun p : Int × Tok => Value.int p.1 p.2) (JWalk _ _ _ (pathsF x (l.map (·.1)))) ?done ?turn l _ _ ⟨fun _ _ => rfl, [], x, t, 0, rfl, rfl, by omega, by simp; omega⟩
  case done =>
    intro m news h tk hJ F N
    obtain ⟨hm, cs, x', t', k', rfl, hj, hl1, hl2⟩ := hJ
    rw [map_one hm] at F
    clear hm
    (k_steps; repeat (any_goals (unfold Halt; (first | (k_dflt (refine' strs_append ?kF ?kN ?kU ?kb ?_; (case kF => k_asm); (case kN => k_asm); (case kU => k_upd); (case kb => (simp only [List.length_append, List.length_cons, List.length_nil]; omega)); k_whole); intro h' F' N') | (k_dflt (refine' strs_last ?kN ?km ?_ ?hs; (case kN => k_asm); (case km => k_mem); (case hs => with_unfolding_all rfl); k_whole)) | ((rename Fr _ _ _ _ => lF'); (with_unfolding_all refine' For_turns lF' ?_; k_whole)) | ((with_reducible show wpAny _ _ (call (Value.ref 274) _) _ _ _); k_dflt (refine' Pure.use (drawn_c _ _ _ _ _ _) ?k1 ?k2 ?k3 ?k4 ?k5 ?kK ?kd ?ku ?_; (((case k1 => k_asm); (case k2 => k_asm); (case k3 => k_asm); (case k4 => k_asm); (case k5 => k_asm); (case kK => first | exact rfl | assumption); (case kd => ktr_room); (case ku => ktr_units); k_whole; intro t9 h9 tk9 F9 N9; (try dsimp only); (try k_fold))))) | ((with_reducible show wpAny _ _ (call (Value.ref 286) _) _ _ _); k_dflt (refine' Pure.use (step_c _ _ _ _ _ _ ?hx _ _) ?k1 ?k2 ?k3 ?k4 ?k5 ?kK ?kd ?ku ?_; (case hx => omega); (((case k1 => k_asm); (case k2 => k_asm); (case k3 => k_asm); (case k4 => k_asm); (case k5 => k_asm); (case kK => first | exact rfl | assumption); (case kd => ktr_room); (case ku => ktr_units); k_whole; intro t9 h9 tk9 F9 N9; (try dsimp only); (try k_fold)))))) <;> ((try dsimp only); k_steps))))
    all_goals rename News _ _ _ _ => lN
    all_goals refine hret _ _ _ _ (by k_asm) (gs_nil (by assumption) (by assumption)) lN (gs_fresh (by assumption) (by assumption)) ⟨_, _, _, rfl, by k_mem, ?_⟩
    rw [← hj, List.map_append]; rfl
  case turn =>
    intro p r m news h tk hJ F
    obtain ⟨hm, cs, x', t', k', rfl, hj, hl1, hl2⟩ := hJ
    rw [map_one hm] at F
    generalize m (Str.ofString "number") = vb at F
    clear hm
    obtain ⟨n, tn⟩ := p
    simp only [List.length_cons] at hl1 hl2
    dsimp only
    clear e9
    ktu_objs
    have hs9 := step_len x' (drawnF n)
    (k_steps; repeat (any_goals (unfold Halt; (first | (k_dflt (refine' strs_append ?kF ?kN ?kU ?kb ?_; (case kF => k_asm); (case kN => k_asm); (case kU => k_upd); (case kb => (simp only [List.length_append, List.length_cons, List.length_nil]; omega)); k_whole); intro h' F' N') | (k_dflt (refine' strs_last ?kN ?km ?_ ?hs; (case kN => k_asm); (case km => k_mem); (case hs => with_unfolding_all rfl); k_whole)) | ((rename Fr _ _ _ _ => lF'); (with_unfolding_all refine' For_turns lF' ?_; k_whole)) | ((with_reducible show wpAny _ _ (call (Value.ref 274) _) _ _ _); k_dflt (refine' Pure.use (drawn_c _ _ _ _ _ _) ?k1 ?k2 ?k3 ?k4 ?k5 ?kK ?kd ?ku ?_; (((case k1 => k_asm); (case k2 => k_asm); (case k3 => k_asm); (case k4 => k_asm); (case k5 => k_asm); (case kK => first | exact rfl | assumption); (case kd => ktr_room); (case ku => ktr_units); k_whole; intro t9 h9 tk9 F9 N9; (try dsimp only); (try k_fold))))) | ((with_reducible show wpAny _ _ (call (Value.ref 286) _) _ _ _); k_dflt (refine' Pure.use (step_c _ _ _ _ _ _ ?hx _ _) ?k1 ?k2 ?k3 ?k4 ?k5 ?kK ?kd ?ku ?_; (case hx => omega); (((case k1 => k_asm); (case k2 => k_asm); (case k3 => k_asm); (case k4 => k_asm); (case k5 => k_asm); (case kK => first | exact rfl | assumption); (case kd => ktr_room); (case ku => ktr_units); k_whole; intro t9 h9 tk9 F9 N9; (try dsimp only); (try k_fold)))))) <;> ((try dsimp only); k_steps))))
    refine ⟨fun y h1 => by ((repeat with_reducible first | rfl | refine nx h1 ?_ | refine nx2 h1 ?_); done), cs ++ [(x', t')], _, _, _, rfl, ?_, by omega, by rw [List.length_append, List.length_singleton]; omega⟩
    rw [← hj, List.map_append, List.append_assoc]; rfl
end

-- 34_climb
noncomputable def climbF : Nat → Str → List Int → Str × List Int
  | 0, x, l => (x, l)
  | n + 1, x, l => if ((baseF x).length : Int) = 10 then climbF n (headF x) (l ++ [readF (baseF x)]) else climbF n x l
theorem climb_y {i : Nat} {x a b : Str} {cs : List (Int × Tok)} {t : Tok} {z : Str × List Int} (hi : i < 12) (h : ((baseF x).length : Int) = 10) (ha : a = headF x) (hb : b = baseF x) (e : climbF (12 - i) x (cs.map (·.1)) = z) : climbF (12 - (i + 1)) a ((cs ++ [(readF b, t)]).map (·.1)) = z := by
  obtain ⟨j, hj⟩ : ∃ j, 12 - i = j + 1 := ⟨11 - i, by omega⟩
  have hk : 12 - (i + 1) = j := by omega
  rw [hj] at e
  rw [hk, ha, hb, ← e, List.map_append]
  show _ = if _ then _ else _
  rw [if_pos h]
  rfl
theorem climb_n {i : Nat} {x : Str} {l : List Int} {z : Str × List Int} (hi : i < 12) (h : ¬ ((baseF x).length : Int) = 10) (e : climbF (12 - i) x l = z) : climbF (12 - (i + 1)) x l = z := by
  obtain ⟨j, hj⟩ : ∃ j, 12 - i = j + 1 := ⟨11 - i, by omega⟩
  have hk : 12 - (i + 1) = j := by omega
  rw [hj] at e
  rw [hk, ← e]
  show _ = if _ then _ else _
  rw [if_neg h]
section
variable {prog : Program} {w : World} {A : Around} {E : Value → Shared → Prop} {s : Shared} {h₀ : Heap} {L a : Addr} {m : Str → Option Value} {news news' : List (Addr × Obj)} {cs : List (Int × Tok)} {n : Nat}
theorem ints_append {Q : Value → Shared → Prop} {c : Int} {t : Tok} (F : Fr h₀ L s.heap m) (N : News h₀ L s.heap news) (U : Upd a (W.listOf (intVals cs).toArray n) (W.listOf (intVals (cs ++ [(c, t)])).toArray (n + 1)) news news') (hb : cs.length ≤ 1000)
    (h : ∀ h', Fr h₀ L h' m → News h₀ L h' news' → Q .none { s with heap := h' }) : wpAny (model prog w) A (call (.builtin "list.append") [.ref a, .int c t]) Q E s := by
  have e : (intVals cs).toArray.push (.int c t) = (intVals (cs ++ [(c, t)])).toArray := by simp [intVals]
  refine append_K (hsz := ?_) F N (e ▸ U) h
  rw [sizeLine_eq]; simp [intVals]; omega
end
noncomputable def JClimb (m₀ : Str → Option Value) (D : Addr) (z : Str × List Int) (i : Nat) (m : Str → Option Value) (n : List (Addr × Obj)) : Prop :=
  (∀ y, y ≠ Str.ofString "plain" → y ≠ Str.ofString "name" → y ≠ Str.ofString "turn" → m y = m₀ y) ∧ ∃ x t cs k, m (Str.ofString "plain") = some (.str x t) ∧ n = [(D, W.listOf (intVals cs).toArray k)] ∧ climbF (12 - i) x (cs.map (·.1)) = z ∧ x.length ≤ 100000 ∧ cs.length ≤ i
theorem map_cl {m m₀ : Str → Option Value} {v : Option Value} (hz : m (Str.ofString "plain") = v) (h : ∀ y, y ≠ Str.ofString "plain" → y ≠ Str.ofString "name" → y ≠ Str.ofString "turn" → m y = m₀ y) :
    m = fun y => if y = Str.ofString "plain" then v else if y = Str.ofString "name" then m (Str.ofString "name") else if y = Str.ofString "turn" then m (Str.ofString "turn") else m₀ y := by
  funext y
  by_cases ha : y = Str.ofString "plain"
  · subst ha; simp [hz]
  · by_cases hb : y = Str.ofString "name"
    · subst hb; simp [ha]
    · by_cases hc : y = Str.ofString "turn"
      · subst hc; simp [ha, hb]
      · simp [ha, hb, hc, h y ha hb hc]
section
local macro_rules | `(tactic| walk_at "RangeRest") => `(tactic| (refine halt ?_))
local macro_rules | `(tactic| walk_at "pyIter ref") => `(tactic| ((with_reducible show wpAny _ _ (pyIter (Value.ref _)) (fun it s₂ => LoopAtV _ _ _ _ _ _ _ _ _ it s₂) _ _); (rename IsRange _ _ _ _ _ _ _ _ => r9); (rename Fr _ _ _ _ => lF'); (rename News _ _ _ _ => lN'); (with_unfolding_all refine iter_rangeUnr (n := 12) (by rfl) r9 (by first | decide | rfl) (by first | decide | rfl) lF' lN' ?_); clear lF' lN'; intro i' l1; (try k_lt l1)))
local macro_rules | `(tactic| walk_at "execs nil") => `(tactic| (k_here; (with_reducible show wpAny _ _ _ (UnrPost _ _ _ _ _ _ _) _ _); refine halt ?_))
local macro_rules | `(tactic| walk_at "call builtin:list.append") => `(tactic| refine halt ?_)
local macro_rules | `(tactic| walk_at "call ref") => `(tactic| refine halt ?_)
variable (w : World) (mean : ExcName → Option Value) (mg mb : Str → Option Value)
theorem climbed_c (x : Str) (t : Tok) (hx : x.length ≤ 100000) :
    Made 40 w mean mg mb 300 (fun _ => True) [.str x t] (fun r tl => ∃ D M t cs k, r = .ref D ∧ (D, tupO [.str (climbF 12 x []).1 t, .ref M]) ∈ tl ∧ (M, W.listOf (intVals cs).toArray k) ∈ tl ∧ cs.map (·.1) = (climbF 12 x []).2) := by
  dsimp only [Made]; k_fill; intros; rename_i hp hret
  refine wpAny_call ?_
  k_dflt (((refine' code_defG ?k1 ?k2 ?k3 ?k4 ?k5 ?kA ?kF ?kK ?k6 ?k7 ?k8 ?k9 ?kB ?_ ?c2 ?c3 ?c4 ?c5; (case kA => exact rfl); (case kF => exact rfl); (case kK => assumption); (case k1 => k_asm); (case k2 => k_asm); (case k3 => k_asm); (case k4 => exact News.nil); (case k5 => k_asm); (case k6 => k_is); (case k7 => k_is); (case k8 => k_room); (case k9 => exact BindsTo.of_eq rfl); (case c5 => decide); (case kB => exact locs rfl); (case c2 => exact rfl); (case c3 => exact rfl); (case c4 => exact rfl); k_whole; intro g' L' h' FG' F' N' B' X' T' GS'; (try dsimp only); (try k_lift B'); (try k_fold))))
  rename GSub _ _ _ => lG
  (k_steps; repeat (any_goals (unfold Halt; (first | ((with_reducible show wpAny _ _ (call (Value.ref 122) _) _ _ _); k_dflt (refine' Made.use (split_c _ _ _ _ _ _ ?hx) ?k1 ?k2 ?k3 ?k4 ?k5 ?kK ?kd ?ku trivial ?_; (case hx => omega); (((case k1 => k_asm); (case k2 => k_asm); (case k3 => k_asm); (case k4 => k_asm); (case k5 => k_asm); (case kK => first | exact rfl | assumption); (case kd => ktr_room); (case ku => ktr_units))); k_whole; intro r9 tl9 h9 tk9 F9 N9 ne9 o9; obtain ⟨D9, t1, t2, a9, b9, e1, e2, ha9, hb9, hla9, hlb9⟩ := o9; subst e1 e2; (try simp only [List.cons_append, List.nil_append] at N9); (replace ne9 := allNe_of (fun p hp => ne9 p hp _ (List.Mem.head _))); (try simp only [AllNe, and_true] at ne9); (try dsimp only); (try k_fold))) | ((with_reducible show wpAny _ _ (call (Value.ref 281) _) _ _ _); k_dflt (refine' Pure.use (read_c _ _ _ _ _ _ ?hx) ?k1 ?k2 ?k3 ?k4 ?k5 ?kK ?kd ?ku ?_; (case hx => ((rename _ = baseF _ => e9); (have e8 := congrArg Str.length e9); omega)); (((case k1 => k_asm); (case k2 => k_asm); (case k3 => k_asm); (case k4 => k_asm); (case k5 => k_asm); (case kK => first | exact rfl | assumption); (case kd => ktr_room); (case ku => ktr_units); k_whole; intro t9 h9 tk9 F9 N9; (try dsimp only); (try k_fold))))) | (k_dflt (refine' ints_append ?kF ?kN ?kU ?kb ?_; (case kF => k_asm); (case kN => k_asm); (case kU => k_upd); (case kb => omega); k_whole); intro h' F' N') | ((with_reducible show wpAny _ _ (call (Value.ref 122) _) _ _ _); k_dflt (refine' Made.use (split_c _ _ _ _ _ _ ?hx) ?k1 ?k2 ?k3 ?k4 ?k5 ?kK ?kd ?ku trivial ?_; (case hx => size_fits); (((case k1 => k_asm); (case k2 => k_asm); (case k3 => k_asm); (case k4 => k_asm); (case k5 => k_asm); (case kK => first | exact rfl | assumption); (case kd => ktr_room); (case ku => ktr_units))); k_whole; intro r9 tl9 h9 tk9 F9 N9 ne9 o9; obtain ⟨D9, t1, t2, a9, b9, e1, e2, ha9, hb9, hla9, hlb9⟩ := o9; subst e1 e2; (try simp only [List.cons_append, List.nil_append] at N9); (replace ne9 := allNe_of (fun p hp => ne9 p hp _ (List.Mem.head _))); (try simp only [AllNe, and_true] at ne9); (try dsimp only); (try k_fold))) | ((with_reducible show wpAny _ _ (call (Value.ref 281) _) _ _ _); k_dflt (refine' Pure.use (read_c _ _ _ _ _ _ ?hx) ?k1 ?k2 ?k3 ?k4 ?k5 ?kK ?kd ?ku ?_; (case hx => omega); (((case k1 => k_asm); (case k2 => k_asm); (case k3 => k_asm); (case k4 => k_asm); (case k5 => k_asm); (case kK => first | exact rfl | assumption); (case kd => ktr_room); (case ku => ktr_units); k_whole; intro t9 h9 tk9 F9 N9; (try dsimp only); (try k_fold))))) | ((with_reducible show wpAny _ _ (call (Value.ref 136) _) _ _ _); k_dflt (refine' Pure.useF (base_f _ _ _ _ _ _ ?hx) ?k1 ?k2 ?k3 ?k4 ?k5 ?kK ?kd ?ku ?_; (case hx => omega); (((case k1 => k_asm); (case k2 => k_asm); (case k3 => k_asm); (case k4 => k_asm); (case k5 => k_asm); (case kK => first | exact rfl | assumption); (case kd => ktr_room); (case ku => ktr_units); k_whole; intro p9 t9 h9 tk9 F9 N9; (try dsimp only); (try k_fold)))))) <;> ((try dsimp only); k_steps))))
  unfold Halt
  refine range_inv (JClimb _ _ (climbF 12 x [])) ?done ?turn _ _ _ _ rfl ⟨fun _ _ _ _ => rfl, x, t, [], 0, rfl, rfl, rfl, hx, by simp⟩
  case done =>
    intro m news h tk hJ F N
    obtain ⟨hm, x', t', cs, k, hz, rfl, hj, hl1, hl2⟩ := hJ
    rw [map_cl hz hm] at F
    generalize m (Str.ofString "name") = v2 at F
    generalize m (Str.ofString "turn") = v3 at F
    clear hm hz
    (k_steps; repeat (any_goals (unfold Halt; (first | ((with_reducible show wpAny _ _ (call (Value.ref 122) _) _ _ _); k_dflt (refine' Made.use (split_c _ _ _ _ _ _ ?hx) ?k1 ?k2 ?k3 ?k4 ?k5 ?kK ?kd ?ku trivial ?_; (case hx => omega); (((case k1 => k_asm); (case k2 => k_asm); (case k3 => k_asm); (case k4 => k_asm); (case k5 => k_asm); (case kK => first | exact rfl | assumption); (case kd => ktr_room); (case ku => ktr_units))); k_whole; intro r9 tl9 h9 tk9 F9 N9 ne9 o9; obtain ⟨D9, t1, t2, a9, b9, e1, e2, ha9, hb9, hla9, hlb9⟩ := o9; subst e1 e2; (try simp only [List.cons_append, List.nil_append] at N9); (replace ne9 := allNe_of (fun p hp => ne9 p hp _ (List.Mem.head _))); (try simp only [AllNe, and_true] at ne9); (try dsimp only); (try k_fold))) | ((with_reducible show wpAny _ _ (call (Value.ref 281) _) _ _ _); k_dflt (refine' Pure.use (read_c _ _ _ _ _ _ ?hx) ?k1 ?k2 ?k3 ?k4 ?k5 ?kK ?kd ?ku ?_; (case hx => ((rename _ = baseF _ => e9); (have e8 := congrArg Str.length e9); omega)); (((case k1 => k_asm); (case k2 => k_asm); (case k3 => k_asm); (case k4 => k_asm); (case k5 => k_asm); (case kK => first | exact rfl | assumption); (case kd => ktr_room); (case ku => ktr_units); k_whole; intro t9 h9 tk9 F9 N9; (try dsimp only); (try k_fold))))) | (k_dflt (refine' ints_append ?kF ?kN ?kU ?kb ?_; (case kF => k_asm); (case kN => k_asm); (case kU => k_upd); (case kb => omega); k_whole); intro h' F' N') | ((with_reducible show wpAny _ _ (call (Value.ref 122) _) _ _ _); k_dflt (refine' Made.use (split_c _ _ _ _ _ _ ?hx) ?k1 ?k2 ?k3 ?k4 ?k5 ?kK ?kd ?ku trivial ?_; (case hx => size_fits); (((case k1 => k_asm); (case k2 => k_asm); (case k3 => k_asm); (case k4 => k_asm); (case k5 => k_asm); (case kK => first | exact rfl | assumption); (case kd => ktr_room); (case ku => ktr_units))); k_whole; intro r9 tl9 h9 tk9 F9 N9 ne9 o9; obtain ⟨D9, t1, t2, a9, b9, e1, e2, ha9, hb9, hla9, hlb9⟩ := o9; subst e1 e2; (try simp only [List.cons_append, List.nil_append] at N9); (replace ne9 := allNe_of (fun p hp => ne9 p hp _ (List.Mem.head _))); (try simp only [AllNe, and_true] at ne9); (try dsimp only); (try k_fold))) | ((with_reducible show wpAny _ _ (call (Value.ref 281) _) _ _ _); k_dflt (refine' Pure.use (read_c _ _ _ _ _ _ ?hx) ?k1 ?k2 ?k3 ?k4 ?k5 ?kK ?kd ?ku ?_; (case hx => omega); (((case k1 => k_asm); (case k2 => k_asm); (case k3 => k_asm); (case k4 => k_asm); (case k5 => k_asm); (case kK => first | exact rfl | assumption); (case kd => ktr_room); (case ku => ktr_units); k_whole; intro t9 h9 tk9 F9 N9; (try dsimp only); (try k_fold))))) | ((with_reducible show wpAny _ _ (call (Value.ref 136) _) _ _ _); k_dflt (refine' Pure.useF (base_f _ _ _ _ _ _ ?hx) ?k1 ?k2 ?k3 ?k4 ?k5 ?kK ?kd ?ku ?_; (case hx => omega); (((case k1 => k_asm); (case k2 => k_asm); (case k3 => k_asm); (case k4 => k_asm); (case k5 => k_asm); (case kK => first | exact rfl | assumption); (case kd => ktr_room); (case ku => ktr_units); k_whole; intro p9 t9 h9 tk9 F9 N9; (try dsimp only); (try k_fold)))))) <;> ((try dsimp only); k_steps))))
    all_goals rename News _ _ _ _ => lN
    all_goals refine hret _ _ _ _ (by k_asm) (gs_nil (by assumption) (by assumption)) lN (gs_fresh (by assumption) (by assumption)) ?_
    have e1 : (climbF 12 x []).1 = x' := by rw [← hj]; rfl
    have e2 : (climbF 12 x []).2 = cs.map (·.1) := by rw [← hj]; rfl
    rw [e1, e2]
    exact ⟨_, _, _, _, _, rfl, by k_mem, by k_mem, rfl⟩
  case turn =>
    intro i m news t' h tk hi hJ F N
    obtain ⟨hm, x', t', cs, k, hz, rfl, hj, hl1, hl2⟩ := hJ
    rw [map_cl hz hm] at F
    generalize m (Str.ofString "name") = v2 at F
    generalize m (Str.ofString "turn") = v3 at F
    clear hm hz
    (k_steps; repeat (any_goals (unfold Halt; (first | ((with_reducible show wpAny _ _ (call (Value.ref 122) _) _ _ _); k_dflt (refine' Made.use (split_c _ _ _ _ _ _ ?hx) ?k1 ?k2 ?k3 ?k4 ?k5 ?kK ?kd ?ku trivial ?_; (case hx => omega); (((case k1 => k_asm); (case k2 => k_asm); (case k3 => k_asm); (case k4 => k_asm); (case k5 => k_asm); (case kK => first | exact rfl | assumption); (case kd => ktr_room); (case ku => ktr_units))); k_whole; intro r9 tl9 h9 tk9 F9 N9 ne9 o9; obtain ⟨D9, t1, t2, a9, b9, e1, e2, ha9, hb9, hla9, hlb9⟩ := o9; subst e1 e2; (try simp only [List.cons_append, List.nil_append] at N9); (replace ne9 := allNe_of (fun p hp => ne9 p hp _ (List.Mem.head _))); (try simp only [AllNe, and_true] at ne9); (try dsimp only); (try k_fold))) | ((with_reducible show wpAny _ _ (call (Value.ref 281) _) _ _ _); k_dflt (refine' Pure.use (read_c _ _ _ _ _ _ ?hx) ?k1 ?k2 ?k3 ?k4 ?k5 ?kK ?kd ?ku ?_; (case hx => ((rename _ = baseF _ => e9); (have e8 := congrArg Str.length e9); omega)); (((case k1 => k_asm); (case k2 => k_asm); (case k3 => k_asm); (case k4 => k_asm); (case k5 => k_asm); (case kK => first | exact rfl | assumption); (case kd => ktr_room); (case ku => ktr_units); k_whole; intro t9 h9 tk9 F9 N9; (try dsimp only); (try k_fold))))) | (k_dflt (refine' ints_append ?kF ?kN ?kU ?kb ?_; (case kF => k_asm); (case kN => k_asm); (case kU => k_upd); (case kb => omega); k_whole); intro h' F' N') | ((with_reducible show wpAny _ _ (call (Value.ref 122) _) _ _ _); k_dflt (refine' Made.use (split_c _ _ _ _ _ _ ?hx) ?k1 ?k2 ?k3 ?k4 ?k5 ?kK ?kd ?ku trivial ?_; (case hx => size_fits); (((case k1 => k_asm); (case k2 => k_asm); (case k3 => k_asm); (case k4 => k_asm); (case k5 => k_asm); (case kK => first | exact rfl | assumption); (case kd => ktr_room); (case ku => ktr_units))); k_whole; intro r9 tl9 h9 tk9 F9 N9 ne9 o9; obtain ⟨D9, t1, t2, a9, b9, e1, e2, ha9, hb9, hla9, hlb9⟩ := o9; subst e1 e2; (try simp only [List.cons_append, List.nil_append] at N9); (replace ne9 := allNe_of (fun p hp => ne9 p hp _ (List.Mem.head _))); (try simp only [AllNe, and_true] at ne9); (try dsimp only); (try k_fold))) | ((with_reducible show wpAny _ _ (call (Value.ref 281) _) _ _ _); k_dflt (refine' Pure.use (read_c _ _ _ _ _ _ ?hx) ?k1 ?k2 ?k3 ?k4 ?k5 ?kK ?kd ?ku ?_; (case hx => omega); (((case k1 => k_asm); (case k2 => k_asm); (case k3 => k_asm); (case k4 => k_asm); (case k5 => k_asm); (case kK => first | exact rfl | assumption); (case kd => ktr_room); (case ku => ktr_units); k_whole; intro t9 h9 tk9 F9 N9; (try dsimp only); (try k_fold))))) | ((with_reducible show wpAny _ _ (call (Value.ref 136) _) _ _ _); k_dflt (refine' Pure.useF (base_f _ _ _ _ _ _ ?hx) ?k1 ?k2 ?k3 ?k4 ?k5 ?kK ?kd ?ku ?_; (case hx => omega); (((case k1 => k_asm); (case k2 => k_asm); (case k3 => k_asm); (case k4 => k_asm); (case k5 => k_asm); (case kK => first | exact rfl | assumption); (case kd => ktr_room); (case ku => ktr_units); k_whole; intro p9 t9 h9 tk9 F9 N9; (try dsimp only); (try k_fold)))))) <;> ((try dsimp only); k_steps))))
    all_goals unfold Halt
    all_goals refine wpAny_pure ?_
    all_goals rename Fr _ _ _ _ => lF
    all_goals rename News _ _ _ _ => lN
    · refine unrR_end lF lN [(_, W.listOf (intVals (cs ++ [(_, _)])).toArray (k + 1))] (by (((try simp only [List.cons_append, List.nil_append]); kcj_all))) (by simp only [AllNe, and_true]; omega) ⟨fun y h1 h2 h3 => by ((repeat with_reducible first | rfl | refine nx h1 ?_ | refine nx h2 ?_ | refine nx h3 ?_ | refine nx2 h1 ?_ | refine nx2 h2 ?_ | refine nx2 h3 ?_); done), _, _, _, _, rfl, rfl, climb_y hi (by assumption) (by assumption) (by assumption) hj, by omega, by rw [List.length_append, List.length_singleton]; omega⟩
    · refine unrR_end lF lN [(_, W.listOf (intVals cs).toArray k)] (by (((try simp only [List.cons_append, List.nil_append]); kcj_all))) (by simp only [AllNe, and_true]; omega) ⟨fun y h1 h2 h3 => by ((repeat with_reducible first | rfl | refine nx h1 ?_ | refine nx h2 ?_ | refine nx h3 ?_ | refine nx2 h1 ?_ | refine nx2 h2 ?_ | refine nx2 h3 ?_); done), _, _, _, _, rfl, rfl, climb_n hi (by assumption) hj, by omega, by omega⟩
end

-- 35_states
noncomputable def StatesIn (P : Addr → Obj → Prop) : List Value → List (Str × List (Int × Str)) → Prop
  | [], [] => True
  | v :: vs, e :: es => StateIn P v e ∧ StatesIn P vs es
  | _, _ => False
theorem StateIn.mono {P P' : Addr → Obj → Prop} (h : ∀ a o, P a o → P' a o) {v : Value} {e : Str × List (Int × Str)} : StateIn P v e → StateIn P' v e := fun ⟨b, t, rv, h1, h2, h3⟩ => ⟨b, t, rv, h1, h _ _ h2, h3.mono h⟩
theorem StatesIn.mono {P P' : Addr → Obj → Prop} (h : ∀ a o, P a o → P' a o) : ∀ {vs : List Value} {es : List (Str × List (Int × Str))}, StatesIn P vs es → StatesIn P' vs es
  | [], [], _ => trivial
  | _ :: _, _ :: _, ⟨x, y⟩ => ⟨x.mono h, y.mono h⟩
  | [], _ :: _, x => x.elim
  | _ :: _, [], x => x.elim
theorem StatesIn.app {P : Addr → Obj → Prop} : ∀ {vs us : List Value} {es fs : List (Str × List (Int × Str))}, StatesIn P vs es → StatesIn P us fs → StatesIn P (vs ++ us) (es ++ fs)
  | [], _, [], _, _, y => y
  | _ :: _, _, _ :: _, _, ⟨x, z⟩, y => ⟨x, z.app y⟩
  | [], _, _ :: _, _, x, _ => x.elim
  | _ :: _, _, [], _, x, _ => x.elim
noncomputable def statesF : Str × List (Int × Str) → List Int → List (Str × List (Int × Str))
  | st, [] => [st]
  | st, n :: r => st :: statesF (toldF st.1 st.2 (drawnF n)) r
theorem told_len (root : Str) (row : List (Int × Str)) (d : Int) : (toldF root row d).2.length ≤ row.length + 3 := by
  have h1 := up_len root row
  have h2 := up_len root (upF root row)
  unfold toldF
  dsimp only
  repeat' split
  all_goals simp only [List.length_append, List.length_cons, List.length_nil]
  all_goals omega
theorem drawn_lt (n : Int) : 0 ≤ drawnF n ∧ drawnF n < 65536 := by
  have h1 : 0 ≤ (n.fdiv 8).fmod 65536 ∧ (n.fdiv 8).fmod 65536 < 65536 := ⟨Int.fmod_nonneg_of_pos _ (by decide), Int.fmod_lt_of_pos _ (by decide)⟩
  have h2 : 0 ≤ kindF n ∧ kindF n < 16 := by
    unfold kindF
    rw [Int.fdiv_eq_ediv_of_nonneg ((n.fdiv 8).fmod 65536) (show (0 : Int) ≤ 4096 by decide)]
    repeat' split
    all_goals omega
  have h3 : 0 ≤ (((n.fdiv 8).fmod 65536 + 1) * 493).fmod 4096 ∧ (((n.fdiv 8).fmod 65536 + 1) * 493).fmod 4096 < 4096 := ⟨Int.fmod_nonneg_of_pos _ (by decide), Int.fmod_lt_of_pos _ (by decide)⟩
  unfold drawnF
  omega
theorem led_list {h₀ h : Heap} {L a : Addr} {news : List (Addr × Obj)} {vs : List Value} {n : Nat} (N : News h₀ L h news) (hm : (a, W.listOf vs.toArray n) ∈ news) : h.IsList a vs.toArray := ⟨_, (N _ hm).1, rfl, n, rfl⟩
theorem led_tup {h₀ h : Heap} {L b : Addr} {news tl : List (Addr × Obj)} {vs : List Value} (N : News h₀ L h news) (hm : (b, tupO vs) ∈ tl) (hs : ∀ p ∈ tl, p ∈ news) : IsTup h b vs.toArray := ⟨_, (N _ (hs _ hm)).1, rfl, 0, rfl⟩
theorem vals_append {prog : Program} {w : World} {A : Around} {E : Value → Shared → Prop} {s : Shared} {h₀ : Heap} {L a : Addr} {m : Str → Option Value} {news news' : List (Addr × Obj)} {vs : List Value} {n : Nat} {Q : Value → Shared → Prop} {x : Value} (F : Fr h₀ L s.heap m) (N : News h₀ L s.heap news) (U : Upd a (W.listOf vs.toArray n) (W.listOf (vs ++ [x]).toArray (n + 1)) news news') (hb : vs.length ≤ 1000)
    (h : ∀ h', Fr h₀ L h' m → News h₀ L h' news' → Q .none { s with heap := h' }) : wpAny (model prog w) A (call (.builtin "list.append") [.ref a, x]) Q E s := by
  have e : vs.toArray.push x = (vs ++ [x]).toArray := by simp
  refine append_K (hsz := ?_) F N (e ▸ U) h
  rw [sizeLine_eq]; simp; omega
theorem head_ne {I : Addr} {o : Obj} {r tl : List (Addr × Obj)} (h : ∀ p ∈ (I, o) :: r, ∀ q ∈ tl, p.1 ≠ q.1) : ∀ p ∈ tl, p.1 ≠ I := fun p hp e => h _ (.head _) p hp e.symm
theorem app_ne {d : Addr} {a b : List (Addr × Obj)} (ha : ∀ p ∈ a, p.1 ≠ d) (hb : ∀ p ∈ b, p.1 ≠ d) : ∀ p ∈ a ++ b, p.1 ≠ d := fun p hp => (List.mem_append.mp hp).elim (ha p) (hb p)
theorem one_off {l I : Addr} {o oI : Obj} {r : List (Addr × Obj)} (h : @Ne Nat I l) (hr : ∀ p ∈ r, p.1 ≠ I) : ∀ p ∈ (l, o) :: r, ∀ q ∈ [(I, oI)], p.1 ≠ q.1 := fun p hp q hq => by
  rw [List.mem_singleton.mp hq]
  rcases List.mem_cons.mp hp with rfl | hp
  · exact fun e => h (Eq.symm e)
  · exact hr p hp
noncomputable def JStates (m₀ : Str → Option Value) (l I : Addr) (z : List (Str × List (Int × Str))) (ps : List (Int × Tok)) (m : Str → Option Value) (n : List (Addr × Obj)) : Prop :=
  (∀ y, y ≠ Str.ofString "number" → m y = m₀ y) ∧ ∃ vs v st sts k tl, n = (l, W.listOf (vs ++ [v]).toArray k) :: tl ∧ StatesIn (fun a o => (a, o) ∈ tl) vs sts ∧ StateIn (fun a o => (a, o) ∈ tl) v st ∧ sts ++ statesF st (ps.map (·.1)) = z ∧ st.2.length + 3 * ps.length ≤ 47 ∧ vs.length + ps.length ≤ 50 ∧ (∀ p ∈ tl, p.1 ≠ I) ∧ @Ne Nat I l ∧ (∀ p ∈ tl, p.1 ≠ l)
section
local macro_rules | `(tactic| walk_at "exec For Name Name cons nil") => `(tactic| refine halt ?_)
local macro_rules | `(tactic| walk_at "pyIter ref") => `(tactic| (k_here; refine halt ?_))
local macro_rules | `(tactic| walk_at "execs nil") => `(tactic| (refine halt ?_))
local macro_rules | `(tactic| walk_at "subscriptTail Name UnaryOp ref int") => `(tactic| refine halt ?_)
local macro_rules | `(tactic| walk_at "subscriptTail") => `(tactic| (k_here; (with_reducible show wpAny _ _ (subscriptTail (PySem.Expr.Subscript _ _ _) (PySem.Expr.Constant _ _ _) (Value.ref _) (Value.int _ _)) _ _ _); k_dflt (refine' item_tupleT ?t ?a ?b ?c ?d ?_ ?e; (case t => exact led_tup (by k_asm) (by with_reducible assumption) (fun p hp => by walk_at "my memx")); (case a => decide); (case b => decide); (case c => rfl); (case d => rfl); (case e => with_unfolding_all rfl); k_whole)))
local macro_rules | `(tactic| walk_at "call builtin:list.append") => `(tactic| refine halt ?_)
variable (w : World) (mean : ExcName → Option Value) (mg mb : Str → Option Value)
theorem states_c (x : Str) (t : Tok) (a : Addr) (l : List (Int × Tok)) (k : Nat) (hl : l.length ≤ 14) :
    Made 40 w mean mg mb 328 (fun h => h.get? a = some (W.listOf (intVals l).toArray k)) [.str x t, .ref a] (fun r tl => ∃ b vs k', r = .ref b ∧ (b, W.listOf (List.toArray vs) k') ∈ tl ∧ StatesIn (fun a o => (a, o) ∈ tl) vs (statesF (x, []) (l.map (·.1)))) := by
  dsimp only [Made]; k_fill; intros; rename_i hp hret
  refine wpAny_call ?_
  k_dflt (((refine' code_defG ?k1 ?k2 ?k3 ?k4 ?k5 ?kA ?kF ?kK ?k6 ?k7 ?k8 ?k9 ?kB ?_ ?c2 ?c3 ?c4 ?c5; (case kA => exact rfl); (case kF => exact rfl); (case kK => assumption); (case k1 => k_asm); (case k2 => k_asm); (case k3 => k_asm); (case k4 => exact News.nil); (case k5 => k_asm); (case k6 => k_is); (case k7 => k_is); (case k8 => k_room); (case k9 => exact BindsTo.of_eq rfl); (case c5 => decide); (case kB => exact locs rfl); (case c2 => exact rfl); (case c3 => exact rfl); (case c4 => exact rfl); k_whole; intro g' L' h' FG' F' N' B' X' T' GS'; (try dsimp only); (try k_lift B'); (try k_fold))))
  rename GSub _ _ _ => lG
  have hga := lG _ _ hp (fun h => nomatch h)
  (k_steps; repeat (any_goals (unfold Halt; (first | (k_dflt (refine' vals_append ?kF ?kN ?kU ?kb ?_; (case kF => k_asm); (case kN => k_asm); (case kU => first | k_upd | exact Upd.tail (by assumption) (Upd.head (by assumption))); (case kb => (simp only [List.length_append, List.length_cons, List.length_nil]; omega)); k_whole); intro h' F' N') | (k_dflt (refine' list_last ?k1 ?_ ?k2; (case k1 => exact led_list (by k_asm) (by k_mem)); (case k2 => with_unfolding_all rfl); k_whole)) | ((rename Fr _ _ _ _ => lF'); (with_unfolding_all refine' For_turns lF' ?_; k_whole)) | ((with_reducible show wpAny _ _ (call (Value.ref 274) _) _ _ _); k_dflt (refine' Pure.use (drawn_c _ _ _ _ _ _) ?k1 ?k2 ?k3 ?k4 ?k5 ?kK ?kd ?ku ?_; (((case k1 => k_asm); (case k2 => k_asm); (case k3 => k_asm); (case k4 => k_asm); (case k5 => k_asm); (case kK => first | exact rfl | assumption); (case kd => ktr_room); (case ku => ktr_units); k_whole; intro t9 h9 tk9 F9 N9; (try dsimp only); (try k_fold)))))) <;> ((try dsimp only); k_steps))))
  unfold Halt
  rename Fr _ _ _ _ => lF
  rename News _ _ _ _ => lN
  with_unfolding_all refine iter_listG (lo := W.listOf (intVals l).toArray k) (vs := intVals l) (by rfl) lF lN hga (by rfl) (by rfl) ?_
  clear lF lN
  intro I l1
  have e9 : (intVals l).map Itm.val = l.map (fun p => Itm.val (Value.int p.1 p.2)) := by unfold intVals; rw [List.map_map]; rfl
  rw [e9]
  refine items_vals (val := fun p : Int × Tok => Value.int p.1 p.2) (JStates _ _ I (statesF (x, []) (l.map (·.1)))) ?done ?turn l _ _ ⟨fun _ _ => rfl, [], _, (x, []), [], 0, _, rfl, trivial, ⟨_, _, _, rfl, by k_mem, ⟨_, [], 0, rfl, by k_mem, trivial⟩⟩, rfl, by simp; omega, by simp; omega, fun p hp => Nat.ne_of_lt (l1 p (.tail _ hp)), Nat.ne_of_gt (l1 _ (.head _)), by k_all⟩
  case done =>
    intro m news h tk hJ F N
    obtain ⟨hm, vs, v, st, sts, k', tl, rfl, hS, hV, hj, hl1, hl2, hl3, hl4, hl5⟩ := hJ
    rw [map_one hm] at F
    clear hm
    (k_steps; repeat (any_goals (unfold Halt; (first | (k_dflt (refine' vals_append ?kF ?kN ?kU ?kb ?_; (case kF => k_asm); (case kN => k_asm); (case kU => first | k_upd | exact Upd.tail (by assumption) (Upd.head (by assumption))); (case kb => (simp only [List.length_append, List.length_cons, List.length_nil]; omega)); k_whole); intro h' F' N') | (k_dflt (refine' list_last ?k1 ?_ ?k2; (case k1 => exact led_list (by k_asm) (by k_mem)); (case k2 => with_unfolding_all rfl); k_whole)) | ((rename Fr _ _ _ _ => lF'); (with_unfolding_all refine' For_turns lF' ?_; k_whole)) | ((with_reducible show wpAny _ _ (call (Value.ref 274) _) _ _ _); k_dflt (refine' Pure.use (drawn_c _ _ _ _ _ _) ?k1 ?k2 ?k3 ?k4 ?k5 ?kK ?kd ?ku ?_; (((case k1 => k_asm); (case k2 => k_asm); (case k3 => k_asm); (case k4 => k_asm); (case k5 => k_asm); (case kK => first | exact rfl | assumption); (case kd => ktr_room); (case ku => ktr_units); k_whole; intro t9 h9 tk9 F9 N9; (try dsimp only); (try k_fold)))))) <;> ((try dsimp only); k_steps))))
    all_goals rename News _ _ _ _ => lN
    all_goals refine hret _ _ _ _ (by k_asm) (gs_nil (by assumption) (by assumption)) lN (gs_fresh (by assumption) (by assumption)) ⟨_, _, _, rfl, by k_mem, ?_⟩
    rw [← hj]
    exact StatesIn.app (hS.mono fun _ _ x => List.Mem.tail _ x) ⟨hV.mono fun _ _ x => List.Mem.tail _ x, trivial⟩
  case turn =>
    intro p r m news h tk hJ F
    obtain ⟨hm, vs, v, ⟨root, row⟩, sts, k', tl, rfl, hS, hV, hj, hl1, hl2, hl3, hl4, hl5⟩ := hJ
    rw [map_one hm] at F
    generalize m (Str.ofString "number") = vb at F
    clear hm
    obtain ⟨n, tn⟩ := p
    obtain ⟨b, tb, rv, rfl, hb, hR⟩ := hV
    simp only [List.length_cons] at hl1 hl2
    have hd := drawn_lt n
    have htl := told_len root row (drawnF n)
    dsimp only
    dsimp only at hb hR hl1
    clear e9
    ktu_objs
    (k_steps; repeat (any_goals (unfold Halt; (first | (k_dflt (refine' vals_append ?kF ?kN ?kU ?kb ?_; (case kF => k_asm); (case kN => k_asm); (case kU => first | k_upd | exact Upd.tail (by assumption) (Upd.head (by assumption))); (case kb => (simp only [List.length_append, List.length_cons, List.length_nil]; omega)); k_whole); intro h' F' N') | (k_dflt (refine' list_last ?k1 ?_ ?k2; (case k1 => exact led_list (by k_asm) (by k_mem)); (case k2 => with_unfolding_all rfl); k_whole)) | ((rename Fr _ _ _ _ => lF'); (with_unfolding_all refine' For_turns lF' ?_; k_whole)) | ((with_reducible show wpAny _ _ (call (Value.ref 274) _) _ _ _); k_dflt (refine' Pure.use (drawn_c _ _ _ _ _ _) ?k1 ?k2 ?k3 ?k4 ?k5 ?kK ?kd ?ku ?_; (((case k1 => k_asm); (case k2 => k_asm); (case k3 => k_asm); (case k4 => k_asm); (case k5 => k_asm); (case kK => first | exact rfl | assumption); (case kd => ktr_room); (case ku => ktr_units); k_whole; intro t9 h9 tk9 F9 N9; (try dsimp only); (try k_fold)))))) <;> ((try dsimp only); k_steps))))
    unfold Halt
    rename Fr _ _ _ _ => lF
    rename News _ _ _ _ => lN
    refine' Made.use (told_c w mean mg mb (fun a o => (a, o) ∈ tl) root tb rv row hR (by omega) (drawnF n) _ hd.1 hd.2) ?k1 ?k2 ?k3 ?k4 ?k5 ?kK ?kd ?ku ?kp ?_
    case kp => exact fun a o q => (lN (a, o) (by walk_at "my memx")).1
    (((case k1 => k_asm); (case k2 => k_asm); (case k3 => k_asm); (case k4 => k_asm); (case k5 => k_asm); (case kK => first | exact rfl | assumption); (case kd => ktr_room); (case ku => ktr_units)))
    k_whole
    intro r9 tl9 h9 tk9 F9 N9 ne9 o9
    replace o9 := o9.mono (P' := fun a o => (a, o) ∈ tl ++ tl9) fun a o x => List.mem_append.mpr x
    (try simp only [List.cons_append, List.nil_append] at ne9)
    have hI9 := head_ne ne9
    have hl9 := head_ne fun p hp => ne9 p (.tail _ hp)
    have hU9 := app_ne hl5 hl9
    replace N9 := news_swap N9
    simp only [List.cons_append] at N9
    clear lF lN
    obtain ⟨b9, t9, rv9, rfl, hb9, hr9⟩ := o9
    (k_steps; repeat (any_goals (unfold Halt; (first | (k_dflt (refine' vals_append ?kF ?kN ?kU ?kb ?_; (case kF => k_asm); (case kN => k_asm); (case kU => first | k_upd | exact Upd.tail (by assumption) (Upd.head (by assumption))); (case kb => (simp only [List.length_append, List.length_cons, List.length_nil]; omega)); k_whole); intro h' F' N') | (k_dflt (refine' list_last ?k1 ?_ ?k2; (case k1 => exact led_list (by k_asm) (by k_mem)); (case k2 => with_unfolding_all rfl); k_whole)) | ((rename Fr _ _ _ _ => lF'); (with_unfolding_all refine' For_turns lF' ?_; k_whole)) | ((with_reducible show wpAny _ _ (call (Value.ref 274) _) _ _ _); k_dflt (refine' Pure.use (drawn_c _ _ _ _ _ _) ?k1 ?k2 ?k3 ?k4 ?k5 ?kK ?kd ?ku ?_; (((case k1 => k_asm); (case k2 => k_asm); (case k3 => k_asm); (case k4 => k_asm); (case k5 => k_asm); (case kK => first | exact rfl | assumption); (case kd => ktr_room); (case ku => ktr_units); k_whole; intro t9 h9 tk9 F9 N9; (try dsimp only); (try k_fold)))))) <;> ((try dsimp only); k_steps))))
    unfold Halt
    refine wpAny_pure ?_
    rename Fr _ _ _ _ => lF
    rename News _ _ _ _ => lN
    dsimp only [UnrPostW]
    refine ⟨_, _, _, (_, W.listOf (vs ++ [Value.ref b] ++ [Value.ref b9]).toArray (k' + 1)) :: (tl ++ tl9), rfl, lF, fun p hp => lN p hp, ?_, trivial, fun y h1 => by ((repeat with_reducible first | rfl | refine nx h1 ?_ | refine nx2 h1 ?_); done), vs ++ [Value.ref b], Value.ref b9, toldF root row (drawnF n), sts ++ [(root, row)], k' + 1, tl ++ tl9, rfl, ?_, ⟨b9, t9, rv9, rfl, hb9, hr9⟩, ?_, by omega, by rw [List.length_append, List.length_singleton]; omega, app_ne hl3 hI9, hl4, hU9⟩
    · exact one_off hl4 (app_ne hl3 hI9)
    · exact StatesIn.app (hS.mono fun _ _ x => List.mem_append_left _ x) ⟨⟨b, tb, rv, rfl, List.mem_append_left _ hb, hR.mono fun _ _ x => List.mem_append_left _ x⟩, trivial⟩
    · rw [← hj, List.append_assoc]; rfl
end

-- 36_text
-- contracts over a ledger: what the caller's new objects tell
noncomputable abbrev PureL (n : Nat) (w : World) (mean : ExcName → Option Value) (mg mb : Str → Option Value) (f : Addr) (tl : CbLed) (vs : List Value) (R : Tok → Value) : Prop :=
  ∀ (dp un : Nat) (gd : Option (List Code)) (cn : Str) (cs : Scope) (a : Addr) (ccd : Value) (cl : List (Str × Addr)) (outer : List Env) (A₀ : Around) (base h₀ : Heap) (L : Addr) (m : Str → Option Value) (s : Shared) (Q E : Value → Shared → Prop),
    Below A₀ base outer h₀ → Fr h₀ L s.heap m → News h₀ L s.heap tl → (KK w.params).In h₀ → Top vw (looseW vw loose) mean mg mb h₀ → cs.kind = .function →
    dp + n < recursionLimit → un + 8 * n < cLine →
    (∀ (t : Tok) (h' : Heap) (tk' : Nat), Fr h₀ L h' m → (∀ b o, s.heap.get? b = some o → h'.get? b = some o) → Q (R t) { s with heap := h', toks := tk' }) →
    wpAny (model PySem.Challenge.rw_pd0061_01.row.prog w) (ktrTop dp un gd cn cs L a ccd cl outer) (call (.ref f) vs) Q E s
theorem PureL.use {n : Nat} {w : World} {mean : ExcName → Option Value} {mg mb : Str → Option Value} {f : Addr} {tl : CbLed} {vs : List Value} {R : Tok → Value} (C : PureL n w mean mg mb f tl vs R)
    {dp un : Nat} {gd : Option (List Code)} {cn : Str} {cs : Scope} {a : Addr} {ccd : Value} {cl : List (Str × Addr)} {outer : List Env} {A₀ : Around} {base h₀ : Heap} {L : Addr} {m : Str → Option Value} {news : CbLed} {s : Shared} {Q E : Value → Shared → Prop}
    (B : Below A₀ base outer h₀) (F : Fr h₀ L s.heap m) (X : (KK w.params).In h₀) (N : News h₀ L s.heap news) (T : Top vw (looseW vw loose) mean mg mb h₀) (hk : cs.kind = .function) (hd : dp + n < recursionLimit) (hu : un + 8 * n < cLine) (hs : ∀ p ∈ tl, p ∈ news)
    (k : ∀ (t : Tok) (h' : Heap) (tk' : Nat), Fr h₀ L h' m → News h₀ L h' news → Q (R t) { s with heap := h', toks := tk' }) :
    wpAny (model PySem.Challenge.rw_pd0061_01.row.prog w) (ktrTop dp un gd cn cs L a ccd cl outer) (call (.ref f) vs) Q E s :=
  C dp un gd cn cs a ccd cl outer A₀ base h₀ L m s Q E B F (fun p hp => N p (hs p hp)) X T hk hd hu fun t h' tk' F' kp => k t h' tk' F' fun p hp => ⟨kp _ _ (N p hp).1, (N p hp).2⟩
theorem gs_led {H g h h₀ : Heap} {L L₀ : Addr} {m : Str → Option Value} {tl all : CbLed} (G : GSub H g (tl.map (·.1))) (F : Fr g L h m) (NH : News h₀ L₀ H tl) (N : News h₀ L₀ h all) (hs : ∀ p ∈ tl, p ∈ all) : ∀ b o, H.get? b = some o → h.get? b = some o := fun b o e => by
  by_cases hb : b ∈ tl.map (·.1)
  · obtain ⟨p, hp, rfl⟩ := List.mem_map.mp hb
    have h1 := (NH p hp).1
    rw [e] at h1
    cases h1
    exact (N p (hs p hp)).1
  · exact F.keep b o (G b o e hb)
theorem EntsIn.at {P : Addr → Obj → Prop} : ∀ {vs : List Value} {es : List (Int × Str)} {i : Nat} {v : Value}, EntsIn P vs es → vs[i]? = some v → ∃ e, es[i]? = some e ∧ EntIn P v e
  | v :: vs, e :: es, 0, u, ⟨x, _⟩, h => ⟨e, rfl, by simp at h; subst h; exact x⟩
  | v :: vs, e :: es, i + 1, u, ⟨_, y⟩, h => by
    obtain ⟨e', h1, h2⟩ := y.at (i := i) (by simpa using h)
    exact ⟨e', by simpa using h1, h2⟩
  | [], [], _, _, _, h => by simp at h
  | [], _ :: _, _, _, x, _ => x.elim
  | _ :: _, [], _, _, x, _ => x.elim
/-- a comprehension over pairs, by what holds between its turns -/
theorem compP_inv {prog : Program} {w : World} {A : Around} {h₀ : Heap} {L : Addr} {m : Str → Option Value} {env : Env} {elt : Expr} {x x₂ : Str} {scope : Scope} {cl : List (Str × Addr)} {s : Shared} {S : List (Addr × Obj) → Prop} {P : Nat → Value → Prop} {Fin : List Value → List (Addr × Obj) → Prop} {n : Nat}
    (J : Nat → List Value → List (Addr × Obj) → Prop)
    (turn : ∀ i v ys news, i < n → J i ys news → P i v → ∃ (t : Addr) (ot : Obj) (v₁ v₂ : Value) (nt : Nat), v = .ref t ∧ (t, ot) ∈ news ∧ ot.cls = .type "tuple" ∧ ot.data = .seq #[v₁, v₂] nt ∧
      ∀ I oI C oC D m₂ h tk (E' : Value → Shared → Prop), LCg.NsObj oC m₂ → m₂ x = some v₁ → m₂ x₂ = some v₂ → Fr h₀ L h m → News h₀ L h ((I, oI) :: (C, oC) :: (D, LCg.lst ys) :: news) → LCg.Off3 I C D news → ((@Ne Nat I C) ∧ (@Ne Nat I D) ∧ (@Ne Nat C D)) →
      wpAny (model prog w) A (eval elt (compEnvC scope cl C env)) (LCg.CompEnd h₀ L m { s with heap := h, toks := tk } I oI C oC D (LCg.lst ys) S (fun y news' => J (i + 1) (ys ++ [y]) news')) E' { s with heap := h, toks := tk })
    (fin : ∀ ys news, J n ys news → Fin ys news) :
    ∀ (k i : Nat) (ys : List Value) (news : List (Addr × Obj)), i + k = n → J i ys news → LCp.CompRestP prog w A h₀ L m env elt x x₂ scope cl s S P Fin k i ys news
  | 0, i, ys, news, e, hJ => LCp.CompRestP.zero (fin ys news (by rw [Nat.add_zero] at e; exact e ▸ hJ))
  | k + 1, i, ys, news, e, hJ => LCp.CompRestP.succ fun v hv => by
    obtain ⟨t, ot, v₁, v₂, nt, h1, h2, h3, h4, h5⟩ := turn i v ys news (by omega) hJ hv
    refine ⟨t, ot, v₁, v₂, nt, h1, h2, h3, h4, fun I oI C oC D m₂ h tk E' hC hx hx' F N off ne => wpAny_mono (h5 I oI C oC D m₂ h tk E' hC hx hx' F N off ne) (fun y s₂ q => ?_) fun _ _ e => e⟩
    obtain ⟨h', tk', n', e', F', N', o', hS, hj⟩ := q
    exact ⟨h', tk', n', e', F', N', o', hS, compP_inv J turn fin k (i + 1) _ n' (by omega) hj⟩
noncomputable def textF (root : Str) (row : List (Int × Str)) : Str := root ++ Txt.join (Str.ofString "/") (row.map (·.2))
noncomputable def JText (tl : List (Addr × Obj)) (row : List (Int × Str)) (i : Nat) (ys : List Value) (n : List (Addr × Obj)) : Prop := n = tl ∧ ∃ cs : List (Str × Tok), ys = strValues cs ∧ cs.map (·.1) = (row.take i).map (·.2)
theorem jtext_add {tl : List (Addr × Obj)} {row : List (Int × Str)} {i : Nat} {cs : List (Str × Tok)} {e : Int × Str} {t : Tok} (h : row[i]? = some e) (hc : cs.map (·.1) = (row.take i).map (·.2)) : JText tl row (i + 1) (strValues cs ++ [.str e.2 t]) tl := by
  refine ⟨rfl, cs ++ [(e.2, t)], by simp [strValues], ?_⟩
  rw [List.take_add_one, h, List.map_append, List.map_append, hc]; rfl
theorem textF_eq' {root z : Str} {row : List (Int × Str)} {cs : List (Str × Tok)} (hc : cs.map (·.1) = row.map (·.2)) (hz : z = Txt.join (Str.ofString "/") (cs.map (·.1))) : root ++ z = textF root row := by rw [hz, hc]; rfl
section
local macro_rules | `(tactic| walk_at "eval ListComp") => `(tactic| (k_here; refine halt ?_))
local macro_rules | `(tactic| walk_at "SrcLP") => `(tactic| (refine halt ?_))
local macro_rules | `(tactic| walk_at "call builtin:str.join") => `(tactic| refine halt ?_)
variable (w : World) (mean : ExcName → Option Value) (mg mb : Str → Option Value)
theorem text_c (tl : CbLed) (root : Str) (t : Tok) (hroot : root.length ≤ 10) (rv : Value) (row : List (Int × Str)) (hr : RowIn (fun a o => (a, o) ∈ tl) rv row) (hw : weight (row.map (·.2)) ≤ 1000) :
    PureL 12 w mean mg mb 333 tl [.str root t, rv] (fun t' => .str (textF root row) t') := by
  dsimp only [PureL]; k_fill; intros; rename_i hNH _ _ _ _ _ hret
  refine wpAny_call ?_
  k_dflt (((refine' code_defG ?k1 ?k2 ?k3 ?k4 ?k5 ?kA ?kF ?kK ?k6 ?k7 ?k8 ?k9 ?kB ?_ ?c2 ?c3 ?c4 ?c5; (case kA => exact rfl); (case kF => exact rfl); (case kK => assumption); (case k1 => k_asm); (case k2 => k_asm); (case k3 => k_asm); (case k4 => assumption); (case k5 => k_asm); (case k6 => k_is); (case k7 => k_is); (case k8 => k_room); (case k9 => exact BindsTo.of_eq rfl); (case c5 => decide); (case kB => exact locs rfl); (case c2 => exact rfl); (case c3 => exact rfl); (case c4 => exact rfl); k_whole; intro g' L' h' FG' F' N' B' X' T' GS'; (try dsimp only); (try k_lift B'); (try k_fold))))
  rename GSub _ _ _ => lG
  obtain ⟨a, vs, nv, rfl, hL, hE⟩ := hr
  have hlen := hE.len
  have hv9 : vs.length ≤ 1000 := by have := weight_len (row.map (·.2)); rw [List.length_map] at this; omega
  (k_steps; repeat (any_goals (unfold Halt; (first | (k_dflt (refine' strs_join ?kN ?km ?kw ?kx ?_; (case kN => k_asm); (case km => k_mem); (case kw => assumption); (case kx => decide +kernel); k_whole); intro z' t' k' hz'; (have hz2 := joinT_len' hz' (by assumption)))) <;> ((try dsimp only); k_steps))))
  unfold Halt
  rename Fr _ _ _ _ => lF
  k_dflt (refine LCp.ListComp_P (F₀ := lF) (by with_unfolding_all rfl) (by decide) (by rfl) (by decide) (by rfl) (by rfl) (by decide) ?_)
  (k_steps; repeat (any_goals (unfold Halt; (first | (k_dflt (refine' strs_join ?kN ?km ?kw ?kx ?_; (case kN => k_asm); (case km => k_mem); (case kw => assumption); (case kx => decide +kernel); k_whole); intro z' t' k' hz'; (have hz2 := joinT_len' hz' (by assumption)))) <;> ((try dsimp only); k_steps))))
  unfold Halt
  rename News _ _ _ _ => lN
  k_dflt (refine LCp.SrcLP.ledger (its := vs.toArray) (by rfl) lF lN hL (by rw [List.size_toArray, sizeLine_eq]; omega) ?_)
  intro g9
  refine compP_inv (JText tl row) ?turn ?fin _ _ _ _ (Nat.zero_add _) ⟨rfl, [], rfl, rfl⟩
  case turn =>
    intro i v ys news hi hJ hv
    obtain ⟨rfl, cs, rfl, hc⟩ := hJ
    obtain ⟨e, he, b, t1, t2, rfl, hb, ho⟩ := hE.at (i := i) (v := v) (by simpa using hv)
    refine ⟨b, _, _, _, 0, rfl, hb, rfl, rfl, ?_⟩
    intro I oI C oC D m₂ h tk E' hC hx9 hx8 F N off ne
    (k_steps; repeat (any_goals (unfold Halt; (first | (k_dflt (refine' strs_join ?kN ?km ?kw ?kx ?_; (case kN => k_asm); (case km => k_mem); (case kw => assumption); (case kx => decide +kernel); k_whole); intro z' t' k' hz'; (have hz2 := joinT_len' hz' (by assumption)))) <;> ((try dsimp only); k_steps))))
    rename Fr _ _ _ _ => lF
    rename News _ _ _ _ => lN
    exact comp_end lF lN _ (fun p hp => hp) off (.inr ⟨_, hL, rfl, _, rfl⟩) (jtext_add he hc)
  case fin =>
    intro ys news hJ
    obtain ⟨rfl, cs, rfl, hc⟩ := hJ
    intro D h9 tk9 F9 N9 off9
    have hc' : cs.map (·.1) = row.map (·.2) := by rw [hc, List.size_toArray, hlen, List.take_length]
    have hw1 : weight (cs.map (·.1)) ≤ 1000 := by rw [hc']; exact hw
    have hw2 : ((cs.map (·.1)).map (·.length)).sum + (cs.map (·.1)).length ≤ 1048576 := by have := hw1; unfold weight at this; omega
    replace N9 : News _ _ h9 ((D, W.listOf (strValues cs).toArray (strValues cs).length) :: news) := N9
    (k_steps; repeat (any_goals (unfold Halt; (first | (k_dflt (refine' strs_join ?kN ?km ?kw ?kx ?_; (case kN => k_asm); (case km => k_mem); (case kw => assumption); (case kx => decide +kernel); k_whole); intro z' t' k' hz'; (have hz2 := joinT_len' hz' (by assumption)))) <;> ((try dsimp only); k_steps))))
    all_goals rename News _ _ _ _ => lN
    rename _ = Txt.join _ _ => hz
    rw [textF_eq' hc' hz]
    exact hret _ _ _ (by k_asm) (gs_led lG (by assumption) hNH lN (fun p hp => .tail _ hp))
end

-- 37_lawl
theorem intsAre_vals : ∀ {vs : List Value} {ns : List Int}, IntsAre vs ns → ∃ l : List (Int × Tok), vs = intVals l ∧ l.map (·.1) = ns
  | _, _, .nil => ⟨[], rfl, rfl⟩
  | _, _, .cons n t h => by
    obtain ⟨l, rfl, rfl⟩ := intsAre_vals h
    exact ⟨(n, t) :: l, rfl, rfl⟩
theorem StatesIn.at {P : Addr → Obj → Prop} : ∀ {vs : List Value} {es : List (Str × List (Int × Str))} {i : Nat} {v : Value}, StatesIn P vs es → vs[i]? = some v → ∃ e, es[i]? = some e ∧ StateIn P v e
  | v :: vs, e :: es, 0, u, ⟨x, _⟩, h => ⟨e, rfl, by simp at h; subst h; exact x⟩
  | v :: vs, e :: es, i + 1, u, ⟨_, y⟩, h => by
    obtain ⟨e', h1, h2⟩ := y.at (i := i) (by simpa using h)
    exact ⟨e', by simpa using h1, h2⟩
  | [], [], _, _, _, h => by simp at h
  | [], _ :: _, _, _, x, _ => x.elim
  | _ :: _, [], _, _, x, _ => x.elim
theorem StatesIn.len {P : Addr → Obj → Prop} : ∀ {vs : List Value} {es : List (Str × List (Int × Str))}, StatesIn P vs es → vs.length = es.length
  | [], [], _ => rfl
  | _ :: _, _ :: _, ⟨_, y⟩ => by simp [y.len]
  | [], _ :: _, x => x.elim
  | _ :: _, [], x => x.elim
noncomputable def dotF (t : Str) : Str := if (t != Str.ofString "") = true then t else Str.ofString "."
theorem dot_y {t : Str} (h : (t != Str.ofString "") = true) : t = dotF t := by unfold dotF; rw [if_pos h]
theorem dot_n {t : Str} (h : (t != Str.ofString "") = false) : Str.ofString "." = dotF t := by unfold dotF; rw [if_neg (by rw [h]; decide)]
noncomputable def startF (ns : List Int) : Str := if ((ns.length : Int)).fmod 2 = 0 then Str.ofString "//" else Str.ofString ""
noncomputable def numF (ns : List Int) : List Int := [2] ++ ns.take 4 ++ [13]
structure Plain (x : Str) (l : List Int) : Prop where
  paths : ∀ p ∈ pathsF x l, p.length ≤ 900
  okS : ∀ s ∈ statesF (x, []) l, s.1.length ≤ 10 ∧ s.2.length ≤ 90 ∧ weight (s.2.map (·.2)) ≤ 1000 ∧ PyData.strOk (dotF (textF s.1 s.2)) = true
  due : (pathsF x l).map normF = (statesF (x, []) l).map fun s => dotF (textF s.1 s.2)
  left : ∀ ps p ss s, pathsF x l = ps ++ [p] → statesF (x, []) l = ss ++ [s] → climbF 12 (normF p) [] = (textF s.1 (s.2.filter fun e => decide (e.1 < 0)), ((s.2.filter fun e => decide (e.1 ≥ 0)).map (·.1)).reverse)
theorem strs_reads {h : Heap} {a : Addr} {cs : List (Str × Tok)} {n : Nat} (ha : h.get? a = some (W.listOf (strValues cs).toArray n)) : Reads h (.ref a) (.list ((cs.map (·.1)).map PyData.str)) [a] := by
  refine reads_list_at ha rfl rfl ?_
  have : ∀ cs : List (Str × Tok), ReadsAll h (strValues cs) ((cs.map (·.1)).map PyData.str) [] := fun cs => by
    induction cs with
    | nil => exact .nil
    | cons c r ih => exact .cons (as := []) (bs := []) (.str _ _) ih
  exact this cs
theorem strs_shaped {xs : List Str} (h : ∀ x ∈ xs, PyData.strOk x = true) : SeqAt.shaped (.list (xs.map PyData.str)) = true := by
  have h1 : PyData.canLayAll0 (xs.map PyData.str) = true := by
    induction xs with
    | nil => rfl
    | cons c r ih =>
      simp only [List.map_cons, PyData.canLayAll0, PyData.canLay0, h c (.head _), Bool.true_and]
      exact ih fun x hx => h x (.tail _ hx)
  have h2 : PyData.depthAll (xs.map PyData.str) = 0 := by
    clear h h1
    induction xs with
    | nil => rfl
    | cons c r ih => simp only [List.map_cons, PyData.depthAll, PyData.depth, ih]; rfl
  refine Bool.and_eq_true_iff.mpr ⟨?_, decide_eq_true ?_⟩
  · simp only [PyData.canLay0]; exact h1
  · simp only [PyData.depth]; omega
theorem strs_eqv : ∀ xs : List Str, PyData.eqvAll (xs.map PyData.str) (xs.map PyData.str) = true
  | [] => rfl
  | x :: r => by simp only [List.map_cons, PyData.eqvAll, PyData.eqv, strs_eqv r, beq_self_eq_true, Bool.and_self]
section
variable {prog : Program} {w : World} {A : Around} {E : Value → Shared → Prop} {s : Shared} {h₀ : Heap} {L : Addr} {m : Str → Option Value} {news : List (Addr × Obj)}
theorem strs_ne {a b : Addr} {cs ds : List (Str × Tok)} {n k : Nat} {Q : Value → Shared → Prop} (N : News h₀ L s.heap news) (ha : (a, W.listOf (strValues cs).toArray n) ∈ news) (hb : (b, W.listOf (strValues ds).toArray k) ∈ news) (e : cs.map (·.1) = ds.map (·.1)) (ok : ∀ x ∈ ds.map (·.1), PyData.strOk x = true) (hu : A.units + 64 < cLine)
    (h : Q (.bool false) s) : wpAny (model prog w) A (compareOp .NotEq (.ref a) (.ref b)) Q E s := by
  refine ne_dataH (strs_reads (N _ ha).1) (strs_reads (N _ hb).1) (strs_shaped (e ▸ ok)) (strs_shaped ok) hu ?_
  rw [e]
  simp only [PyData.eqv, strs_eqv]
  exact h
end
/-- two ways to one value of one name -/
noncomputable def JoinV (h₀ : Heap) (L : Addr) (m : Str → Option Value) (news : List (Addr × Obj)) (s : Shared) (x : Str) (k : Str) (f : Flow) (s' : Shared) : Prop :=
  f = .next ∧ ∃ h tk t, s' = { s with heap := h, toks := tk } ∧ Fr h₀ L h (fun y => if y = x then some (.str k t) else m y) ∧ News h₀ L h news
theorem joinV_set {h₀ : Heap} {L : Addr} {m : Str → Option Value} {news all : List (Addr × Obj)} {s : Shared} {x k k' : Str} {t : Tok} {h : Heap} {tk : Nat} (F : Fr h₀ L h (fun y => if y = x then some (.str k' t) else m y)) (N : News h₀ L h all) (hs : ∀ p ∈ news, p ∈ all) (e : k' = k) :
    JoinV h₀ L m news s x k .next { s with heap := h, toks := tk } := ⟨rfl, h, tk, t, rfl, e ▸ F, fun p hp => N p (hs p hp)⟩
theorem join_nextV {M : Model} {A : Around} {h₀ : Heap} {L : Addr} {m : Str → Option Value} {news : List (Addr × Obj)} {s : Shared} {T : Sem Flow} {Q : Flow → Shared → Prop} {E : Value → Shared → Prop} (x k : Str) (_F : Fr h₀ L s.heap m) (_N : News h₀ L s.heap news)
    (hw : wpAny M A T (JoinV h₀ L m news s x k) E s) (h : ∀ h' tk t, Fr h₀ L h' (fun y => if y = x then some (.str k t) else m y) → News h₀ L h' news → Q .next { s with heap := h', toks := tk }) : wpAny M A T Q E s :=
  wpAny_mono hw (fun f s' q => by obtain ⟨rfl, h', tk, t, rfl, F, N⟩ := q; exact h h' tk t F N) fun _ _ e => e
theorem start_0 {ns : List Int} (h : ((ns.length : Int)).fmod 2 = 0) : Str.ofString "//" = startF ns := by unfold startF; rw [if_pos h]
theorem start_1 {ns : List Int} (h : ((ns.length : Int)).fmod 2 = 1) : Str.ofString "" = startF ns := by unfold startF; rw [if_neg (by rw [h]; decide)]
theorem start_len (ns : List Int) : (startF ns).length ≤ 2 := by unfold startF; split <;> decide +kernel
theorem num_len (ns : List Int) : (numF ns).length ≤ 6 := by simp [numF]; omega
theorem paths_snoc (x : Str) (l : List Int) : ∃ ps p, pathsF x l = ps ++ [p] := by
  rcases snoc_cases (pathsF x l) with h | ⟨a, b, h⟩
  · cases l <;> cases h
  · exact ⟨a, b, h⟩
theorem states_snoc (x : Str × List (Int × Str)) (l : List Int) : ∃ ps p, statesF x l = ps ++ [p] := by
  rcases snoc_cases (statesF x l) with h | ⟨a, b, h⟩
  · cases l <;> cases h
  · exact ⟨a, b, h⟩
theorem news_two {h₀ h : Heap} {L : Addr} {tl r : List (Addr × Obj)} {p x : Addr × Obj} (hm : p ∈ tl) (N : News h₀ L h (tl ++ x :: r)) : News h₀ L h [p, x] := fun q hq => N q (by
  rcases List.mem_cons.mp hq with rfl | hq
  · exact List.mem_append_left _ hm
  · rw [List.mem_singleton.mp hq]; exact List.mem_append_right _ (.head _))
theorem news_st {h₀ h : Heap} {L : Addr} {tl : List (Addr × Obj)} {p q : Addr × Obj} (N : News h₀ L h (tl ++ [p, q])) : News h₀ L h (p :: tl) := fun x hx => N x (by
  rcases List.mem_cons.mp hx with rfl | hx
  · exact List.mem_append_right _ (.head _)
  · exact List.mem_append_left _ hx)
theorem news_tup {h₀ h : Heap} {L : Addr} {tl r : List (Addr × Obj)} {p q : Addr × Obj} (hp : p ∈ tl) (hq : q ∈ tl) (N : News h₀ L h (tl ++ r)) : News h₀ L h (p :: q :: r) := fun x hx => N x (by
  rcases List.mem_cons.mp hx with rfl | hx
  · exact List.mem_append_left _ hp
  · rcases List.mem_cons.mp hx with rfl | hx
    · exact List.mem_append_left _ hq
    · exact List.mem_append_right _ hx)
/-- the turns of a comprehension that makes a text of each item -/
noncomputable def JMap {α : Type} (led : List (Addr × Obj)) (xs : List α) (f : α → Str) (i : Nat) (ys : List Value) (n : List (Addr × Obj)) : Prop := n = led ∧ ∃ cs : List (Str × Tok), ys = strValues cs ∧ cs.map (·.1) = (xs.take i).map f
theorem jmap_add {α : Type} {led : List (Addr × Obj)} {xs : List α} {f : α → Str} {i : Nat} {cs : List (Str × Tok)} {e : α} {z : Str} {t : Tok} (h : xs[i]? = some e) (hc : cs.map (·.1) = (xs.take i).map f) (hz : z = f e) : JMap led xs f (i + 1) (strValues cs ++ [.str z t]) led := by
  subst hz
  refine ⟨rfl, cs ++ [(f e, t)], by simp [strValues], ?_⟩
  rw [List.take_add_one, h, List.map_append, List.map_append, hc]; rfl
theorem strs_at {cs : List (Str × Tok)} {i : Nat} {v : Value} (h : (strValues cs).toArray[i]? = some v) : ∃ x t, v = .str x t ∧ (cs.map (·.1))[i]? = some x := by
  simp only [List.getElem?_toArray, strValues, List.getElem?_map, Option.map_eq_some_iff] at h
  obtain ⟨⟨x, t⟩, h1, rfl⟩ := h
  exact ⟨x, t, rfl, by rw [List.getElem?_map, h1]; rfl⟩
theorem paths_len (x : Str) (l : List Int) : (pathsF x l).length = l.length + 1 := by
  induction l generalizing x with
  | nil => rfl
  | cons n r ih => simp only [pathsF, List.length_cons, ih]
theorem states_len (x : Str × List (Int × Str)) (l : List Int) : (statesF x l).length = l.length + 1 := by
  induction l generalizing x with
  | nil => rfl
  | cons n r ih => simp only [statesF, List.length_cons, ih]
theorem map_snoc {α β : Type} {f : α → β} {l : List α} {ps : List β} {p : β} (h : l.map f = ps ++ [p]) : ∃ l' a, l = l' ++ [a] ∧ f a = p ∧ l'.map f = ps := by
  rcases snoc_cases l with rfl | ⟨l', a, rfl⟩
  · simp at h
  · rw [List.map_append] at h
    have := List.append_inj' h rfl
    exact ⟨l', a, rfl, by simpa using this.2, this.1⟩
theorem StatesIn.snoc {P : Addr → Obj → Prop} : ∀ {vs : List Value} {es : List (Str × List (Int × Str))} {e : Str × List (Int × Str)}, StatesIn P vs (es ++ [e]) → ∃ vs' v, vs = vs' ++ [v] ∧ StatesIn P vs' es ∧ StateIn P v e
  | [v], [], _, ⟨x, _⟩ => ⟨[], v, rfl, trivial, x⟩
  | v :: vs, _ :: es, e, ⟨x, y⟩ => by
    obtain ⟨vs', u, rfl, h1, h2⟩ := StatesIn.snoc y
    exact ⟨v :: vs', u, rfl, ⟨x, h1⟩, h2⟩
  | [], [], _, x => x.elim
  | [], _ :: _, _, x => x.elim
  | _ :: _ :: _, [], _, ⟨_, y⟩ => y.elim
theorem intsAre_of : ∀ cs : List (Int × Tok), IntsAre (intVals cs) (cs.map (·.1))
  | [] => .nil
  | (n, t) :: r => .cons n t (intsAre_of r)
theorem weight_filter (p : Int × Str → Bool) : ∀ row : List (Int × Str), weight ((row.filter p).map (·.2)) ≤ weight (row.map (·.2))
  | [] => Nat.le_refl _
  | e :: r => by
    have ih := weight_filter p r
    rw [List.filter_cons]
    split
    · rw [List.map_cons, List.map_cons, weight_cons, weight_cons]; omega
    · rw [List.map_cons, weight_cons]; omega
/-- the turns of a comprehension that keeps some entries of a row -/
noncomputable def JKeep (led : List (Addr × Obj)) (P : Addr → Obj → Prop) (row : List (Int × Str)) (p : Int × Str → Bool) (i : Nat) (ys : List Value) (n : List (Addr × Obj)) : Prop := n = led ∧ EntsIn P ys ((row.take i).filter p)
theorem jkeep_y {led : List (Addr × Obj)} {P : Addr → Obj → Prop} {row : List (Int × Str)} {p : Int × Str → Bool} {i : Nat} {ys : List Value} {e : Int × Str} {v : Value} (h : row[i]? = some e) (hc : EntsIn P ys ((row.take i).filter p)) (hp : p e = true) (hv : EntIn P v e) : JKeep led P row p (i + 1) (ys ++ [v]) led := by
  refine ⟨rfl, ?_⟩
  rw [List.take_add_one, h, List.filter_append]
  simp only [Option.toList_some, List.filter_cons, hp, if_true, List.filter_nil]
  exact hc.app (.one hv)
theorem jkeep_n {led : List (Addr × Obj)} {P : Addr → Obj → Prop} {row : List (Int × Str)} {p : Int × Str → Bool} {i : Nat} {ys : List Value} {e : Int × Str} (h : row[i]? = some e) (hc : EntsIn P ys ((row.take i).filter p)) (hp : p e = false) : JKeep led P row p (i + 1) ys led := by
  refine ⟨rfl, ?_⟩
  rw [List.take_add_one, h, List.filter_append]
  simp only [Option.toList_some, List.filter_cons, hp, List.filter_nil, Bool.false_eq_true, if_false, List.append_nil]
  exact hc
noncomputable def JInts (led : List (Addr × Obj)) (row : List (Int × Str)) (p : Int × Str → Bool) (i : Nat) (ys : List Value) (n : List (Addr × Obj)) : Prop := n = led ∧ ∃ ks : List (Int × Tok), ys = intVals ks ∧ ks.map (·.1) = ((row.take i).filter p).map (·.1)
theorem jints_y {led : List (Addr × Obj)} {row : List (Int × Str)} {p : Int × Str → Bool} {i : Nat} {ks : List (Int × Tok)} {e : Int × Str} {t : Tok} (h : row[i]? = some e) (hc : ks.map (·.1) = ((row.take i).filter p).map (·.1)) (hp : p e = true) : JInts led row p (i + 1) (intVals ks ++ [.int e.1 t]) led := by
  refine ⟨rfl, ks ++ [(e.1, t)], by simp [intVals], ?_⟩
  rw [List.take_add_one, h, List.filter_append]
  simp only [Option.toList_some, List.filter_cons, hp, if_true, List.filter_nil, List.map_append, hc, List.map_cons, List.map_nil]
theorem jints_n {led : List (Addr × Obj)} {row : List (Int × Str)} {p : Int × Str → Bool} {i : Nat} {ks : List (Int × Tok)} {e : Int × Str} (h : row[i]? = some e) (hc : ks.map (·.1) = ((row.take i).filter p).map (·.1)) (hp : p e = false) : JInts led row p (i + 1) (intVals ks) led := by
  refine ⟨rfl, ks, rfl, ?_⟩
  rw [List.take_add_one, h, List.filter_append]
  simp only [Option.toList_some, List.filter_cons, hp, List.filter_nil, Bool.false_eq_true, if_false, List.append_nil, hc]
theorem news_tail {h₀ h : Heap} {L : Addr} {p : Addr × Obj} {r : List (Addr × Obj)} (N : News h₀ L h (p :: r)) : News h₀ L h r := fun q hq => N q (.tail _ hq)
theorem str_ne_same {prog : Program} {w : World} {A : Around} {E : Value → Shared → Prop} {s : Shared} {x : Str} {t u : Tok} {Q : Value → Shared → Prop} (h : Q (.bool false) s) : wpAny (model prog w) A (compareOp .NotEq (.str x t) (.str x u)) Q E s := ne_str (by rw [bne_self_eq_false]; exact h)

-- 38_law
section
local macro_rules | `(tactic| walk_at "exec Assign") => `(tactic| (k_here; (with_reducible show wpAny _ _ (exec (Stmt.Assign _ (Expr.Subscript (Expr.Tuple _ _ _) _ _) _) _) _ _ _); (fail_if_success (with_reducible show wpAny _ _ _ (JoinV _ _ _ _ _ _ _) _ _)); refine halt ?_))
local macro_rules | `(tactic| walk_at "exec Assign cons ListComp") => `(tactic| (refine halt ?_))
local macro_rules | `(tactic| walk_at "eval ListComp") => `(tactic| (refine halt ?_))
local macro_rules | `(tactic| walk_at "SrcLP") => `(tactic| (refine halt ?_))
local macro_rules | `(tactic| walk_at "subscriptTail Name UnaryOp ref int") => `(tactic| refine halt ?_)
local macro_rules | `(tactic| walk_at "subscriptTail") => `(tactic| (k_here; (with_reducible show wpAny _ _ (subscriptTail (PySem.Expr.Subscript _ _ _) (PySem.Expr.Constant _ _ _) (Value.ref _) (Value.int _ _)) _ _ _); k_dflt (refine' item_tupleT ?t ?a ?b ?c ?d ?_ ?e; (case t => exact led_tup (by k_asm) (by with_reducible assumption) (fun p hp => by walk_at "my memx")); (case a => decide); (case b => decide); (case c => rfl); (case d => rfl); (case e => with_unfolding_all rfl); k_whole)))
local macro_rules | `(tactic| walk_at "subscriptTail") => `(tactic| (k_here; (with_reducible show wpAny _ _ (subscriptTail (PySem.Expr.Name _ _) (PySem.Expr.Constant _ _ _) (Value.ref _) (Value.int _ _)) _ _ _); k_dflt (refine' item_tupleT ?t ?a ?b ?c ?d ?_ ?e; (case t => exact led_tup (by k_asm) (by with_reducible assumption) (fun p hp => by walk_at "my memx")); (case a => decide); (case b => decide); (case c => rfl); (case d => rfl); (case e => with_unfolding_all rfl); k_whole)))
local macro_rules | `(tactic| walk_at "compareOp NotEq str str") => `(tactic| (k_here; with_reducible refine str_ne_same ?_))
local macro_rules | `(tactic| walk_at "compareOp NotEq ref ref") => `(tactic| (refine halt ?_))
local macro_rules | `(tactic| walk_at "CompSrcT") => `(tactic| (refine halt ?_))
local macro_rules | `(tactic| walk_at "CompSrc") => `(tactic| (refine halt ?_))
theorem law_walk (hP : ∀ ns : List Int, Plain (startF ns) (numF ns)) : PySem.Challenge.rw_pd0061_01.Holds := by
  refine hd0 (by rfl) (by rfl) (by rfl) ?_
  k_fill
  intro w s₀ s₁ mg mb G Y fa o pm cd doc dV kV ho hd hcd hD hmg hg args vals as hpre hlay hrd hwl hlo
  have KX := kIn_of Y
  have X := (Ground.X G).1
  have V := (Ground.X G).2
  have GL := glob_more (Ground.glob G (by kernel_rfl) (by kernel_rfl)) V
  refine Ground.open G ?_
  intro T B D TE TW
  try (refine guard_noD D (by decide +kernel) ?_; clear D)
  obtain ⟨_, _, M⟩ := bmod_of_top T
  have TA := at_of_top T
  try (obtain ⟨_, _, he, B0⟩ := based_of_top T rfl hmg ho hd; have he' : cd = _ := he; subst he'; clear he)
  clear hmg
  wrow_args hpre hlay hrd hwl hlo
  all_goals (
    first | refine callC_kw (enter_call ?_) | refine enter_call ?_ | refine callC_kw (enter_callW ?_) | refine enter_callW ?_ | w_how
    w_top on
    try refine codeAny_mono ?_ (fun _ _ g => GoodW.toG g)
    have K0 := below_caller (Top.heap T)
    w_call any ho hd hcd hD T F
    clear hd TA
    k_drop
    skip)
  all_goals try k_fold
  (k_steps; repeat (any_goals (unfold Halt; (first | (k_dflt (refine' strs_last ?kN ?km ?_ ?hs; (case kN => k_asm); (case km => walk_at "my memx"); (case hs => with_unfolding_all rfl); k_whole)) | (k_dflt (refine' list_last ?k1 ?_ ?k2; (case k1 => exact led_list (by k_asm) (by walk_at "my memx")); (case k2 => with_unfolding_all rfl); k_whole)) | ((with_reducible show wpAny _ _ (call (Value.ref 143) _) _ _ _); k_dflt (refine' Pure.useF (norm_f _ _ _ _ _ _ ?hx) ?k1 ?k2 ?k3 ?k4 ?k5 ?kK ?kd ?ku ?_; (case hx => omega); (((case k1 => k_asm); (case k2 => k_asm); (case k3 => k_asm); (case k4 => k_asm); (case k5 => k_asm); (case kK => first | exact rfl | assumption); (case kd => ktr_room); (case ku => ktr_units); k_whole; intro p9 t9 h9 tk9 F9 N9; (try dsimp only); (try k_fold)))))) <;> ((try dsimp only); k_steps))))
  unfold Halt
  rename Fr _ _ _ _ => lF
  rename News _ _ _ _ => lN
  rename IntsAre _ ([2] ++ _ ++ [13]) => hJ
  obtain ⟨l, rfl, hl⟩ := intsAre_vals hJ
  rename IntsAre _ _ => hI9
  clear hI9
  rename List Int => ns
  have hll : l.length ≤ 6 := by rw [← List.length_map (f := fun p : Int × Tok => p.1), hl]; exact num_len ns
  have hpl := hP ns
  have hs2 := start_len ns
  refine join_nextV (Str.ofString "start") (startF ns) lF lN ?way ?rest
  case way =>
    (k_steps; repeat (any_goals (unfold Halt; (first | (k_dflt (refine' strs_last ?kN ?km ?_ ?hs; (case kN => k_asm); (case km => walk_at "my memx"); (case hs => with_unfolding_all rfl); k_whole)) | (k_dflt (refine' list_last ?k1 ?_ ?k2; (case k1 => exact led_list (by k_asm) (by walk_at "my memx")); (case k2 => with_unfolding_all rfl); k_whole)) | ((with_reducible show wpAny _ _ (call (Value.ref 143) _) _ _ _); k_dflt (refine' Pure.useF (norm_f _ _ _ _ _ _ ?hx) ?k1 ?k2 ?k3 ?k4 ?k5 ?kK ?kd ?ku ?_; (case hx => omega); (((case k1 => k_asm); (case k2 => k_asm); (case k3 => k_asm); (case k4 => k_asm); (case k5 => k_asm); (case kK => first | exact rfl | assumption); (case kd => ktr_room); (case ku => ktr_units); k_whole; intro p9 t9 h9 tk9 F9 N9; (try dsimp only); (try k_fold)))))) <;> ((try dsimp only); k_steps))))
    all_goals rename Fr _ _ _ _ => lF
    all_goals rename News _ _ _ _ => lN
    · exact joinV_set lF lN (by (((try simp only [List.cons_append, List.nil_append]); kcj_all))) (start_0 (by assumption))
    · exact joinV_set lF lN (by (((try simp only [List.cons_append, List.nil_append]); kcj_all))) (start_1 (by assumption))
  case rest =>
    clear lF lN
    intro h9 tk9 t9 F9 N9
    replace hl : l.map (·.1) = numF ns := hl
    (k_steps; repeat (any_goals (unfold Halt; (first | (k_dflt (refine' strs_last ?kN ?km ?_ ?hs; (case kN => k_asm); (case km => walk_at "my memx"); (case hs => with_unfolding_all rfl); k_whole)) | (k_dflt (refine' list_last ?k1 ?_ ?k2; (case k1 => exact led_list (by k_asm) (by walk_at "my memx")); (case k2 => with_unfolding_all rfl); k_whole)) | ((with_reducible show wpAny _ _ (call (Value.ref 143) _) _ _ _); k_dflt (refine' Pure.useF (norm_f _ _ _ _ _ _ ?hx) ?k1 ?k2 ?k3 ?k4 ?k5 ?kK ?kd ?ku ?_; (case hx => omega); (((case k1 => k_asm); (case k2 => k_asm); (case k3 => k_asm); (case k4 => k_asm); (case k5 => k_asm); (case kK => first | exact rfl | assumption); (case kd => ktr_room); (case ku => ktr_units); k_whole; intro p9 t9 h9 tk9 F9 N9; (try dsimp only); (try k_fold)))))) <;> ((try dsimp only); k_steps))))
    unfold Halt
    refine' Made.use (walk_c _ _ _ _ (startF ns) _ hs2 _ l 0 (by omega)) ?k1 ?k2 ?k3 ?k4 ?k5 ?kK ?kd ?ku ?kp ?_
    case kp => exact (N9 (_, _) (by k_mem)).1
    (((case k1 => k_asm); (case k2 => k_asm); (case k3 => k_asm); (case k4 => k_asm); (case k5 => k_asm); (case kK => first | exact rfl | assumption); (case kd => ktr_room); (case ku => ktr_units)))
    k_whole
    clear F9
    intro r8 tl8 h8 tk8 F8 N8 ne8 o8
    obtain ⟨bP, cP, kP, rfl, hm8, hcP⟩ := o8
    replace N8 := news_two hm8 N8
    clear N9 hm8 ne8
    rw [hl] at hcP
    repeat (rename @LT.lt Nat _ _ _ ∧ _ => hz9; clear hz9)
    (k_steps; repeat (any_goals (unfold Halt; (first | (k_dflt (refine' strs_last ?kN ?km ?_ ?hs; (case kN => k_asm); (case km => walk_at "my memx"); (case hs => with_unfolding_all rfl); k_whole)) | (k_dflt (refine' list_last ?k1 ?_ ?k2; (case k1 => exact led_list (by k_asm) (by walk_at "my memx")); (case k2 => with_unfolding_all rfl); k_whole)) | ((with_reducible show wpAny _ _ (call (Value.ref 143) _) _ _ _); k_dflt (refine' Pure.useF (norm_f _ _ _ _ _ _ ?hx) ?k1 ?k2 ?k3 ?k4 ?k5 ?kK ?kd ?ku ?_; (case hx => omega); (((case k1 => k_asm); (case k2 => k_asm); (case k3 => k_asm); (case k4 => k_asm); (case k5 => k_asm); (case kK => first | exact rfl | assumption); (case kd => ktr_room); (case ku => ktr_units); k_whole; intro p9 t9 h9 tk9 F9 N9; (try dsimp only); (try k_fold)))))) <;> ((try dsimp only); k_steps))))
    unfold Halt
    rename Fr _ _ _ _ => lF
    rename News _ _ _ _ => lN
    refine' Made.use (states_c _ _ _ _ (startF ns) _ _ l 0 (by omega)) ?k1 ?k2 ?k3 ?k4 ?k5 ?kK ?kd ?ku ?kp ?_
    case kp => exact (lN (_, _) (by k_mem)).1
    (((case k1 => k_asm); (case k2 => k_asm); (case k3 => k_asm); (case k4 => k_asm); (case k5 => k_asm); (case kK => first | exact rfl | assumption); (case kd => ktr_room); (case ku => ktr_units)))
    k_whole
    clear lF lN
    intro r7 tlS h7 tk7 F7 N7 ne7 o7
    obtain ⟨bS, vS, kS, rfl, hm7, hS⟩ := o7
    replace N7 := news_st N7
    clear ne7
    rw [hl] at hS
    have hlS := hS.len
    have hlS2 : vS.length ≤ 7 := by rw [hlS, states_len]; have := num_len ns; omega
    have hlP : cP.length ≤ 7 := by rw [← List.length_map (f := fun p : Str × Tok => p.1), hcP, paths_len]; have := num_len ns; omega
    (k_steps; repeat (any_goals (unfold Halt; (first | (k_dflt (refine' strs_last ?kN ?km ?_ ?hs; (case kN => k_asm); (case km => walk_at "my memx"); (case hs => with_unfolding_all rfl); k_whole)) | (k_dflt (refine' list_last ?k1 ?_ ?k2; (case k1 => exact led_list (by k_asm) (by walk_at "my memx")); (case k2 => with_unfolding_all rfl); k_whole)) | ((with_reducible show wpAny _ _ (call (Value.ref 143) _) _ _ _); k_dflt (refine' Pure.useF (norm_f _ _ _ _ _ _ ?hx) ?k1 ?k2 ?k3 ?k4 ?k5 ?kK ?kd ?ku ?_; (case hx => omega); (((case k1 => k_asm); (case k2 => k_asm); (case k3 => k_asm); (case k4 => k_asm); (case k5 => k_asm); (case kK => first | exact rfl | assumption); (case kd => ktr_room); (case ku => ktr_units); k_whole; intro p9 t9 h9 tk9 F9 N9; (try dsimp only); (try k_fold)))))) <;> ((try dsimp only); k_steps))))
    unfold Halt
    rename Fr _ _ _ _ => lF
    k_dflt (refine LCp.Assign_ListComp_P (F₀ := lF) (by rfl) (by with_unfolding_all rfl) (by with_unfolding_all rfl) (by decide) (by rfl) (by decide) (by rfl) (by rfl) (by decide) (by rfl) (by rfl) ?_)
    (k_steps; repeat (any_goals (unfold Halt; (first | (k_dflt (refine' strs_last ?kN ?km ?_ ?hs; (case kN => k_asm); (case km => walk_at "my memx"); (case hs => with_unfolding_all rfl); k_whole)) | (k_dflt (refine' list_last ?k1 ?_ ?k2; (case k1 => exact led_list (by k_asm) (by walk_at "my memx")); (case k2 => with_unfolding_all rfl); k_whole)) | ((with_reducible show wpAny _ _ (call (Value.ref 143) _) _ _ _); k_dflt (refine' Pure.useF (norm_f _ _ _ _ _ _ ?hx) ?k1 ?k2 ?k3 ?k4 ?k5 ?kK ?kd ?ku ?_; (case hx => omega); (((case k1 => k_asm); (case k2 => k_asm); (case k3 => k_asm); (case k4 => k_asm); (case k5 => k_asm); (case kK => first | exact rfl | assumption); (case kd => ktr_room); (case ku => ktr_units); k_whole; intro p9 t9 h9 tk9 F9 N9; (try dsimp only); (try k_fold)))))) <;> ((try dsimp only); k_steps))))
    unfold Halt
    rename News _ _ _ _ => lN
    k_dflt (refine LCp.SrcLP.ledger (its := vS.toArray) (by rfl) lF lN (by walk_at "my memx") (by rw [List.size_toArray, sizeLine_eq]; omega) ?_)
    intro g9
    refine compP_inv (JMap ((bP, W.listOf (strValues cP).toArray kP) :: tlS) (statesF (startF ns, []) (numF ns)) fun s => textF s.1 s.2) ?turn ?fin _ _ _ _ (Nat.zero_add _) ⟨rfl, [], rfl, rfl⟩
    case turn =>
      intro i v ys news hi hJ hv
      obtain ⟨rfl, cs, rfl, hc⟩ := hJ
      obtain ⟨⟨root, row⟩, he, b, tb, rv, rfl, hb, hR⟩ := hS.at (i := i) (v := v) (by simpa using hv)
      refine ⟨b, _, _, _, 0, rfl, .tail _ hb, rfl, rfl, ?_⟩
      intro I oI C oC D m₂ h tk E' hC hx9 hx8 F N off ne
      clear lF lN
      obtain ⟨hr10, hr90, hw9, hok⟩ := hpl.okS _ (List.mem_of_getElem? he)
      dsimp only at hr10 hr90 hw9 hok
      (k_steps; repeat (any_goals (unfold Halt; (first | (k_dflt (refine' strs_last ?kN ?km ?_ ?hs; (case kN => k_asm); (case km => walk_at "my memx"); (case hs => with_unfolding_all rfl); k_whole)) | (k_dflt (refine' list_last ?k1 ?_ ?k2; (case k1 => exact led_list (by k_asm) (by walk_at "my memx")); (case k2 => with_unfolding_all rfl); k_whole)) | ((with_reducible show wpAny _ _ (call (Value.ref 143) _) _ _ _); k_dflt (refine' Pure.useF (norm_f _ _ _ _ _ _ ?hx) ?k1 ?k2 ?k3 ?k4 ?k5 ?kK ?kd ?ku ?_; (case hx => omega); (((case k1 => k_asm); (case k2 => k_asm); (case k3 => k_asm); (case k4 => k_asm); (case k5 => k_asm); (case kK => first | exact rfl | assumption); (case kd => ktr_room); (case ku => ktr_units); k_whole; intro p9 t9 h9 tk9 F9 N9; (try dsimp only); (try k_fold)))))) <;> ((try dsimp only); k_steps))))
      unfold Halt
      refine' PureL.use (text_c _ _ _ _ tlS root tb hr10 rv row hR hw9) ?k1 ?k2 ?k3 ?k4 ?k5 ?kK ?kd ?ku ?hs ?_
      (((case k1 => k_asm); (case k2 => k_asm); (case k3 => k_asm); (case k4 => k_asm); (case k5 => k_asm); (case kK => first | exact rfl | assumption); (case kd => ktr_room); (case ku => ktr_units)))
      case hs => exact fun p hp => by walk_at "my memx"
      k_whole
      intro t7 h7 tk7 F7 N7
      exact comp_end F7 N7 _ (fun p hp => hp) off (.inr ⟨_, .tail _ hm7, rfl, _, rfl⟩) (jmap_add he hc rfl)
    case fin =>
      intro ys news hJ
      obtain ⟨rfl, cD, rfl, hcD⟩ := hJ
      intro D h9 tk9 F9 N9 off9
      clear lF lN
      replace hcD : cD.map (·.1) = (statesF (startF ns, []) (numF ns)).map fun s => textF s.1 s.2 := by rw [hcD, List.size_toArray, hlS, List.take_length]
      have hlD : cD.length ≤ 7 := by rw [← List.length_map (f := fun p : Str × Tok => p.1), hcD, List.length_map, ← hlS]; exact hlS2
      replace N9 : News _ _ h9 ((D, W.listOf (strValues cD).toArray (strValues cD).length) :: (bP, W.listOf (strValues cP).toArray kP) :: tlS) := N9
      (k_steps; repeat (any_goals (unfold Halt; (first | (k_dflt (refine' strs_last ?kN ?km ?_ ?hs; (case kN => k_asm); (case km => walk_at "my memx"); (case hs => with_unfolding_all rfl); k_whole)) | (k_dflt (refine' list_last ?k1 ?_ ?k2; (case k1 => exact led_list (by k_asm) (by walk_at "my memx")); (case k2 => with_unfolding_all rfl); k_whole)) | ((with_reducible show wpAny _ _ (call (Value.ref 143) _) _ _ _); k_dflt (refine' Pure.useF (norm_f _ _ _ _ _ _ ?hx) ?k1 ?k2 ?k3 ?k4 ?k5 ?kK ?kd ?ku ?_; (case hx => omega); (((case k1 => k_asm); (case k2 => k_asm); (case k3 => k_asm); (case k4 => k_asm); (case k5 => k_asm); (case kK => first | exact rfl | assumption); (case kd => ktr_room); (case ku => ktr_units); k_whole; intro p9 t9 h9 tk9 F9 N9; (try dsimp only); (try k_fold)))))) <;> ((try dsimp only); k_steps))))
      unfold Halt
      rename Fr _ _ _ _ => lF
      k_dflt (refine LCg.ListComp_U (F₀ := lF) (by with_unfolding_all rfl) (by decide) (by rfl) (by decide) (by rfl) ?_)
      (k_steps; repeat (any_goals (unfold Halt; (first | (k_dflt (refine' strs_last ?kN ?km ?_ ?hs; (case kN => k_asm); (case km => walk_at "my memx"); (case hs => with_unfolding_all rfl); k_whole)) | (k_dflt (refine' list_last ?k1 ?_ ?k2; (case k1 => exact led_list (by k_asm) (by walk_at "my memx")); (case k2 => with_unfolding_all rfl); k_whole)) | ((with_reducible show wpAny _ _ (call (Value.ref 143) _) _ _ _); k_dflt (refine' Pure.useF (norm_f _ _ _ _ _ _ ?hx) ?k1 ?k2 ?k3 ?k4 ?k5 ?kK ?kd ?ku ?_; (case hx => omega); (((case k1 => k_asm); (case k2 => k_asm); (case k3 => k_asm); (case k4 => k_asm); (case k5 => k_asm); (case kK => first | exact rfl | assumption); (case kd => ktr_room); (case ku => ktr_units); k_whole; intro p9 t9 h9 tk9 F9 N9; (try dsimp only); (try k_fold)))))) <;> ((try dsimp only); k_steps))))
      unfold Halt
      rename News _ _ _ _ => lN
      k_dflt (refine LCg.CompSrc.ledger (its := (strValues cP).toArray) (by rfl) lF lN (by walk_at "my memx") (by rw [List.size_toArray, sizeLine_eq, strValues, List.length_map]; omega) ?_)
      intro g9
      refine compU_inv (JMap ((D, W.listOf (strValues cD).toArray (strValues cD).length) :: (bP, W.listOf (strValues cP).toArray kP) :: tlS) (pathsF (startF ns) (numF ns)) normF) ?turn ?fin _ _ _ _ (Nat.zero_add _) ⟨rfl, [], rfl, rfl⟩
      case turn =>
        intro i v I oI C oC D2 m₂ ys news h tk E' hi hJ hv hC hx9 F N off ne
        obtain ⟨rfl, cs, rfl, hc⟩ := hJ
        obtain ⟨x, tx, rfl, hxi⟩ := strs_at hv
        rw [hcP] at hxi
        have hxl := hpl.paths _ (List.mem_of_getElem? hxi)
        clear lF lN
        (k_steps; repeat (any_goals (unfold Halt; (first | (k_dflt (refine' strs_last ?kN ?km ?_ ?hs; (case kN => k_asm); (case km => walk_at "my memx"); (case hs => with_unfolding_all rfl); k_whole)) | (k_dflt (refine' list_last ?k1 ?_ ?k2; (case k1 => exact led_list (by k_asm) (by walk_at "my memx")); (case k2 => with_unfolding_all rfl); k_whole)) | ((with_reducible show wpAny _ _ (call (Value.ref 143) _) _ _ _); k_dflt (refine' Pure.useF (norm_f _ _ _ _ _ _ ?hx) ?k1 ?k2 ?k3 ?k4 ?k5 ?kK ?kd ?ku ?_; (case hx => omega); (((case k1 => k_asm); (case k2 => k_asm); (case k3 => k_asm); (case k4 => k_asm); (case k5 => k_asm); (case kK => first | exact rfl | assumption); (case kd => ktr_room); (case ku => ktr_units); k_whole; intro p9 t9 h9 tk9 F9 N9; (try dsimp only); (try k_fold)))))) <;> ((try dsimp only); k_steps))))
        rename Fr _ _ _ _ => lF
        rename News _ _ _ _ => lN
        exact comp_end lF lN _ (fun p hp => hp) off (.inr ⟨_, .tail _ (.head _), rfl, _, rfl⟩) (jmap_add hxi hc rfl)
      case fin =>
        intro ys news hJ
        obtain ⟨rfl, cN, rfl, hcN⟩ := hJ
        intro D2 h8 tk8 F8 N8 off8
        clear lF lN
        replace hcN : cN.map (·.1) = (pathsF (startF ns) (numF ns)).map normF := by rw [hcN, List.size_toArray, ← hcP, strValues, List.length_map, ← List.length_map (f := fun p : Str × Tok => p.1), List.take_length]
        replace N8 : News _ _ h8 ((D2, W.listOf (strValues cN).toArray (strValues cN).length) :: (D, W.listOf (strValues cD).toArray (strValues cD).length) :: (bP, W.listOf (strValues cP).toArray kP) :: tlS) := N8
        k_dflt (refine LCg.ListComp_U (F₀ := F8) (by with_unfolding_all rfl) (by decide) (by rfl) (by decide) (by rfl) ?_)
        (k_steps; repeat (any_goals (unfold Halt; (first | (k_dflt (refine' strs_last ?kN ?km ?_ ?hs; (case kN => k_asm); (case km => walk_at "my memx"); (case hs => with_unfolding_all rfl); k_whole)) | (k_dflt (refine' list_last ?k1 ?_ ?k2; (case k1 => exact led_list (by k_asm) (by walk_at "my memx")); (case k2 => with_unfolding_all rfl); k_whole)) | ((with_reducible show wpAny _ _ (call (Value.ref 143) _) _ _ _); k_dflt (refine' Pure.useF (norm_f _ _ _ _ _ _ ?hx) ?k1 ?k2 ?k3 ?k4 ?k5 ?kK ?kd ?ku ?_; (case hx => omega); (((case k1 => k_asm); (case k2 => k_asm); (case k3 => k_asm); (case k4 => k_asm); (case k5 => k_asm); (case kK => first | exact rfl | assumption); (case kd => ktr_room); (case ku => ktr_units); k_whole; intro p9 t9 h9 tk9 F9 N9; (try dsimp only); (try k_fold)))))) <;> ((try dsimp only); k_steps))))
        unfold Halt
        rename Fr _ _ _ _ => lF
        rename News _ _ _ _ => lN
        k_dflt (refine LCg.CompSrc.ledger (its := (strValues cD).toArray) (by rfl) lF lN (by walk_at "my memx") (by rw [List.size_toArray, sizeLine_eq, strValues, List.length_map]; omega) ?_)
        intro g9
        refine compU_inv (JMap ((D2, W.listOf (strValues cN).toArray (strValues cN).length) :: (D, W.listOf (strValues cD).toArray (strValues cD).length) :: (bP, W.listOf (strValues cP).toArray kP) :: tlS) (cD.map (·.1)) dotF) ?turn ?fin _ _ _ _ (Nat.zero_add _) ⟨rfl, [], rfl, rfl⟩
        case turn =>
          intro i v I oI C oC D3 m₂ ys news h tk E' hi hJ hv hC hx9 F N off ne
          obtain ⟨rfl, cs, rfl, hc⟩ := hJ
          obtain ⟨x, tx, rfl, hxi⟩ := strs_at hv
          clear lF lN
          (k_steps; repeat (any_goals (unfold Halt; (first | (k_dflt (refine' strs_last ?kN ?km ?_ ?hs; (case kN => k_asm); (case km => walk_at "my memx"); (case hs => with_unfolding_all rfl); k_whole)) | (k_dflt (refine' list_last ?k1 ?_ ?k2; (case k1 => exact led_list (by k_asm) (by walk_at "my memx")); (case k2 => with_unfolding_all rfl); k_whole)) | ((with_reducible show wpAny _ _ (call (Value.ref 143) _) _ _ _); k_dflt (refine' Pure.useF (norm_f _ _ _ _ _ _ ?hx) ?k1 ?k2 ?k3 ?k4 ?k5 ?kK ?kd ?ku ?_; (case hx => omega); (((case k1 => k_asm); (case k2 => k_asm); (case k3 => k_asm); (case k4 => k_asm); (case k5 => k_asm); (case kK => first | exact rfl | assumption); (case kd => ktr_room); (case ku => ktr_units); k_whole; intro p9 t9 h9 tk9 F9 N9; (try dsimp only); (try k_fold)))))) <;> ((try dsimp only); k_steps))))
          all_goals rename Fr _ _ _ _ => lF
          all_goals rename News _ _ _ _ => lN
          · exact comp_end lF lN _ (fun p hp => hp) off (.inr ⟨_, .tail _ (.head _), rfl, _, rfl⟩) (jmap_add hxi hc (dot_y (by assumption)))
          · exact comp_end lF lN _ (fun p hp => hp) off (.inr ⟨_, .tail _ (.head _), rfl, _, rfl⟩) (jmap_add hxi hc (dot_n (by assumption)))
        case fin =>
          intro ys news hJ
          obtain ⟨rfl, cT, rfl, hcT⟩ := hJ
          intro D3 h7 tk7 F7 N7 off7
          clear lF lN
          replace hcT : cT.map (·.1) = (statesF (startF ns, []) (numF ns)).map fun s => dotF (textF s.1 s.2) := by
            rw [hcT, List.size_toArray, strValues, List.length_map, ← List.length_map (f := fun p : Str × Tok => p.1), List.take_length, hcD, List.map_map]; rfl
          replace N7 : News _ _ h7 ((D3, W.listOf (strValues cT).toArray (strValues cT).length) :: (D2, W.listOf (strValues cN).toArray (strValues cN).length) :: (D, W.listOf (strValues cD).toArray (strValues cD).length) :: (bP, W.listOf (strValues cP).toArray kP) :: tlS) := N7
          refine strs_ne N7 (.tail _ (.head _)) (.head _) (by rw [hcN, hcT]; exact hpl.due) (by rw [hcT]; intro x hx; obtain ⟨s, hs, rfl⟩ := List.mem_map.mp hx; exact (hpl.okS s hs).2.2.2) (by first | ktr_units | k_units | decide) ?_
          replace N7 := news_tail (news_tail (news_tail N7))
          obtain ⟨ps, p, hps⟩ := paths_snoc (startF ns) (numF ns)
          obtain ⟨ss, ⟨root, row⟩, hss⟩ := states_snoc (startF ns, []) (numF ns)
          have hleft := hpl.left _ _ _ _ hps hss
          obtain ⟨hr10, hr90, hw9, hok⟩ := hpl.okS (root, row) (by rw [hss]; simp)
          have hp9 := hpl.paths p (by rw [hps]; simp)
          dsimp only at hr10 hr90 hw9 hok hleft
          rw [hps] at hcP
          obtain ⟨cP', ⟨p', tp⟩, rfl, rfl, -⟩ := map_snoc hcP
          rw [hss] at hS
          obtain ⟨vS', v, rfl, hS', b, tb, rv, rfl, hb, hR⟩ := hS.snoc
          obtain ⟨a9, vs9, n9, rfl, hL9, hE9⟩ := hR
          dsimp only at hb hE9 hleft hp9
          clear hS hcP hps hss hcD hcN hcT hpl hP
          (k_steps; repeat (any_goals (unfold Halt; (first | (k_dflt (refine' strs_last ?kN ?km ?_ ?hs; (case kN => k_asm); (case km => walk_at "my memx"); (case hs => with_unfolding_all rfl); k_whole)) | (k_dflt (refine' list_last ?k1 ?_ ?k2; (case k1 => exact led_list (by k_asm) (by walk_at "my memx")); (case k2 => with_unfolding_all rfl); k_whole)) | ((with_reducible show wpAny _ _ (call (Value.ref 143) _) _ _ _); k_dflt (refine' Pure.useF (norm_f _ _ _ _ _ _ ?hx) ?k1 ?k2 ?k3 ?k4 ?k5 ?kK ?kd ?ku ?_; (case hx => omega); (((case k1 => k_asm); (case k2 => k_asm); (case k3 => k_asm); (case k4 => k_asm); (case k5 => k_asm); (case kK => first | exact rfl | assumption); (case kd => ktr_room); (case ku => ktr_units); k_whole; intro p9 t9 h9 tk9 F9 N9; (try dsimp only); (try k_fold)))))) <;> ((try dsimp only); k_steps))))
          unfold Halt
          rename Fr _ _ _ _ => lF
          rename News _ _ _ _ => lN
          refine' Made.use (climbed_c _ _ _ _ (normF p') _ (by omega)) ?k1 ?k2 ?k3 ?k4 ?k5 ?kK ?kd ?ku trivial ?_
          (((case k1 => k_asm); (case k2 => k_asm); (case k3 => k_asm); (case k4 => k_asm); (case k5 => k_asm); (case kK => first | exact rfl | assumption); (case kd => ktr_room); (case ku => ktr_units)))
          k_whole
          clear lF lN
          intro r4 tl4 h4 tk4 F4 N4 ne4 o4
          rw [hleft] at o4
          dsimp only at o4
          obtain ⟨D4, M4, t4, ks4, k4, rfl, hm1, hm2, hk4⟩ := o4
          replace N4 := news_tup hm1 hm2 N4
          clear ne4 hm1 hm2 hleft
          (k_steps; repeat (any_goals (unfold Halt; (first | (k_dflt (refine' strs_last ?kN ?km ?_ ?hs; (case kN => k_asm); (case km => walk_at "my memx"); (case hs => with_unfolding_all rfl); k_whole)) | (k_dflt (refine' list_last ?k1 ?_ ?k2; (case k1 => exact led_list (by k_asm) (by walk_at "my memx")); (case k2 => with_unfolding_all rfl); k_whole)) | ((with_reducible show wpAny _ _ (call (Value.ref 143) _) _ _ _); k_dflt (refine' Pure.useF (norm_f _ _ _ _ _ _ ?hx) ?k1 ?k2 ?k3 ?k4 ?k5 ?kK ?kd ?ku ?_; (case hx => omega); (((case k1 => k_asm); (case k2 => k_asm); (case k3 => k_asm); (case k4 => k_asm); (case k5 => k_asm); (case kK => first | exact rfl | assumption); (case kd => ktr_room); (case ku => ktr_units); k_whole; intro p9 t9 h9 tk9 F9 N9; (try dsimp only); (try k_fold)))))) <;> ((try dsimp only); k_steps))))
          unfold Halt
          rename Fr _ _ _ _ => lF
          k_dflt (refine LCt.ListComp_T (F₀ := lF) (by with_unfolding_all rfl) (by decide) (by rfl) (by decide) (by rfl) ?_)
          (k_steps; repeat (any_goals (unfold Halt; (first | (k_dflt (refine' strs_last ?kN ?km ?_ ?hs; (case kN => k_asm); (case km => walk_at "my memx"); (case hs => with_unfolding_all rfl); k_whole)) | (k_dflt (refine' list_last ?k1 ?_ ?k2; (case k1 => exact led_list (by k_asm) (by walk_at "my memx")); (case k2 => with_unfolding_all rfl); k_whole)) | ((with_reducible show wpAny _ _ (call (Value.ref 143) _) _ _ _); k_dflt (refine' Pure.useF (norm_f _ _ _ _ _ _ ?hx) ?k1 ?k2 ?k3 ?k4 ?k5 ?kK ?kd ?ku ?_; (case hx => omega); (((case k1 => k_asm); (case k2 => k_asm); (case k3 => k_asm); (case k4 => k_asm); (case k5 => k_asm); (case kK => first | exact rfl | assumption); (case kd => ktr_room); (case ku => ktr_units); k_whole; intro p9 t9 h9 tk9 F9 N9; (try dsimp only); (try k_fold)))))) <;> ((try dsimp only); k_steps))))
          unfold Halt
          rename News _ _ _ _ => lN
          have hlE := hE9.len
          k_dflt (refine LCt.CompSrcT.ledger (its := vs9.toArray) (by rfl) lF lN (by walk_at "my memx") (by rw [List.size_toArray, sizeLine_eq]; omega) ?_)
          intro g9
          refine compT_inv (JKeep _ (fun a o => (a, o) ∈ tlS) row fun e => decide (e.1 < 0)) ?turn ?fin _ _ _ _ (Nat.zero_add _) ⟨rfl, trivial⟩
          case turn =>
            intro i v I oI C oC D5 m₂ ys news h tk E' hi hJ hv hC hx9 F N off ne
            obtain ⟨rfl, hc⟩ := hJ
            obtain ⟨e, he, hvE⟩ := hE9.at (i := i) (v := v) (by simpa using hv)
            have hvE2 := hvE
            obtain ⟨b5, t5, u5, rfl, hb5, ho5⟩ := hvE
            clear lF lN
            (k_steps; repeat (any_goals (unfold Halt; (first | (k_dflt (refine' strs_last ?kN ?km ?_ ?hs; (case kN => k_asm); (case km => walk_at "my memx"); (case hs => with_unfolding_all rfl); k_whole)) | (k_dflt (refine' list_last ?k1 ?_ ?k2; (case k1 => exact led_list (by k_asm) (by walk_at "my memx")); (case k2 => with_unfolding_all rfl); k_whole)) | ((with_reducible show wpAny _ _ (call (Value.ref 143) _) _ _ _); k_dflt (refine' Pure.useF (norm_f _ _ _ _ _ _ ?hx) ?k1 ?k2 ?k3 ?k4 ?k5 ?kK ?kd ?ku ?_; (case hx => omega); (((case k1 => k_asm); (case k2 => k_asm); (case k3 => k_asm); (case k4 => k_asm); (case k5 => k_asm); (case kK => first | exact rfl | assumption); (case kd => ktr_room); (case ku => ktr_units); k_whole; intro p9 t9 h9 tk9 F9 N9; (try dsimp only); (try k_fold)))))) <;> ((try dsimp only); k_steps))))
            all_goals rename Fr _ _ _ _ => lF
            all_goals rename News _ _ _ _ => lN
            · exact comp_end lF lN _ (fun p hp => hp) off (.inr ⟨_, by walk_at "my memx", rfl, _, rfl⟩) (jkeep_y he hc (decide_eq_true (by assumption)) hvE2)
            · exact comp_end lF lN _ (fun p hp => hp) off (.inr ⟨_, by walk_at "my memx", rfl, _, rfl⟩) (jkeep_n he hc (decide_eq_false (by assumption)))
          case fin =>
            intro ys news hJ
            obtain ⟨rfl, hc⟩ := hJ
            intro D5 h6 tk6 F6 N6 off6
            clear lF lN
            (k_steps; repeat (any_goals (unfold Halt; (first | (k_dflt (refine' strs_last ?kN ?km ?_ ?hs; (case kN => k_asm); (case km => walk_at "my memx"); (case hs => with_unfolding_all rfl); k_whole)) | (k_dflt (refine' list_last ?k1 ?_ ?k2; (case k1 => exact led_list (by k_asm) (by walk_at "my memx")); (case k2 => with_unfolding_all rfl); k_whole)) | ((with_reducible show wpAny _ _ (call (Value.ref 143) _) _ _ _); k_dflt (refine' Pure.useF (norm_f _ _ _ _ _ _ ?hx) ?k1 ?k2 ?k3 ?k4 ?k5 ?kK ?kd ?ku ?_; (case hx => omega); (((case k1 => k_asm); (case k2 => k_asm); (case k3 => k_asm); (case k4 => k_asm); (case k5 => k_asm); (case kK => first | exact rfl | assumption); (case kd => ktr_room); (case ku => ktr_units); k_whole; intro p9 t9 h9 tk9 F9 N9; (try dsimp only); (try k_fold)))))) <;> ((try dsimp only); k_steps))))
            unfold Halt
            rw [List.size_toArray, hlE, List.take_length] at hc
            have hwf := weight_filter (fun e => decide (e.1 < 0)) row
            refine' PureL.use (text_c _ _ _ _ ((D5, W.listOf ys.toArray ys.length) :: tlS) root _ hr10 (.ref D5) (row.filter fun e => decide (e.1 < 0)) ⟨D5, ys, ys.length, rfl, .head _, hc.mono fun _ _ x => .tail _ x⟩ (Nat.le_trans hwf hw9)) ?k1 ?k2 ?k3 ?k4 ?k5 ?kK ?kd ?ku ?hs ?_
            (((case k1 => k_asm); (case k2 => k_asm); (case k3 => k_asm); (case k4 => k_asm); (case k5 => k_asm); (case kK => first | exact rfl | assumption); (case kd => ktr_room); (case ku => ktr_units)))
            case hs => exact fun p hp => (List.mem_cons.mp hp).elim (fun e => e ▸ .head _) fun hp => by walk_at "my memx"
            k_whole
            intro t3 h3 tk3 F3 N3
            have hI4 := intsAre_of ks4
            rw [hk4] at hI4
            have hl4 : ((row.filter fun e => decide (e.1 ≥ 0)).map (·.1)).reverse.length ≤ 90 := by
              rw [List.length_reverse, List.length_map]
              exact Nat.le_trans (List.length_filter_le _ _) hr90
            have hks4 : ks4.length ≤ 90 := by rw [← List.length_map (f := fun p : Int × Tok => p.1), hk4]; exact hl4
            clear hc hwf
            (k_steps; repeat (any_goals (unfold Halt; (first | (k_dflt (refine' strs_last ?kN ?km ?_ ?hs; (case kN => k_asm); (case km => walk_at "my memx"); (case hs => with_unfolding_all rfl); k_whole)) | (k_dflt (refine' list_last ?k1 ?_ ?k2; (case k1 => exact led_list (by k_asm) (by walk_at "my memx")); (case k2 => with_unfolding_all rfl); k_whole)) | ((with_reducible show wpAny _ _ (call (Value.ref 143) _) _ _ _); k_dflt (refine' Pure.useF (norm_f _ _ _ _ _ _ ?hx) ?k1 ?k2 ?k3 ?k4 ?k5 ?kK ?kd ?ku ?_; (case hx => omega); (((case k1 => k_asm); (case k2 => k_asm); (case k3 => k_asm); (case k4 => k_asm); (case k5 => k_asm); (case kK => first | exact rfl | assumption); (case kd => ktr_room); (case ku => ktr_units); k_whole; intro p9 t9 h9 tk9 F9 N9; (try dsimp only); (try k_fold)))))) <;> ((try dsimp only); k_steps))))
            unfold Halt
            rename Fr _ _ _ _ => lF
            rename IntsAre _ (List.reverse _) => hI5
            rw [List.reverse_reverse] at hI5
            k_dflt (refine LCt.ListComp_T (F₀ := lF) (by with_unfolding_all rfl) (by decide) (by rfl) (by decide) (by rfl) ?_)
            (k_steps; repeat (any_goals (unfold Halt; (first | (k_dflt (refine' strs_last ?kN ?km ?_ ?hs; (case kN => k_asm); (case km => walk_at "my memx"); (case hs => with_unfolding_all rfl); k_whole)) | (k_dflt (refine' list_last ?k1 ?_ ?k2; (case k1 => exact led_list (by k_asm) (by walk_at "my memx")); (case k2 => with_unfolding_all rfl); k_whole)) | ((with_reducible show wpAny _ _ (call (Value.ref 143) _) _ _ _); k_dflt (refine' Pure.useF (norm_f _ _ _ _ _ _ ?hx) ?k1 ?k2 ?k3 ?k4 ?k5 ?kK ?kd ?ku ?_; (case hx => omega); (((case k1 => k_asm); (case k2 => k_asm); (case k3 => k_asm); (case k4 => k_asm); (case k5 => k_asm); (case kK => first | exact rfl | assumption); (case kd => ktr_room); (case ku => ktr_units); k_whole; intro p9 t9 h9 tk9 F9 N9; (try dsimp only); (try k_fold)))))) <;> ((try dsimp only); k_steps))))
            unfold Halt
            rename News _ _ _ _ => lN
            k_dflt (refine LCt.CompSrcT.ledger (its := vs9.toArray) (by rfl) lF lN (by walk_at "my memx") (by rw [List.size_toArray, sizeLine_eq]; omega) ?_)
            intro g9
            refine compT_inv (JInts _ row fun e => decide (e.1 ≥ 0)) ?turn ?fin _ _ _ _ (Nat.zero_add _) ⟨rfl, [], rfl, rfl⟩
            case turn =>
              intro i v I oI C oC D6 m₂ ys news h tk E' hi hJ hv hC hx9 F N off ne
              obtain ⟨rfl, ks, rfl, hc⟩ := hJ
              obtain ⟨e, he, hvE⟩ := hE9.at (i := i) (v := v) (by simpa using hv)
              obtain ⟨b5, t5, u5, rfl, hb5, ho5⟩ := hvE
              clear lF lN
              (k_steps; repeat (any_goals (unfold Halt; (first | (k_dflt (refine' strs_last ?kN ?km ?_ ?hs; (case kN => k_asm); (case km => walk_at "my memx"); (case hs => with_unfolding_all rfl); k_whole)) | (k_dflt (refine' list_last ?k1 ?_ ?k2; (case k1 => exact led_list (by k_asm) (by walk_at "my memx")); (case k2 => with_unfolding_all rfl); k_whole)) | ((with_reducible show wpAny _ _ (call (Value.ref 143) _) _ _ _); k_dflt (refine' Pure.useF (norm_f _ _ _ _ _ _ ?hx) ?k1 ?k2 ?k3 ?k4 ?k5 ?kK ?kd ?ku ?_; (case hx => omega); (((case k1 => k_asm); (case k2 => k_asm); (case k3 => k_asm); (case k4 => k_asm); (case k5 => k_asm); (case kK => first | exact rfl | assumption); (case kd => ktr_room); (case ku => ktr_units); k_whole; intro p9 t9 h9 tk9 F9 N9; (try dsimp only); (try k_fold)))))) <;> ((try dsimp only); k_steps))))
              all_goals rename Fr _ _ _ _ => lF
              all_goals rename News _ _ _ _ => lN
              · exact comp_end lF lN _ (fun p hp => hp) off (.inr ⟨_, by walk_at "my memx", rfl, _, rfl⟩) (jints_y he hc (decide_eq_true (by assumption)))
              · exact comp_end lF lN _ (fun p hp => hp) off (.inr ⟨_, by walk_at "my memx", rfl, _, rfl⟩) (jints_n he hc (decide_eq_false (by assumption)))
            case fin =>
              intro ys news hJ
              obtain ⟨rfl, ks, rfl, hc⟩ := hJ
              intro D6 h2 tk2 F2 N2 off2
              clear lF lN
              rw [List.size_toArray, hlE, List.take_length] at hc
              have hI6 := intsAre_of ks
              rw [hc] at hI6
              k_dflt (refine ke_ne_ints (led_list N2 (.tail _ (.head _))) (led_list N2 (.head _)) hI5 hI6 (by first | ktr_units | k_units | decide) ?_)
              rw [decide_eq_true rfl, Bool.not_true]
              (k_steps; repeat (any_goals (unfold Halt; (first | (k_dflt (refine' strs_last ?kN ?km ?_ ?hs; (case kN => k_asm); (case km => walk_at "my memx"); (case hs => with_unfolding_all rfl); k_whole)) | (k_dflt (refine' list_last ?k1 ?_ ?k2; (case k1 => exact led_list (by k_asm) (by walk_at "my memx")); (case k2 => with_unfolding_all rfl); k_whole)) | ((with_reducible show wpAny _ _ (call (Value.ref 143) _) _ _ _); k_dflt (refine' Pure.useF (norm_f _ _ _ _ _ _ ?hx) ?k1 ?k2 ?k3 ?k4 ?k5 ?kK ?kd ?ku ?_; (case hx => omega); (((case k1 => k_asm); (case k2 => k_asm); (case k3 => k_asm); (case k4 => k_asm); (case k5 => k_asm); (case kK => first | exact rfl | assumption); (case kd => ktr_room); (case ku => ktr_units); k_whole; intro p9 t9 h9 tk9 F9 N9; (try dsimp only); (try k_fold)))))) <;> ((try dsimp only); k_steps))))
              all_goals (try k_data)
end

-- 50_strl
-- texts as lists of code points
noncomputable def L (x : Str) : List Nat := x.cps.toList
noncomputable abbrev sl : Str := ⟨#[47]⟩
theorem sl_eq : Str.ofString "/" = sl := by decide +kernel
theorem L_ext {x y : Str} (h : L x = L y) : x = y := Str.ext' (Array.toList_inj.mp h)
theorem L_app (x y : Str) : L (x ++ y) = L x ++ L y := by
  show (x.cps ++ y.cps).toList = x.cps.toList ++ y.cps.toList
  rw [Array.toList_append]
theorem L_len (x : Str) : x.length = (L x).length := by show x.cps.size = x.cps.toList.length; simp
theorem L_mk (l : List Nat) : L ⟨l.toArray⟩ = l := by show l.toArray.toList = l; simp
theorem L_sl : L sl = [47] := rfl
theorem L_empty : L (Str.ofString "") = [] := by
  rw [show Str.ofString "" = ⟨#[]⟩ by decide +kernel]; rfl
theorem L_nil {x : Str} (h : L x = []) : x = Str.ofString "" := L_ext (h.trans L_empty.symm)
theorem idx_clip (a b n : Nat) : Builtin.Str.strSliceIndices (some (a : Int)) (some (b : Int)) 1 n = Builtin.Str.strSliceIndices (some ((min a n : Nat) : Int)) (some ((min b n : Nat) : Int)) 1 n := by
  have h1 : ¬ ((a : Int) < 0) := by omega
  have h2 : ¬ ((b : Int) < 0) := by omega
  have h3 : ¬ (((min a n : Nat) : Int) < 0) := by omega
  have h4 : ¬ (((min b n : Nat) : Int) < 0) := by omega
  have e1 : max (0 : Int) (min (a : Int) (n : Int)) = max (0 : Int) (min ((min a n : Nat) : Int) (n : Int)) := by omega
  have e2 : max (0 : Int) (min (b : Int) (n : Int)) = max (0 : Int) (min ((min b n : Nat) : Int) (n : Int)) := by omega
  simp only [Builtin.Str.strSliceIndices, h1, h2, h3, h4, if_false, show ((1 : Int) > 0) = True from by simp, if_true]
  rw [e1, e2]
theorem slice_nat (x : Str) {a b : Nat} (hab : a ≤ b) : L (Txt.slice x (some (a : Int)) (some (b : Int))) = ((L x).drop a).take (b - a) := by
  have e : Txt.slice x (some (a : Int)) (some (b : Int)) = StrLaws.sliceText x (some ((min a x.length : Nat) : Int)) (some ((min b x.length : Nat) : Int)) := by
    unfold Txt.slice StrLaws.sliceText
    rw [idx_clip]
  have hn := L_len x
  rw [e, StrLaws.sliceText_nat x (by omega) (by omega), L_mk]
  show ((L x).drop _).take _ = _
  by_cases hb : b ≤ x.length
  · rw [Nat.min_eq_left hb, Nat.min_eq_left (by omega)]
  · rw [Nat.min_eq_right (by omega)]
    by_cases ha : a ≤ x.length
    · rw [Nat.min_eq_left ha, List.take_of_length_le (by rw [List.length_drop]; omega), List.take_of_length_le (by rw [List.length_drop]; omega)]
    · rw [Nat.min_eq_right (by omega), List.drop_eq_nil_of_le (by omega), List.drop_eq_nil_of_le (by omega)]
      simp
theorem slice_to (x : Str) (b : Nat) : L (Txt.slice x none (some (b : Int))) = (L x).take b := by
  have e : Txt.slice x none (some (b : Int)) = Txt.slice x (some ((0 : Nat) : Int)) (some (b : Int)) := by unfold Txt.slice; rw [StrLaws.sliceIdx_none_lo]; rfl
  rw [e, slice_nat x (Nat.zero_le _), List.drop_zero, Nat.sub_zero]
theorem slice_from (x : Str) (a : Nat) : L (Txt.slice x (some (a : Int)) none) = (L x).drop a := by
  have e : Txt.slice x (some (a : Int)) none = Txt.slice x (some (a : Int)) (some (x.length : Int)) := by unfold Txt.slice; rw [StrLaws.sliceIdx_none_hi]
  rw [e]
  by_cases ha : a ≤ x.length
  · rw [slice_nat x ha, List.take_of_length_le (by rw [List.length_drop, ← L_len]; exact Nat.le_refl _)]
  · have e2 : Txt.slice x (some (a : Int)) (some (x.length : Int)) = Txt.slice x (some (x.length : Int)) (some (x.length : Int)) := by
      unfold Txt.slice
      rw [idx_clip, idx_clip x.length]
      rw [Nat.min_eq_right (show x.length ≤ a by omega), Nat.min_self]
    rw [e2, slice_nat x (Nat.le_refl _), Nat.sub_self, List.take_zero, List.drop_eq_nil_of_le (by rw [← L_len]; omega)]
/-- how many slashes the root has -/
noncomputable def rootN (l : List Nat) : Nat := if l.take 1 ≠ [47] then 0 else if (l.drop 1).take 1 ≠ [47] ∨ (l.drop 2).take 1 = [47] then 1 else 2
theorem ne_sl {x : Str} : (x != sl) = true ↔ L x ≠ [47] := by
  rw [bne_iff_ne]
  exact ⟨fun h e => h (L_ext e), fun h e => h (by rw [e]; rfl)⟩
theorem eq_sl {x : Str} : (x == sl) = true ↔ L x = [47] := by
  rw [beq_iff_eq]
  exact ⟨fun h => by rw [h]; rfl, fun h => L_ext h⟩
theorem root_rest (x : Str) : L (rootF x) = List.replicate (rootN (L x)) 47 ∧ L (restF x) = (L x).drop (rootN (L x)) ∧ L (rootF x) = (L x).take (rootN (L x)) := by
  have s1 : L (Txt.slice x none (some 1)) = (L x).take 1 := slice_to x 1
  have s2 : L (Txt.slice x (some 1) (some 2)) = ((L x).drop 1).take 1 := slice_nat x (a := 1) (b := 2) (by omega)
  have s3 : L (Txt.slice x (some 2) (some 3)) = ((L x).drop 2).take 1 := slice_nat x (a := 2) (b := 3) (by omega)
  have s4 : L (Txt.slice x none (some 2)) = (L x).take 2 := slice_to x 2
  have s5 : L (Txt.slice x (some 1) none) = (L x).drop 1 := slice_from x 1
  have s6 : L (Txt.slice x (some 2) none) = (L x).drop 2 := slice_from x 2
  unfold rootF restF
  rw [sl_eq]
  simp only [ne_sl, eq_sl, s1, s2, s3]
  unfold rootN
  by_cases h1 : (L x).take 1 ≠ [47]
  · simp only [if_pos h1, L_empty, List.replicate_zero, List.drop_zero, List.take_zero, and_self]
  · simp only [if_neg h1]
    have h1' : (L x).take 1 = [47] := Decidable.not_not.mp h1
    by_cases h2 : ((L x).drop 1).take 1 ≠ [47] ∨ ((L x).drop 2).take 1 = [47]
    · simp only [if_pos h2, L_sl, s5, h1']
      simp
    · simp only [if_neg h2, s4, s6]
      have h2' : ((L x).drop 1).take 1 = [47] := Decidable.not_not.mp fun q => h2 (.inl q)
      have e : (L x).take 2 = [47, 47] := by
        rcases hl : L x with _ | ⟨a, _ | ⟨b, r⟩⟩ <;> rw [hl] at h1' h2' <;> simp_all
      rw [e]; simp
theorem rootN_le (l : List Nat) : rootN l ≤ l.length := by
  unfold rootN
  split
  · exact Nat.zero_le _
  · rename_i h1
    have h1' := Decidable.not_not.mp h1
    rcases l with _ | ⟨a, _ | ⟨b, r⟩⟩
    · simp at h1'
    · simp
    · simp only [List.length_cons]; split <;> omega
theorem rootN_app {l m : List Nat} (hl : l ≠ []) (h : l.drop (rootN l) ≠ [] ∨ m.take 1 ≠ [47]) : rootN (l ++ m) = rootN l := by
  rcases l with _ | ⟨a, _ | ⟨b, _ | ⟨c, r⟩⟩⟩
  · exact absurd rfl hl
  · by_cases ha : a = 47
    · subst ha
      rcases h with h | h
      · simp [rootN] at h
      · simp [rootN, h]
    · simp [rootN, ha]
  · by_cases ha : a = 47
    · subst ha
      by_cases hb : b = 47
      · subst hb
        rcases h with h | h
        · simp [rootN] at h
        · simp [rootN, h]
      · simp [rootN, hb]
    · simp [rootN, ha]
  · simp [rootN]
/-- joined by slashes -/
noncomputable def lj : List (List Nat) → List Nat
  | [] => []
  | [x] => x
  | x :: y :: r => x ++ 47 :: lj (y :: r)
theorem L_join : ∀ ts : List Str, L (Str.join sl ts) = lj (ts.map L)
  | [] => rfl
  | [x] => rfl
  | x :: y :: r => by
    have ih := L_join (y :: r)
    show L (x ++ sl ++ Str.join sl (y :: r)) = L x ++ 47 :: lj ((y :: r).map L)
    rw [L_app, L_app, ih, L_sl]
    simp
theorem lj_cons (x : List Nat) {r : List (List Nat)} (h : r ≠ []) : lj (x :: r) = x ++ 47 :: lj r := by
  cases r with
  | nil => exact absurd rfl h
  | cons y r => rfl
theorem lj_app : ∀ {a b : List (List Nat)}, a ≠ [] → b ≠ [] → lj (a ++ b) = lj a ++ 47 :: lj b
  | [], _, h, _ => absurd rfl h
  | [x], b, _, h => lj_cons x h
  | x :: y :: r, b, _, h => by
    show x ++ 47 :: lj ((y :: r) ++ b) = (x ++ 47 :: lj (y :: r)) ++ 47 :: lj b
    rw [lj_app (by simp) h]; simp
theorem free_inj : ∀ {x y u v : List Nat}, 47 ∉ x → 47 ∉ y → x ++ 47 :: u = y ++ 47 :: v → x = y ∧ u = v
  | [], [], _, _, _, _, h => ⟨rfl, (List.cons.inj h).2⟩
  | [], b :: y, _, _, _, hy, h => absurd (List.cons.inj h).1 fun e => hy (by rw [← e]; exact .head _)
  | a :: x, [], _, _, hx, _, h => absurd (List.cons.inj h).1 fun e => hx (by rw [e]; exact .head _)
  | a :: x, b :: y, u, v, hx, hy, h => by
    obtain ⟨h1, h2⟩ := List.cons.inj h
    obtain ⟨h3, h4⟩ := free_inj (fun q => hx (.tail _ q)) (fun q => hy (.tail _ q)) h2
    exact ⟨by rw [h1, h3], h4⟩
theorem lj_free {x : List Nat} {r : List (List Nat)} (h : r ≠ []) : 47 ∈ lj (x :: r) := by rw [lj_cons x h]; simp
theorem lj_inj : ∀ {a b : List (List Nat)}, a ≠ [] → b ≠ [] → (∀ x ∈ a, 47 ∉ x) → (∀ x ∈ b, 47 ∉ x) → lj a = lj b → a = b
  | [], _, h, _, _, _, _ => absurd rfl h
  | _, [], _, h, _, _, _ => absurd rfl h
  | [x], [y], _, _, _, _, h => by rw [show x = y from h]
  | [x], y :: z :: r, _, _, hx, _, h => absurd (show 47 ∈ x by rw [show x = _ from h]; exact lj_free (by simp)) (hx x (.head _))
  | x :: z :: r, [y], _, _, _, hy, h => absurd (show 47 ∈ y by rw [show y = _ from h.symm]; exact lj_free (by simp)) (hy y (.head _))
  | x :: z :: r, y :: z' :: r', _, _, hx, hy, h => by
    obtain ⟨h1, h2⟩ := free_inj (hx x (.head _)) (hy y (.head _)) (show x ++ 47 :: lj (z :: r) = y ++ 47 :: lj (z' :: r') from h)
    rw [h1, lj_inj (by simp) (by simp) (fun u q => hx u (.tail _ q)) (fun u q => hy u (.tail _ q)) h2]
/-- the parts between slashes -/
noncomputable def sp (x : Str) : List Str := Txt.split x (Str.ofString "/")
theorem sp_free (x : Str) : ∀ p ∈ sp x, 47 ∉ L p := by unfold sp; rw [sl_eq]; exact StrLaws.split_free x 47
theorem sp_join (x : Str) : lj ((sp x).map L) = L x := by unfold sp; rw [sl_eq, ← L_join, StrLaws.join_split]
theorem sp_ne (x : Str) : sp x ≠ [] := by
  unfold sp Txt.split
  split
  · simp
  · split
    · simp
    · rw [StrLaws.partsBetween_eq]
      obtain ⟨p, r, e⟩ := StrLaws.partsFrom_ne x (Str.ofString "/").length 0 (Builtin.Str.occurrences x (Str.ofString "/") 0 x.length (x.length + 1))
      rw [e]; simp
theorem map_L_inj {a b : List Str} (h : a.map L = b.map L) : a = b := by
  induction a generalizing b with
  | nil => cases b with
    | nil => rfl
    | cons _ _ => simp at h
  | cons x r ih => cases b with
    | nil => simp at h
    | cons y r' =>
      simp only [List.map_cons, List.cons.injEq] at h
      rw [L_ext h.1, ih h.2]
theorem sp_of {x : Str} {ts : List Str} (hne : ts ≠ []) (hf : ∀ p ∈ ts, 47 ∉ L p) (h : L x = lj (ts.map L)) : sp x = ts := by
  refine map_L_inj (lj_inj (by simp [sp_ne]) (by simpa using hne) ?_ ?_ ((sp_join x).trans h))
  · intro u hu
    obtain ⟨p, hp, rfl⟩ := List.mem_map.mp hu
    exact sp_free x p hp
  · intro u hu
    obtain ⟨p, hp, rfl⟩ := List.mem_map.mp hu
    exact hf p hp
theorem sp_cat {x y z : Str} (h : L z = L x ++ 47 :: L y) : sp z = sp x ++ sp y := by
  refine sp_of (by simp [sp_ne]) (fun p hp => (List.mem_append.mp hp).elim (sp_free x p) (sp_free y p)) ?_
  rw [List.map_append, lj_app (by simp [sp_ne]) (by simp [sp_ne]), sp_join, sp_join, h]
theorem sp_one {x : Str} (h : 47 ∉ L x) : sp x = [x] := sp_of (by simp) (by simpa using h) rfl
theorem sp_nil {x : Str} (h : L x = []) : sp x = [Str.ofString ""] := by rw [L_nil h]; exact sp_one (by rw [L_empty]; simp)
theorem take1 {l : List Nat} {c : Nat} : l.take 1 = [c] ↔ ∃ r, l = c :: r := by
  cases l with
  | nil => simp
  | cons a r => simp
theorem starts_sl {x : Str} : Txt.startswith x (Str.ofString "/") = true ↔ (L x).take 1 = [47] := by
  rw [sl_eq]
  unfold Txt.startswith
  rw [StrLaws.subAt_eq, Bool.and_eq_true, decide_eq_true_eq]
  show 0 + 1 ≤ x.length ∧ (((L x).drop 0).take 1 == [47]) = true ↔ _
  rw [List.drop_zero, beq_iff_eq, L_len]
  constructor
  · exact fun h => h.2
  · intro h
    refine ⟨?_, h⟩
    obtain ⟨r, e⟩ := take1.mp h
    rw [e]; simp
theorem ends_sl {x : Str} : Txt.endswith x (Str.ofString "/") = true ↔ ∃ u, L x = u ++ [47] := by
  rw [sl_eq]
  unfold Txt.endswith
  rw [StrLaws.subAt_eq, Bool.and_eq_true, decide_eq_true_eq]
  show 0 + 1 ≤ x.length ∧ (((L x).drop (x.length - 1)).take 1 == [47]) = true ↔ _
  rw [beq_iff_eq, L_len]
  rcases snoc_cases (L x) with h | ⟨u, c, h⟩
  · rw [h]; simp
  · rw [h]
    simp
theorem len_zero {x : Str} : ((x.length : Int) = 0) ↔ L x = [] := by
  rw [L_len]
  constructor
  · intro h; exact List.eq_nil_of_length_eq_zero (by omega)
  · intro h; rw [h]; rfl
noncomputable def foldN (R : Str) (cs ts : List Str) : List Str := ts.foldl (stepN R) cs
theorem foldN_app (R : Str) (cs a b : List Str) : foldN R cs (a ++ b) = foldN R (foldN R cs a) b := List.foldl_append ..
theorem stepN_nil (R : Str) (cs : List Str) : stepN R cs (Str.ofString "") = cs := step_skip (len_zero.mpr L_empty)
theorem foldN_e (R : Str) (cs : List Str) : foldN R cs [Str.ofString ""] = cs := stepN_nil R cs
theorem parts_eq (x : Str) : partsF x = foldN (rootF x) [] (sp (restF x)) := rfl
theorem root_of {x y : Str} (h : rootN (L x) = rootN (L y)) : rootF x = rootF y := L_ext (by rw [(root_rest x).1, (root_rest y).1, h])
theorem snoc_drop {u : List Nat} {n : Nat} (h : (u ++ [47]).drop n ≠ []) : (u ++ [47]).drop n = u.drop n ++ [47] := by
  by_cases hn : n ≤ u.length
  · rw [List.drop_append_of_le_length hn]
  · exfalso; apply h; exact List.drop_eq_nil_of_le (by simp; omega)
/-- join lays a piece that does not begin with a slash behind a path -/
theorem piece_rel {x b : Str} (hb : (L b).take 1 ≠ [47]) : rootF (pieceF x b) = rootF x ∧ partsF (pieceF x b) = foldN (rootF x) (partsF x) (sp b) := by
  have r0 : ∀ z : Str, (L z).take 1 ≠ [47] → rootN (L z) = 0 := fun z h => by unfold rootN; rw [if_pos h]
  by_cases hx : L x = []
  · have e : pieceF x b = b := by unfold pieceF; rw [if_pos (.inr (len_zero.mpr hx))]
    have n1 := r0 b hb
    have n2 := r0 x (by rw [hx]; simp)
    have er : rootF b = rootF x := root_of (n1.trans n2.symm)
    rw [e]
    refine ⟨er, ?_⟩
    have e1 : partsF x = [] := by
      rw [parts_eq, sp_nil (by rw [(root_rest x).2.1, hx]; simp)]
      exact foldN_e _ _
    have e2 : restF b = b := L_ext (by rw [(root_rest b).2.1, n1, List.drop_zero])
    rw [e1, parts_eq, er, e2]
  · have hs : ¬ (Txt.startswith b (Str.ofString "/") = true ∨ (x.length : Int) = 0) := fun h => h.elim (fun h => hb (starts_sl.mp h)) fun h => hx (len_zero.mp h)
    by_cases he : Txt.endswith x (Str.ofString "/") = true
    · have e : pieceF x b = x ++ b := by unfold pieceF; rw [if_neg hs, if_pos he]
      obtain ⟨u, hu⟩ := ends_sl.mp he
      have hn : rootN (L (x ++ b)) = rootN (L x) := by rw [L_app]; exact rootN_app hx (.inr hb)
      have er := root_of hn
      rw [e]
      refine ⟨er, ?_⟩
      have hrest : L (restF (x ++ b)) = L (restF x) ++ L b := by
        rw [(root_rest _).2.1, hn, L_app, (root_rest x).2.1, List.drop_append_of_le_length (rootN_le _)]
      rw [parts_eq, parts_eq, er]
      by_cases hd : L (restF x) = []
      · rw [sp_nil hd]
        have e3 : restF (x ++ b) = b := L_ext (by rw [hrest, hd]; rfl)
        rw [e3, foldN_e]
      · have hd2 : L (restF x) = u.drop (rootN (L x)) ++ [47] := by
          rw [(root_rest x).2.1] at hd ⊢
          rw [hu] at hd ⊢
          exact snoc_drop hd
        have c1 : sp (restF x) = sp ⟨(u.drop (rootN (L x))).toArray⟩ ++ sp (Str.ofString "") := sp_cat (by rw [hd2, L_mk (u.drop (rootN (L x))), L_empty])
        have c2 : sp (restF (x ++ b)) = sp ⟨(u.drop (rootN (L x))).toArray⟩ ++ sp b := sp_cat (by rw [hrest, hd2, L_mk (u.drop (rootN (L x)))]; simp)
        rw [c1, c2, foldN_app, foldN_app, sp_nil L_empty, foldN_e]
    · have e : pieceF x b = x ++ (Str.ofString "/" ++ b) := by unfold pieceF; rw [if_neg hs, if_neg he]
      have hL : L (x ++ (Str.ofString "/" ++ b)) = L x ++ 47 :: L b := by rw [L_app, L_app, sl_eq, L_sl]; rfl
      have hd : (L x).drop (rootN (L x)) ≠ [] := fun hd => by
        have h1 : L x = List.replicate (rootN (L x)) 47 := by
          have := List.take_append_drop (rootN (L x)) (L x)
          rw [hd, List.append_nil, ← (root_rest x).2.2, (root_rest x).1] at this
          exact this.symm
        apply he
        rw [ends_sl]
        generalize rootN (L x) = n at h1
        cases n with
        | zero => exact absurd h1 hx
        | succ n => exact ⟨List.replicate n 47, by rw [h1, List.replicate_succ']⟩
      have hn : rootN (L (x ++ (Str.ofString "/" ++ b))) = rootN (L x) := by rw [hL]; exact rootN_app hx (.inl hd)
      have er := root_of hn
      rw [e]
      refine ⟨er, ?_⟩
      have c2 : sp (restF (x ++ (Str.ofString "/" ++ b))) = sp (restF x) ++ sp b := sp_cat (by
        rw [(root_rest _).2.1, hn, hL, (root_rest x).2.1, List.drop_append_of_le_length (rootN_le _)])
      rw [parts_eq, parts_eq, er, c2, foldN_app]

-- 51_base
theorem at_sl {x : Str} {i : Nat} : StrLaws.At x sl x.length i ↔ (L x)[i]? = some 47 := StrLaws.subAt_one x 47 i
theorem rfind_none {x : Str} (h : 47 ∉ L x) : Txt.rfind x (Str.ofString "/") = -1 := by
  rw [sl_eq]
  unfold Txt.rfind
  rcases StrLaws.last_spec x sl with ⟨e, _⟩ | ⟨i, _, hi, _⟩
  · rw [e]
  · exact absurd (List.mem_of_getElem? (at_sl.mp hi)) h
theorem rfind_some {x : Str} {u v : List Nat} (h : L x = u ++ 47 :: v) (hv : 47 ∉ v) : Txt.rfind x (Str.ofString "/") = (u.length : Int) := by
  rw [sl_eq]
  unfold Txt.rfind
  have hu : StrLaws.At x sl x.length u.length := at_sl.mpr (by rw [h]; simp)
  rcases StrLaws.last_spec x sl with ⟨_, q⟩ | ⟨i, e, hi, hk⟩
  · exact absurd hu (q _)
  · rw [e]
    have h1 : u.length ≤ i := Nat.le_of_not_lt fun q => hk _ q hu
    have h2 : i ≤ u.length := by
      apply Nat.le_of_not_lt
      intro q
      have h3 := at_sl.mp hi
      rw [h, List.getElem?_append_right (by omega)] at h3
      obtain ⟨j, hj⟩ : ∃ j, i - u.length = j + 1 := ⟨i - u.length - 1, by omega⟩
      rw [hj, List.getElem?_cons_succ] at h3
      exact hv (List.mem_of_getElem? h3)
    have : i = u.length := by omega
    rw [this]
theorem base_none {x : Str} (h : 47 ∉ L x) : baseF x = x := by
  unfold baseF
  rw [rfind_none h]
  exact L_ext (by rw [show (-1 : Int) + 1 = ((0 : Nat) : Int) from rfl, slice_from, List.drop_zero])
theorem base_some {x : Str} {u v : List Nat} (h : L x = u ++ 47 :: v) (hv : 47 ∉ v) : L (baseF x) = v := by
  unfold baseF
  rw [rfind_some h hv, show (u.length : Int) + 1 = ((u.length + 1 : Nat) : Int) from by omega, slice_from, h]
  rw [show u ++ 47 :: v = (u ++ [47]) ++ v by simp, List.drop_left' (by simp)]
theorem head_none {x : Str} (h : 47 ∉ L x) : L (headF x) = [] := by
  have e : L (Txt.slice x none (some (Txt.rfind x (Str.ofString "/") + 1))) = [] := by
    rw [rfind_none h, show (-1 : Int) + 1 = ((0 : Nat) : Int) from rfl, slice_to, List.take_zero]
  rw [← headF_c (len_zero.mpr e)]
  exact e
theorem rep_fold (k : Nat) : ∀ a : Array Nat, ((List.replicate k #[47]).foldl (· ++ ·) a).toList = a.toList ++ List.replicate k 47 := by
  induction k with
  | zero => intro a; simp
  | succ k ih =>
    intro a
    rw [List.replicate_succ, List.foldl_cons, ih, Array.toList_append, List.replicate_succ]
    simp
theorem mul_sl (n : Nat) : L (Txt.mul (Str.ofString "/") (n : Int)) = List.replicate n 47 := by
  rw [sl_eq]
  unfold Txt.mul
  cases n with
  | zero => rfl
  | succ n =>
    rw [if_neg (by omega)]
    split
    · rename_i h
      have h0 : n = 0 := by
        rcases Bool.or_eq_true_iff.mp h with h | h
        · have := beq_iff_eq.mp h; omega
        · exact absurd (beq_iff_eq.mp h) (by decide)
      subst h0; rfl
    · show ((List.replicate ((n + 1 : Nat) : Int).toNat #[47]).foldl (· ++ ·) #[]).toList = _
      rw [rep_fold, Int.toNat_natCast]; simp
theorem strip_sl {y : Str} {w : List Nat} {c : Nat} (h : L y = w ++ [c] ++ [47]) (hc : c ≠ 47) : L (Txt.rstripChars y (Str.ofString "/")) = w ++ [c] := by
  rw [sl_eq]
  unfold Txt.rstripChars
  rw [PyProof.Rows.stripBy_eq]
  show (Builtin.Str.strSub y _ _).cps.toList = _
  rw [StrLaws.strSub_toList]
  show ((L y).drop (stripLo sl.cps.contains false y)).take (stripHi sl.cps.contains true y (stripLo sl.cps.contains false y) - stripLo sl.cps.contains false y) = _
  have e0 : stripLo sl.cps.contains false y = 0 := rfl
  have e1 : stripHi sl.cps.contains true y 0 = w.length + 1 := by
    show y.length - (((L y).drop 0).reverse.takeWhile sl.cps.contains).length = _
    rw [L_len, h]
    simp [List.takeWhile_cons, hc]
  rw [e0, e1, h, List.drop_zero, Nat.sub_zero, List.take_left' (by simp)]
theorem head_in {x : Str} {u v : List Nat} (h : L x = u ++ 47 :: v) (hv : 47 ∉ v) : L (Txt.slice x none (some (Txt.rfind x (Str.ofString "/") + 1))) = u ++ [47] := by
  rw [rfind_some h hv, show (u.length : Int) + 1 = ((u.length + 1 : Nat) : Int) from by omega, slice_to, h]
  rw [show u ++ 47 :: v = (u ++ [47]) ++ v by simp, List.take_left' (by simp)]
/-- the head of a path whose last slash stands behind a letter -/
theorem head_strip {x : Str} {w v : List Nat} {c : Nat} (h : L x = w ++ [c] ++ 47 :: v) (hv : 47 ∉ v) (hc : c ≠ 47) : L (headF x) = w ++ [c] := by
  have e := head_in h hv
  have hne : ((Txt.slice x none (some (Txt.rfind x (Str.ofString "/") + 1))).length : Int) ≠ 0 := fun q => by rw [len_zero, e] at q; simp at q
  have hm : (Txt.slice x none (some (Txt.rfind x (Str.ofString "/") + 1)) != Txt.mul (Str.ofString "/") ((Txt.slice x none (some (Txt.rfind x (Str.ofString "/") + 1))).length : Int)) = true := by
    rw [bne_iff_ne]
    intro q
    have q2 := congrArg L q
    rw [mul_sl, e] at q2
    have q3 : c ∈ List.replicate (Txt.slice x none (some (Txt.rfind x (Str.ofString "/") + 1))).length 47 := by rw [← q2]; simp
    exact hc (List.eq_of_mem_replicate q3)
  rw [← headF_a hne hm]
  exact strip_sl e hc
/-- the head of a path that is a root and a name -/
theorem head_root {x : Str} {n : Nat} {v : List Nat} (h : L x = List.replicate n 47 ++ 47 :: v) (hv : 47 ∉ v) : L (headF x) = List.replicate (n + 1) 47 := by
  have e := head_in h hv
  have e2 : List.replicate n 47 ++ [47] = List.replicate (n + 1) 47 := List.replicate_succ'.symm
  have hm : (Txt.slice x none (some (Txt.rfind x (Str.ofString "/") + 1)) != Txt.mul (Str.ofString "/") ((Txt.slice x none (some (Txt.rfind x (Str.ofString "/") + 1))).length : Int)) = false := by
    rw [bne_eq_false_iff_eq]
    apply L_ext
    rw [mul_sl, L_len, e, e2]
    simp
  rw [← headF_b hm, e, e2]

-- 52_bits
-- the bits of a mode
theorem nat_and_bit (x j : Nat) : x &&& 2 ^ j = 2 ^ j * (x / 2 ^ j % 2) := by
  have h1 : (x &&& 2 ^ j) / 2 ^ j = x / 2 ^ j % 2 := by
    rw [Nat.and_div_two_pow, Nat.div_self (Nat.two_pow_pos j), Nat.and_one_is_mod]
  have h2 : (x &&& 2 ^ j) % 2 ^ j = 0 := by rw [Nat.and_mod_two_pow, Nat.mod_self, Nat.and_zero]
  have h3 := Nat.div_add_mod (x &&& 2 ^ j) (2 ^ j)
  rw [h1, h2] at h3
  omega
theorem nat_and_high {x : Nat} (h : x < 65536) : x &&& 61440 = 4096 * (x / 4096) := by
  have h1 : (x &&& 61440) / 2 ^ 12 = x / 4096 := by
    rw [Nat.and_div_two_pow]
    show x / 4096 &&& 2 ^ 4 - 1 = _
    rw [Nat.and_two_pow_sub_one_eq_mod]
    omega
  have h2 : (x &&& 61440) % 2 ^ 12 = 0 := by rw [Nat.and_mod_two_pow]; show _ &&& 0 = 0; rw [Nat.and_zero]
  have h3 := Nat.div_add_mod (x &&& 61440) (2 ^ 12)
  rw [h1, h2] at h3
  omega
theorem nat_and_low (x : Nat) : x &&& 4095 = x % 4096 := Nat.and_two_pow_sub_one_eq_mod x 12
theorem nat_or_bits {a b s t : Nat} (i j : Nat) (hij : i < j) (ht : t < 2) (ha : a = 2 ^ j * s) (hb : b = 2 ^ i * t) : a ||| b = a + b := by
  subst ha hb
  refine (Nat.two_pow_add_eq_or_of_lt ?_ s).symm
  have h1 : 2 ^ i < 2 ^ j := Nat.pow_lt_pow_right (by decide) hij
  have h2 : 2 ^ i * t ≤ 2 ^ i := by
    rcases (show t = 0 ∨ t = 1 by omega) with rfl | rfl <;> simp
  omega
theorem int_and {m : Int} (h : 0 ≤ m) (k : Nat) : Builtin.bitAnd m (k : Int) = ((m.toNat &&& k : Nat) : Int) := by
  rw [bitAnd_pp h (by omega), Int.toNat_natCast]
theorem and_bit {m : Int} (h : 0 ≤ m) (j : Nat) : Builtin.bitAnd m ((2 ^ j : Nat) : Int) = ((2 ^ j : Nat) : Int) * (m / ((2 ^ j : Nat) : Int) % 2) := by
  rw [int_and h, nat_and_bit]
  obtain ⟨n, rfl⟩ := Int.eq_ofNat_of_zero_le h
  rw [Int.toNat_natCast]
  push_cast
  rfl
theorem and_two {m : Int} (h : 0 ≤ m) {i j : Nat} (hij : i < j) (k : Nat) (hk : k = 2 ^ j ||| 2 ^ i) : Builtin.bitAnd m (k : Int) = ((2 ^ j : Nat) : Int) * (m / ((2 ^ j : Nat) : Int) % 2) + ((2 ^ i : Nat) : Int) * (m / ((2 ^ i : Nat) : Int) % 2) := by
  rw [← and_bit h, ← and_bit h, int_and h, int_and h, int_and h, hk, Nat.and_or_distrib_left]
  rw [nat_or_bits i j hij (s := m.toNat / 2 ^ j % 2) (t := m.toNat / 2 ^ i % 2) (by omega) (nat_and_bit _ _) (nat_and_bit _ _)]
  push_cast
  rfl
theorem and_high {m : Int} (h : 0 ≤ m) (h2 : m < 65536) : Builtin.bitAnd m 61440 = 4096 * (m / 4096) := by
  have e := int_and h 61440
  rw [nat_and_high (by omega)] at e
  refine e.trans ?_
  omega
theorem and_low {m : Int} (h : 0 ≤ m) : Builtin.bitAnd m 4095 = m % 4096 := by
  have e := int_and h 4095
  rw [nat_and_low] at e
  refine e.trans ?_
  omega
theorem or_mode {k r : Int} (hk : 0 ≤ k) (hr : 0 ≤ r) (hr2 : r < 4096) : Builtin.bitOr (4096 * k) r = 4096 * k + r := by
  obtain ⟨a, rfl⟩ := Int.eq_ofNat_of_zero_le hk
  obtain ⟨b, rfl⟩ := Int.eq_ofNat_of_zero_le hr
  have e : Builtin.bitOr (4096 * (a : Int)) (b : Int) = (((4096 * a) ||| b : Nat) : Int) := by
    rw [bitOr_pp (by omega) (by omega), show (4096 * (a : Int)).toNat = 4096 * a by omega, Int.toNat_natCast]
  rw [e, ← Nat.two_pow_add_eq_or_of_lt (i := 12) (by omega) a]
  omega
theorem hit_y {m b : Int} {i : Nat} (hi : i ≠ 0) (e : Builtin.bitAnd m b = b) : hits m i b = true := by unfold hits; rw [if_neg hi, e]; exact beq_self_eq_true _
theorem hit_n {m b c : Int} {i : Nat} (hi : i ≠ 0) (e : Builtin.bitAnd m b = c) (hc : c ≠ b) : hits m i b = false := by unfold hits; rw [if_neg hi, e]; exact beq_eq_false_iff_ne.mpr hc
theorem fm_y {m : Int} {i : Nat} {b : Int} {s : Str} {r : List (Int × Str)} (h : hits m i b = true) : fmChar m i ((b, s) :: r) = s := by rw [fmChar, if_pos h]
theorem fm_n {m : Int} {i : Nat} {b : Int} {s : Str} {r : List (Int × Str)} (h : hits m i b = false) : fmChar m i ((b, s) :: r) = fmChar m i r := by rw [fmChar, if_neg (by rw [h]; decide)]
theorem fm_0 {m : Int} {i : Nat} (hi : i ≠ 0) : fmChar m i [] = Str.ofString "-" := by rw [fmChar, if_neg hi]
noncomputable def kindC (v : Int) : List (Int × Str) → Str
  | [] => Str.ofString "?"
  | e :: r => if v == e.1 then e.2 else kindC v r
theorem fm_kind {m v : Int} (h : Builtin.bitAnd m 61440 = v) : ∀ T, fmChar m 0 T = kindC v T
  | [] => rfl
  | e :: r => by rw [fmChar, kindC, fm_kind h r]; unfold hits; rw [if_pos rfl, h]
theorem f64 (m : Int) : m.fdiv 64 = m / 64 := Int.fdiv_eq_ediv_of_nonneg _ (by decide)
theorem f8 (m : Int) : m.fdiv 8 = m / 8 := Int.fdiv_eq_ediv_of_nonneg _ (by decide)
theorem f1 (m : Int) : m.fdiv 1 = m / 1 := Int.fdiv_eq_ediv_of_nonneg _ (by decide)
theorem f4 (m : Int) : m.fdiv 4 = m / 4 := Int.fdiv_eq_ediv_of_nonneg _ (by decide)
theorem f2 (m : Int) : m.fdiv 2 = m / 2 := Int.fdiv_eq_ediv_of_nonneg _ (by decide)
theorem f2048 (m : Int) : m.fdiv 2048 = m / 2048 := Int.fdiv_eq_ediv_of_nonneg _ (by decide)
theorem f1024 (m : Int) : m.fdiv 1024 = m / 1024 := Int.fdiv_eq_ediv_of_nonneg _ (by decide)
theorem f512 (m : Int) : m.fdiv 512 = m / 512 := Int.fdiv_eq_ediv_of_nonneg _ (by decide)
theorem f4096 (m : Int) : m.fdiv 4096 = m / 4096 := Int.fdiv_eq_ediv_of_nonneg _ (by decide)
theorem m8 (m : Int) : m.fmod 8 = m % 8 := Int.fmod_eq_emod_of_nonneg _ (by decide)
theorem m2 (m : Int) : m.fmod 2 = m % 2 := Int.fmod_eq_emod_of_nonneg _ (by decide)
theorem chr0 {m : Int} (h : 0 ≤ m) : fmChar m 1 [(256, Str.ofString "r")] = Txt.item (Str.ofString "-r") (((m.fdiv 64).fmod 8).fdiv 4) := by
  have e : Builtin.bitAnd m 256 = 256 * (m / 256 % 2) := and_bit h 8
  simp only [f64, f8, f1, f4, f2, m8, m2]
  rcases (show m / 256 % 2 = 0 ∨ m / 256 % 2 = 1 by omega) with q | q <;> rw [q] at e
  · rw [fm_n (hit_n (by decide) e (by decide)), fm_0 (by decide), show ((m/ 64)% 8)/ 4 = 0 by omega]; decide +kernel
  · rw [fm_y (hit_y (by decide) e), show ((m/ 64)% 8)/ 4 = 1 by omega]; decide +kernel
theorem chw0 {m : Int} (h : 0 ≤ m) : fmChar m 2 [(128, Str.ofString "w")] = Txt.item (Str.ofString "-w") ((((m.fdiv 64).fmod 8).fdiv 2).fmod 2) := by
  have e : Builtin.bitAnd m 128 = 128 * (m / 128 % 2) := and_bit h 7
  simp only [f64, f8, f1, f4, f2, m8, m2]
  rcases (show m / 128 % 2 = 0 ∨ m / 128 % 2 = 1 by omega) with q | q <;> rw [q] at e
  · rw [fm_n (hit_n (by decide) e (by decide)), fm_0 (by decide), show (((m/ 64)% 8)/ 2)% 2 = 0 by omega]; decide +kernel
  · rw [fm_y (hit_y (by decide) e), show (((m/ 64)% 8)/ 2)% 2 = 1 by omega]; decide +kernel
theorem chx0 {m : Int} (h : 0 ≤ m) : fmChar m 3 [(2112, Str.ofString "s"), (2048, Str.ofString "S"), (64, Str.ofString "x")] = Txt.item (Str.ofString "-xSs") (2 * (m.fdiv 2048).fmod 2 + ((m.fdiv 64).fmod 8).fmod 2) := by
  have e1 : Builtin.bitAnd m 2112 = 2048 * (m / 2048 % 2) + 64 * (m / 64 % 2) := and_two h (i := 6) (j := 11) (by decide) 2112 (by decide)
  have e2 : Builtin.bitAnd m 2048 = 2048 * (m / 2048 % 2) := and_bit h 11
  have e3 : Builtin.bitAnd m 64 = 64 * (m / 64 % 2) := and_bit h 6
  simp only [f64, f8, f1, f2048, f1024, f512, m8, m2]
  rcases (show m / 2048 % 2 = 0 ∨ m / 2048 % 2 = 1 by omega) with p | p <;> rcases (show m / 64 % 2 = 0 ∨ m / 64 % 2 = 1 by omega) with q | q <;> rw [p, q] at e1 <;> rw [p] at e2 <;> rw [q] at e3
  · rw [fm_n (hit_n (by decide) e1 (by decide)), fm_n (hit_n (by decide) e2 (by decide)), fm_n (hit_n (by decide) e3 (by decide)), fm_0 (by decide), show 2 * (m / 2048 % 2) + ((m/ 64)% 8)% 2 = 0 by omega]; decide +kernel
  · rw [fm_n (hit_n (by decide) e1 (by decide)), fm_n (hit_n (by decide) e2 (by decide)), fm_y (hit_y (by decide) e3), show 2 * (m / 2048 % 2) + ((m/ 64)% 8)% 2 = 1 by omega]; decide +kernel
  · rw [fm_n (hit_n (by decide) e1 (by decide)), fm_y (hit_y (by decide) e2), show 2 * (m / 2048 % 2) + ((m/ 64)% 8)% 2 = 2 by omega]; decide +kernel
  · rw [fm_y (hit_y (by decide) e1), show 2 * (m / 2048 % 2) + ((m/ 64)% 8)% 2 = 3 by omega]; decide +kernel
theorem chr1 {m : Int} (h : 0 ≤ m) : fmChar m 4 [(32, Str.ofString "r")] = Txt.item (Str.ofString "-r") (((m.fdiv 8).fmod 8).fdiv 4) := by
  have e : Builtin.bitAnd m 32 = 32 * (m / 32 % 2) := and_bit h 5
  simp only [f64, f8, f1, f4, f2, m8, m2]
  rcases (show m / 32 % 2 = 0 ∨ m / 32 % 2 = 1 by omega) with q | q <;> rw [q] at e
  · rw [fm_n (hit_n (by decide) e (by decide)), fm_0 (by decide), show ((m/ 8)% 8)/ 4 = 0 by omega]; decide +kernel
  · rw [fm_y (hit_y (by decide) e), show ((m/ 8)% 8)/ 4 = 1 by omega]; decide +kernel
theorem chw1 {m : Int} (h : 0 ≤ m) : fmChar m 5 [(16, Str.ofString "w")] = Txt.item (Str.ofString "-w") ((((m.fdiv 8).fmod 8).fdiv 2).fmod 2) := by
  have e : Builtin.bitAnd m 16 = 16 * (m / 16 % 2) := and_bit h 4
  simp only [f64, f8, f1, f4, f2, m8, m2]
  rcases (show m / 16 % 2 = 0 ∨ m / 16 % 2 = 1 by omega) with q | q <;> rw [q] at e
  · rw [fm_n (hit_n (by decide) e (by decide)), fm_0 (by decide), show (((m/ 8)% 8)/ 2)% 2 = 0 by omega]; decide +kernel
  · rw [fm_y (hit_y (by decide) e), show (((m/ 8)% 8)/ 2)% 2 = 1 by omega]; decide +kernel
theorem chx1 {m : Int} (h : 0 ≤ m) : fmChar m 6 [(1032, Str.ofString "s"), (1024, Str.ofString "S"), (8, Str.ofString "x")] = Txt.item (Str.ofString "-xSs") (2 * (m.fdiv 1024).fmod 2 + ((m.fdiv 8).fmod 8).fmod 2) := by
  have e1 : Builtin.bitAnd m 1032 = 1024 * (m / 1024 % 2) + 8 * (m / 8 % 2) := and_two h (i := 3) (j := 10) (by decide) 1032 (by decide)
  have e2 : Builtin.bitAnd m 1024 = 1024 * (m / 1024 % 2) := and_bit h 10
  have e3 : Builtin.bitAnd m 8 = 8 * (m / 8 % 2) := and_bit h 3
  simp only [f64, f8, f1, f2048, f1024, f512, m8, m2]
  rcases (show m / 1024 % 2 = 0 ∨ m / 1024 % 2 = 1 by omega) with p | p <;> rcases (show m / 8 % 2 = 0 ∨ m / 8 % 2 = 1 by omega) with q | q <;> rw [p, q] at e1 <;> rw [p] at e2 <;> rw [q] at e3
  · rw [fm_n (hit_n (by decide) e1 (by decide)), fm_n (hit_n (by decide) e2 (by decide)), fm_n (hit_n (by decide) e3 (by decide)), fm_0 (by decide), show 2 * (m / 1024 % 2) + ((m/ 8)% 8)% 2 = 0 by omega]; decide +kernel
  · rw [fm_n (hit_n (by decide) e1 (by decide)), fm_n (hit_n (by decide) e2 (by decide)), fm_y (hit_y (by decide) e3), show 2 * (m / 1024 % 2) + ((m/ 8)% 8)% 2 = 1 by omega]; decide +kernel
  · rw [fm_n (hit_n (by decide) e1 (by decide)), fm_y (hit_y (by decide) e2), show 2 * (m / 1024 % 2) + ((m/ 8)% 8)% 2 = 2 by omega]; decide +kernel
  · rw [fm_y (hit_y (by decide) e1), show 2 * (m / 1024 % 2) + ((m/ 8)% 8)% 2 = 3 by omega]; decide +kernel
theorem chr2 {m : Int} (h : 0 ≤ m) : fmChar m 7 [(4, Str.ofString "r")] = Txt.item (Str.ofString "-r") (((m.fdiv 1).fmod 8).fdiv 4) := by
  have e : Builtin.bitAnd m 4 = 4 * (m / 4 % 2) := and_bit h 2
  simp only [f64, f8, f1, f4, f2, m8, m2]
  rcases (show m / 4 % 2 = 0 ∨ m / 4 % 2 = 1 by omega) with q | q <;> rw [q] at e
  · rw [fm_n (hit_n (by decide) e (by decide)), fm_0 (by decide), show ((m/ 1)% 8)/ 4 = 0 by omega]; decide +kernel
  · rw [fm_y (hit_y (by decide) e), show ((m/ 1)% 8)/ 4 = 1 by omega]; decide +kernel
theorem chw2 {m : Int} (h : 0 ≤ m) : fmChar m 8 [(2, Str.ofString "w")] = Txt.item (Str.ofString "-w") ((((m.fdiv 1).fmod 8).fdiv 2).fmod 2) := by
  have e : Builtin.bitAnd m 2 = 2 * (m / 2 % 2) := and_bit h 1
  simp only [f64, f8, f1, f4, f2, m8, m2]
  rcases (show m / 2 % 2 = 0 ∨ m / 2 % 2 = 1 by omega) with q | q <;> rw [q] at e
  · rw [fm_n (hit_n (by decide) e (by decide)), fm_0 (by decide), show (((m/ 1)% 8)/ 2)% 2 = 0 by omega]; decide +kernel
  · rw [fm_y (hit_y (by decide) e), show (((m/ 1)% 8)/ 2)% 2 = 1 by omega]; decide +kernel
theorem chx2 {m : Int} (h : 0 ≤ m) : fmChar m 9 [(513, Str.ofString "t"), (512, Str.ofString "T"), (1, Str.ofString "x")] = Txt.item (Str.ofString "-xTt") (2 * (m.fdiv 512).fmod 2 + ((m.fdiv 1).fmod 8).fmod 2) := by
  have e1 : Builtin.bitAnd m 513 = 512 * (m / 512 % 2) + 1 * (m / 1 % 2) := and_two h (i := 0) (j := 9) (by decide) 513 (by decide)
  have e2 : Builtin.bitAnd m 512 = 512 * (m / 512 % 2) := and_bit h 9
  have e3 : Builtin.bitAnd m 1 = 1 * (m / 1 % 2) := and_bit h 0
  simp only [f64, f8, f1, f2048, f1024, f512, m8, m2]
  rcases (show m / 512 % 2 = 0 ∨ m / 512 % 2 = 1 by omega) with p | p <;> rcases (show m / 1 % 2 = 0 ∨ m / 1 % 2 = 1 by omega) with q | q <;> rw [p, q] at e1 <;> rw [p] at e2 <;> rw [q] at e3
  · rw [fm_n (hit_n (by decide) e1 (by decide)), fm_n (hit_n (by decide) e2 (by decide)), fm_n (hit_n (by decide) e3 (by decide)), fm_0 (by decide), show 2 * (m / 512 % 2) + ((m/ 1)% 8)% 2 = 0 by omega]; decide +kernel
  · rw [fm_n (hit_n (by decide) e1 (by decide)), fm_n (hit_n (by decide) e2 (by decide)), fm_y (hit_y (by decide) e3), show 2 * (m / 512 % 2) + ((m/ 1)% 8)% 2 = 1 by omega]; decide +kernel
  · rw [fm_n (hit_n (by decide) e1 (by decide)), fm_y (hit_y (by decide) e2), show 2 * (m / 512 % 2) + ((m/ 1)% 8)% 2 = 2 by omega]; decide +kernel
  · rw [fm_y (hit_y (by decide) e1), show 2 * (m / 512 % 2) + ((m/ 1)% 8)% 2 = 3 by omega]; decide +kernel
theorem kind_16 {z : Int} (h0 : 0 ≤ z) (h1 : z < 16) : z = 0 ∨ z = 1 ∨ z = 2 ∨ z = 3 ∨ z = 4 ∨ z = 5 ∨ z = 6 ∨ z = 7 ∨ z = 8 ∨ z = 9 ∨ z = 10 ∨ z = 11 ∨ z = 12 ∨ z = 13 ∨ z = 14 ∨ z = 15 := by omega
theorem chk {m : Int} (h : 0 ≤ m) (h2 : m < 65536) : fmChar m 0 [(40960, Str.ofString "l"), (49152, Str.ofString "s"), (32768, Str.ofString "-"), (24576, Str.ofString "b"), (16384, Str.ofString "d"), (8192, Str.ofString "c"), (4096, Str.ofString "p")] = Txt.item (Str.ofString "?pc?d?b?-?l?s???") (m.fdiv 4096) := by
  have e := and_high h h2
  rw [f4096]
  rcases kind_16 (z := m / 4096) (by omega) (by omega) with q | q | q | q | q | q | q | q | q | q | q | q | q | q | q | q
  all_goals rw [q] at e ⊢
  all_goals rw [fm_kind e]
  all_goals decide +kernel
theorem fm_signs {m : Int} (h : 0 ≤ m) (h2 : m < 65536) : fmF m = signsF m := by
  have e1 : fmF m = Str.join (Str.ofString "") (fmChars m 0 fmTab) := StrLaws.glued_eq_join _ _
  rw [e1]
  unfold fmTab
  simp only [fmChars]
  rw [chk h h2, chr0 h, chw0 h, chx0 h, chr1 h, chw1 h, chx1 h, chr2 h, chw2 h, chx2 h]
  apply L_ext
  unfold signsF
  rw [← sg2, ← sg1, ← sg0]
  simp only [Str.join, L_app, L_empty, List.append_nil, List.append_assoc]

-- 53_read
noncomputable def readV (k : Int) (c : Str) : Int :=
  (if (!(Builtin.Str.occurrences (Str.ofString "rwxst") c 0 (Str.ofString "rwxst").length 1).isEmpty) = true then 2 ^ (8 - k).toNat else 0) +
  (if (!(Builtin.Str.occurrences (Str.ofString "sStT") c 0 (Str.ofString "sStT").length 1).isEmpty) = true then 2 ^ (11 - k.fdiv 3).toNat else 0)
theorem readStep_v (x : Str) (σ : Int × TyM []) (k : Int) : readStep x σ k = (σ.fst + readV k (Txt.item x (1 + k)), ()) := by
  unfold readStep readV
  split <;> split <;> (refine Prod.ext ?_ rfl; dsimp only; omega)
theorem fold_v (x : Str) : ∀ (ks : List Int) (σ : Int × TyM []), (ks.foldl (readStep x) σ).fst = ks.foldl (fun a k => a + readV k (Txt.item x (1 + k))) σ.fst
  | [], _ => rfl
  | k :: r, σ => by rw [List.foldl_cons, List.foldl_cons, fold_v x r, readStep_v]
theorem range9 : rangeInts 0 1 ((9 : Int) - 0).toNat = [0, 1, 2, 3, 4, 5, 6, 7, 8] := by decide +kernel
theorem read_v (x : Str) : readF x = 4096 * Txt.find (Str.ofString "?pc?d?b?-?l?s") (Txt.item x 0) + readV 0 (Txt.item x 1) + readV 1 (Txt.item x 2) + readV 2 (Txt.item x 3) + readV 3 (Txt.item x 4) + readV 4 (Txt.item x 5) + readV 5 (Txt.item x 6) + readV 6 (Txt.item x 7) + readV 7 (Txt.item x 8) + readV 8 (Txt.item x 9) := by
  unfold readF
  rw [range9, fold_v]
  rfl
theorem item_at {x : Str} {i : Nat} {a : Nat} (h : (L x)[i]? = some a) : Txt.item x (i : Int) = ⟨#[a]⟩ := by
  obtain ⟨hlt, _⟩ := List.getElem?_eq_some_iff.mp h
  have h2 : x.cps[i]? = some a := by rw [← Array.getElem?_toList]; exact h
  unfold Txt.item Txt.charAt
  rw [StrLaws.seqIndex_nonneg (by omega) (by rw [L_len]; omega)]
  simp [h2]
theorem L_item (T : Str) (j : Int) : L (Txt.item T j) = [(Txt.charAt T j).getD 0] := rfl
theorem signs_L (m : Int) : L (signsF m) = [(Txt.charAt (Str.ofString "?pc?d?b?-?l?s???") (m.fdiv 4096)).getD 0,
    (Txt.charAt (Str.ofString "-r") (((m.fdiv 64).fmod 8).fdiv 4)).getD 0, (Txt.charAt (Str.ofString "-w") ((((m.fdiv 64).fmod 8).fdiv 2).fmod 2)).getD 0, (Txt.charAt (Str.ofString "-xSs") (2 * (m.fdiv 2048).fmod 2 + ((m.fdiv 64).fmod 8).fmod 2)).getD 0,
    (Txt.charAt (Str.ofString "-r") (((m.fdiv 8).fmod 8).fdiv 4)).getD 0, (Txt.charAt (Str.ofString "-w") ((((m.fdiv 8).fmod 8).fdiv 2).fmod 2)).getD 0, (Txt.charAt (Str.ofString "-xSs") (2 * (m.fdiv 1024).fmod 2 + ((m.fdiv 8).fmod 8).fmod 2)).getD 0,
    (Txt.charAt (Str.ofString "-r") (((m.fdiv 1).fmod 8).fdiv 4)).getD 0, (Txt.charAt (Str.ofString "-w") ((((m.fdiv 1).fmod 8).fdiv 2).fmod 2)).getD 0, (Txt.charAt (Str.ofString "-xTt") (2 * (m.fdiv 512).fmod 2 + ((m.fdiv 1).fmod 8).fmod 2)).getD 0] := by
  unfold signsF
  rw [← sg2, ← sg1, ← sg0]
  simp only [L_app, L_item]
  rfl
theorem rv_r0 {b : Int} (h : b = 0 ∨ b = 1) : readV 0 (Txt.item (Str.ofString "-r") b) = 256 * b := by rcases h with rfl | rfl <;> decide +kernel
theorem rv_w0 {b : Int} (h : b = 0 ∨ b = 1) : readV 1 (Txt.item (Str.ofString "-w") b) = 128 * b := by rcases h with rfl | rfl <;> decide +kernel
theorem rv_x0 {s b : Int} (hs : s = 0 ∨ s = 1) (h : b = 0 ∨ b = 1) : readV 2 (Txt.item (Str.ofString "-xSs") (2 * s + b)) = 2048 * s + 64 * b := by rcases hs with rfl | rfl <;> rcases h with rfl | rfl <;> decide +kernel
theorem rv_r1 {b : Int} (h : b = 0 ∨ b = 1) : readV 3 (Txt.item (Str.ofString "-r") b) = 32 * b := by rcases h with rfl | rfl <;> decide +kernel
theorem rv_w1 {b : Int} (h : b = 0 ∨ b = 1) : readV 4 (Txt.item (Str.ofString "-w") b) = 16 * b := by rcases h with rfl | rfl <;> decide +kernel
theorem rv_x1 {s b : Int} (hs : s = 0 ∨ s = 1) (h : b = 0 ∨ b = 1) : readV 5 (Txt.item (Str.ofString "-xSs") (2 * s + b)) = 1024 * s + 8 * b := by rcases hs with rfl | rfl <;> rcases h with rfl | rfl <;> decide +kernel
theorem rv_r2 {b : Int} (h : b = 0 ∨ b = 1) : readV 6 (Txt.item (Str.ofString "-r") b) = 4 * b := by rcases h with rfl | rfl <;> decide +kernel
theorem rv_w2 {b : Int} (h : b = 0 ∨ b = 1) : readV 7 (Txt.item (Str.ofString "-w") b) = 2 * b := by rcases h with rfl | rfl <;> decide +kernel
theorem rv_x2 {s b : Int} (hs : s = 0 ∨ s = 1) (h : b = 0 ∨ b = 1) : readV 8 (Txt.item (Str.ofString "-xTt") (2 * s + b)) = 512 * s + 1 * b := by rcases hs with rfl | rfl <;> rcases h with rfl | rfl <;> decide +kernel
noncomputable def goodK (z : Int) : Prop := z = 0 ∨ z = 1 ∨ z = 2 ∨ z = 4 ∨ z = 6 ∨ z = 8 ∨ z = 10 ∨ z = 12
theorem rv_k {z : Int} (h : goodK z) : Txt.find (Str.ofString "?pc?d?b?-?l?s") (Txt.item (Str.ofString "?pc?d?b?-?l?s???") z) = z := by
  rcases h with rfl | rfl | rfl | rfl | rfl | rfl | rfl | rfl <;> decide +kernel
theorem b01 (m n : Int) : m / n % 2 = 0 ∨ m / n % 2 = 1 := by omega
theorem rd_dv (m : Int) {a b c : Int} (h : 0 ≤ a) (e : a * b = c) : m / a / b = m / c := by rw [Int.ediv_ediv_of_nonneg h, e]
theorem rd_md (a b c d : Int) (h : 0 ≤ b) (e : b * c = d) : a % d = a % b + b * (a / b % c) := by
  rw [← e, Int.emod_def a (b * c), Int.emod_def a b, Int.emod_def (a / b) c, Int.ediv_ediv_of_nonneg h, Int.mul_sub, Int.mul_assoc]; omega
theorem rd_q1 (a : Int) : a % 8 % 2 = a % 2 := Int.emod_emod_of_dvd a (by decide)
theorem rd_q4 (a : Int) : a % 8 / 4 = a / 4 % 2 := by
  rw [rd_md a 4 2 8 (by decide) rfl, Int.add_mul_ediv_left _ _ (by decide), Int.ediv_eq_zero_of_lt (Int.emod_nonneg _ (by decide)) (Int.emod_lt_of_pos _ (by decide)), Int.zero_add]
theorem rd_q2 (a : Int) : a % 8 / 2 % 2 = a / 2 % 2 := by
  rw [rd_md a 2 4 8 (by decide) rfl, Int.add_mul_ediv_left _ _ (by decide), Int.ediv_eq_zero_of_lt (Int.emod_nonneg _ (by decide)) (Int.emod_lt_of_pos _ (by decide)), Int.zero_add]
  exact Int.emod_emod_of_dvd _ (by decide)
theorem rd_six0 {x x2 x4 x8 x16 x32 y1 y2 y3 y4 : Int} (h1 : x = x2 + 2 * y1) (h2 : y1 = x4 + 2 * y2) (h3 : y2 = x8 + 2 * y3) (h4 : y3 = x16 + 2 * y4) {u : Int} (h5 : y4 = x32 + 2 * u) : x = 32 * u + 16 * x32 + 8 * x16 + 4 * x8 + 2 * x4 + x2 := by omega
theorem rd_six (a : Int) : a % 64 = 32 * (a / 32 % 2) + 16 * (a / 16 % 2) + 8 * (a / 8 % 2) + 4 * (a / 4 % 2) + 2 * (a / 2 % 2) + a % 2 := by
  have h2 := rd_md (a / 2) 2 16 32 (by decide) rfl
  have h3 := rd_md (a / 4) 2 8 16 (by decide) rfl
  have h4 := rd_md (a / 8) 2 4 8 (by decide) rfl
  have h5 := rd_md (a / 16) 2 2 4 (by decide) rfl
  rw [rd_dv a (by decide) rfl] at h2 h3 h4 h5
  exact rd_six0 (rd_md a 2 32 64 (by decide) rfl) h2 h3 h4 h5
theorem rd_thr (m : Int) : m = 4096 * (m / 4096) + 64 * (m / 64 % 64) + m % 64 := by
  have h := Int.mul_ediv_add_emod m 4096
  rw [rd_md m 64 64 4096 (by decide) rfl] at h
  rw [Int.add_assoc, Int.add_comm (64 * _)]; exact h.symm
theorem rd_fin {m z u v a11 a10 a9 a8 a7 a6 a5 a4 a3 a2 a1 a0 : Int} (s1 : m = 4096 * z + 64 * u + v) (s2 : u = 32 * a11 + 16 * a10 + 8 * a9 + 4 * a8 + 2 * a7 + a6) (s3 : v = 32 * a5 + 16 * a4 + 8 * a3 + 4 * a2 + 2 * a1 + a0) :
    4096 * z + 256 * a8 + 128 * a7 + (2048 * a11 + 64 * a6) + 32 * a5 + 16 * a4 + (1024 * a10 + 8 * a3) + 4 * a2 + 2 * a1 + (512 * a9 + 1 * a0) = m := by omega
theorem read_signs {m : Int} (h0 : 0 ≤ m) (h1 : m < 65536) (hk : goodK (m / 4096)) : readF (signsF m) = m := by
  have hL := signs_L m
  rw [read_v]
  have i0 : Txt.item (signsF m) 0 = Txt.item (Str.ofString "?pc?d?b?-?l?s???") (m.fdiv 4096) := item_at (i := 0) (by rw [hL]; rfl)
  have i1 : Txt.item (signsF m) 1 = Txt.item (Str.ofString "-r") (((m.fdiv 64).fmod 8).fdiv 4) := item_at (i := 1) (by rw [hL]; rfl)
  have i2 : Txt.item (signsF m) 2 = Txt.item (Str.ofString "-w") ((((m.fdiv 64).fmod 8).fdiv 2).fmod 2) := item_at (i := 2) (by rw [hL]; rfl)
  have i3 : Txt.item (signsF m) 3 = Txt.item (Str.ofString "-xSs") (2 * (m.fdiv 2048).fmod 2 + ((m.fdiv 64).fmod 8).fmod 2) := item_at (i := 3) (by rw [hL]; rfl)
  have i4 : Txt.item (signsF m) 4 = Txt.item (Str.ofString "-r") (((m.fdiv 8).fmod 8).fdiv 4) := item_at (i := 4) (by rw [hL]; rfl)
  have i5 : Txt.item (signsF m) 5 = Txt.item (Str.ofString "-w") ((((m.fdiv 8).fmod 8).fdiv 2).fmod 2) := item_at (i := 5) (by rw [hL]; rfl)
  have i6 : Txt.item (signsF m) 6 = Txt.item (Str.ofString "-xSs") (2 * (m.fdiv 1024).fmod 2 + ((m.fdiv 8).fmod 8).fmod 2) := item_at (i := 6) (by rw [hL]; rfl)
  have i7 : Txt.item (signsF m) 7 = Txt.item (Str.ofString "-r") (((m.fdiv 1).fmod 8).fdiv 4) := item_at (i := 7) (by rw [hL]; rfl)
  have i8 : Txt.item (signsF m) 8 = Txt.item (Str.ofString "-w") ((((m.fdiv 1).fmod 8).fdiv 2).fmod 2) := item_at (i := 8) (by rw [hL]; rfl)
  have i9 : Txt.item (signsF m) 9 = Txt.item (Str.ofString "-xTt") (2 * (m.fdiv 512).fmod 2 + ((m.fdiv 1).fmod 8).fmod 2) := item_at (i := 9) (by rw [hL]; rfl)
  rw [i0, i1, i2, i3, i4, i5, i6, i7, i8, i9]
  simp only [f4096, f64, f8, f1, f4, f2, f2048, f1024, f512, m8, m2]
  have g8 : m / 64 % 8 / 4 = m / 256 % 2 := by rw [rd_q4, rd_dv m (by decide) rfl]; rfl
  have g7 : m / 64 % 8 / 2 % 2 = m / 128 % 2 := by rw [rd_q2, rd_dv m (by decide) rfl]; rfl
  have g6 : m / 64 % 8 % 2 = m / 64 % 2 := rd_q1 _
  have g5 : m / 8 % 8 / 4 = m / 32 % 2 := by rw [rd_q4, rd_dv m (by decide) rfl]; rfl
  have g4 : m / 8 % 8 / 2 % 2 = m / 16 % 2 := by rw [rd_q2, rd_dv m (by decide) rfl]; rfl
  have g3 : m / 8 % 8 % 2 = m / 8 % 2 := rd_q1 _
  have g2 : m / 1 % 8 / 4 = m / 4 % 2 := by rw [rd_q4, rd_dv m (by decide) rfl]; rfl
  have g1 : m / 1 % 8 / 2 % 2 = m / 2 % 2 := by rw [rd_q2, rd_dv m (by decide) rfl]; rfl
  have g0 : m / 1 % 8 % 2 = m / 1 % 2 := rd_q1 _
  rw [g8, g7, g6, g5, g4, g3, g2, g1, g0, rv_k hk, rv_r0 (b01 _ _), rv_w0 (b01 _ _), rv_x0 (b01 _ _) (b01 _ _), rv_r1 (b01 _ _), rv_w1 (b01 _ _), rv_x1 (b01 _ _) (b01 _ _), rv_r2 (b01 _ _), rv_w2 (b01 _ _), rv_x2 (b01 _ _) (b01 _ _)]
  have s2 : m / 64 % 64 = 32 * (m / 2048 % 2) + 16 * (m / 1024 % 2) + 8 * (m / 512 % 2) + 4 * (m / 256 % 2) + 2 * (m / 128 % 2) + m / 64 % 2 := by
    rw [rd_six, rd_dv m (by decide) rfl, rd_dv m (by decide) rfl, rd_dv m (by decide) rfl, rd_dv m (by decide) rfl, rd_dv m (by decide) rfl]; rfl
  have s3 : m % 64 = 32 * (m / 32 % 2) + 16 * (m / 16 % 2) + 8 * (m / 8 % 2) + 4 * (m / 4 % 2) + 2 * (m / 2 % 2) + m / 1 % 2 := by
    rw [rd_six, Int.ediv_one]
  exact rd_fin (rd_thr m) s2 s3

-- 54_inv
noncomputable def dd : Str := Str.ofString ".."
theorem L_dd : L dd = [46, 46] := by rw [show dd = ⟨#[46, 46]⟩ by decide +kernel]; rfl
theorem L_dot : L (Str.ofString ".") = [46] := by rw [show Str.ofString "." = ⟨#[46]⟩ by decide +kernel]; rfl
noncomputable def Good (m : Int) : Prop := 0 ≤ m ∧ m < 65536 ∧ goodK (m / 4096)
noncomputable def nameOf (m : Int) : Int × Str := (m, signsF m)
noncomputable def rowOf (n : Nat) (ms : List Int) : List (Int × Str) := List.replicate n (-1, dd) ++ ms.map nameOf
theorem charAt_ne {T : Str} (h : 47 ∉ L T) (j : Int) : (Txt.charAt T j).getD 0 ≠ 47 := by
  unfold Txt.charAt
  cases hs : seqIndex? j T.length with
  | none => simp
  | some i =>
    simp only [Option.bind_some]
    cases h2 : T.cps[i]? with
    | none => simp
    | some c =>
      simp only [Option.getD_some]
      intro e
      apply h
      subst e
      exact Array.mem_toList_iff.mpr (Array.mem_of_getElem? h2)
theorem signs_free (m : Int) : 47 ∉ L (signsF m) := by
  have h0 : 47 ∉ L (Str.ofString "?pc?d?b?-?l?s???") := by unfold L; decide +kernel
  have h1 : 47 ∉ L (Str.ofString "-r") := by unfold L; decide +kernel
  have h2 : 47 ∉ L (Str.ofString "-w") := by unfold L; decide +kernel
  have h3 : 47 ∉ L (Str.ofString "-xSs") := by unfold L; decide +kernel
  have h4 : 47 ∉ L (Str.ofString "-xTt") := by unfold L; decide +kernel
  rw [signs_L]
  intro h
  simp only [List.mem_cons, List.not_mem_nil, or_false] at h
  rcases h with h | h | h | h | h | h | h | h | h | h <;> exact absurd h.symm (charAt_ne (by assumption) _)
theorem signs_10 (m : Int) : (signsF m).length = 10 := by rw [L_len, signs_L]; rfl
theorem free_start {x : Str} (h : 47 ∉ L x) : (L x).take 1 ≠ [47] := fun e => by
  obtain ⟨r, e⟩ := take1.mp e
  exact h (by rw [e]; exact .head _)
theorem ne_len {x y : Str} (h : x.length ≠ y.length) : (x == y) = false := by
  rw [beq_eq_false_iff_ne]
  intro e; exact h (by rw [e])
theorem stepN_name (R : Str) (cs : List Str) (m : Int) : stepN R cs (signsF m) = cs ++ [signsF m] := by
  have h := signs_10 m
  refine step_add (by rw [h]; decide) (ne_len (by rw [h]; decide +kernel)) (.inl ?_)
  rw [bne_iff_ne]
  intro e
  rw [e] at h
  exact absurd h (by decide +kernel)
theorem sp_name (m : Int) : sp (signsF m) = [signsF m] := sp_one (signs_free m)
theorem sp_dd : sp dd = [dd] := sp_one (by rw [L_dd]; decide)
theorem sp_dot : sp (Str.ofString ".") = [Str.ofString "."] := sp_one (by rw [L_dot]; decide)
theorem stepN_dot (R : Str) (cs : List Str) : stepN R cs (Str.ofString ".") = cs := step_dot (by decide +kernel)
theorem rowOf_snoc (n : Nat) (ms : List Int) (m : Int) : rowOf n (ms ++ [m]) = rowOf n ms ++ [nameOf m] := by unfold rowOf; simp
theorem rowOf_dd (n : Nat) : rowOf (n + 1) [] = rowOf n [] ++ [(-1, dd)] := by unfold rowOf; simp [List.replicate_succ']
noncomputable def txts (n : Nat) (ms : List Int) : List Str := (rowOf n ms).map (·.2)
theorem txts_snoc (n : Nat) (ms : List Int) (m : Int) : txts n (ms ++ [m]) = txts n ms ++ [signsF m] := by unfold txts; rw [rowOf_snoc, List.map_append]; rfl
theorem txts_dd (n : Nat) : txts (n + 1) [] = txts n [] ++ [dd] := by unfold txts; rw [rowOf_dd, List.map_append]; rfl
/-- two dots take the last name off, or stay -/
theorem up_law {root : Str} {n : Nat} {ms : List Int} (hr : root ≠ Str.ofString "" → n = 0) (hg : ∀ m ∈ ms, Good m) :
    ∃ n' ms', upF root (rowOf n ms) = rowOf n' ms' ∧ stepN root (txts n ms) dd = txts n' ms' ∧ (root ≠ Str.ofString "" → n' = 0) ∧ (∀ m ∈ ms', Good m) ∧ n' ≤ n + 1 ∧ ms'.length ≤ ms.length := by
  have h0 : (dd.length : Int) ≠ 0 := by decide +kernel
  have h1 : (dd == Str.ofString ".") = false := by decide +kernel
  have h2 : (dd != Str.ofString "..") = false := by decide +kernel
  rcases snoc_cases ms with rfl | ⟨ms', m, rfl⟩
  · cases n with
    | zero =>
      by_cases h : root = Str.ofString ""
      · subst h
        refine ⟨1, [], ?_, ?_, fun q => absurd rfl q, fun m h => (nomatch h), by omega, by simp⟩
        · show (if (Str.ofString "" == Str.ofString "") = true then [] ++ [(-1, Str.ofString "..")] else []) = _
          rw [if_pos (beq_self_eq_true _)]; rfl
        · exact step_add h0 h1 (.inr (.inl ⟨by decide +kernel, rfl⟩))
      · refine ⟨0, [], ?_, ?_, fun _ => rfl, fun m h => (nomatch h), by omega, by simp⟩
        · have hb : ¬ (root == Str.ofString "") = true := by rw [beq_iff_eq]; exact h
          show (if (root == Str.ofString "") = true then [] ++ [(-1, Str.ofString "..")] else []) = _
          rw [if_neg hb]; rfl
        · exact step_up h0 h1 h2 (fun q => h (L_nil (len_zero.mp q.1))) (by simp [txts, rowOf])
    | succ k =>
      have h : root = Str.ofString "" := Decidable.byContradiction fun q => absurd (hr q) (by omega)
      subst h
      refine ⟨k + 2, [], ?_, ?_, fun q => absurd rfl q, fun m h => (nomatch h), by omega, by simp⟩
      · rw [rowOf_dd, up_last, if_neg (by decide), if_pos (beq_self_eq_true _), rowOf_dd (k + 1), rowOf_dd k]; rfl
      · rw [txts_dd (k + 1)]
        exact step_add h0 h1 (.inr (.inr (by rw [txts_dd, List.getLast?_concat]; rfl)))
  · have hm := (hg m (by simp)).1
    refine ⟨n, ms', ?_, ?_, hr, fun u hu => hg u (by simp [hu]), by omega, by simp⟩
    · rw [rowOf_snoc, up_last, if_pos (show 0 ≤ (nameOf m).fst from hm), List.dropLast_concat]
    · rw [txts_snoc, step_up h0 h1 h2 (fun q => absurd q.2 (by simp)) (by
        rw [List.getLast?_concat]
        intro e
        have := congrArg Str.length (Option.some.inj e)
        rw [signs_10] at this
        exact absurd this (by decide +kernel)), List.dropLast_concat]

-- 55_text
theorem L_tjoin (ts : List Str) : L (Txt.join (Str.ofString "/") ts) = lj (ts.map L) := by
  rw [show Txt.join (Str.ofString "/") ts = Str.join (Str.ofString "/") ts from StrLaws.glued_eq_join _ _, sl_eq, L_join]
theorem L_text (root : Str) (row : List (Int × Str)) : L (textF root row) = L root ++ lj ((row.map (·.2)).map L) := by unfold textF; rw [L_app, L_tjoin]
noncomputable def jn (root : Str) (ts : List Str) : Str := root ++ Txt.join (Str.ofString "/") ts
theorem L_jn (root : Str) (ts : List Str) : L (jn root ts) = L root ++ lj (ts.map L) := by unfold jn; rw [L_app, L_tjoin]
theorem text_jn (root : Str) (n : Nat) (ms : List Int) : textF root (rowOf n ms) = jn root (txts n ms) := rfl
theorem L_snoc (root : Str) {ts : List Str} (t : Str) (h : ts ≠ []) : L (jn root (ts ++ [t])) = (L root ++ lj (ts.map L)) ++ 47 :: L t := by
  rw [L_jn, List.map_append, lj_app (by simpa using h) (by simp)]
  simp [lj]
theorem L_one (root t : Str) : L (jn root ([] ++ [t])) = L root ++ L t := by rw [L_jn]; rfl
theorem base_text {root : Str} {k : Nat} (hr : L root = List.replicate k 47) (ts : List Str) {t : Str} (ht : 47 ∉ L t) : baseF (jn root (ts ++ [t])) = t := by
  by_cases h : ts = []
  · subst h
    have e := L_one root t
    rw [hr] at e
    cases k with
    | zero =>
      have e2 : jn root ([] ++ [t]) = t := L_ext (by rw [e]; rfl)
      rw [e2]; exact base_none ht
    | succ k =>
      refine L_ext (base_some (u := List.replicate k 47) ?_ ht)
      rw [e, List.replicate_succ']; simp
  · exact L_ext (base_some (L_snoc root t h) ht)
theorem lj_last : ∀ {a : List (List Nat)}, a ≠ [] → (∀ x ∈ a, x ≠ [] ∧ 47 ∉ x) → ∃ w c, lj a = w ++ [c] ∧ c ≠ 47
  | [], h, _ => absurd rfl h
  | [x], _, h => by
    obtain ⟨h1, h2⟩ := h x (.head _)
    rcases snoc_cases x with e | ⟨w, c, e⟩
    · exact absurd e h1
    · exact ⟨w, c, e, fun q => h2 (by rw [e, q]; simp)⟩
  | x :: y :: r, _, h => by
    obtain ⟨w, c, e, hc⟩ := lj_last (a := y :: r) (by simp) fun u hu => h u (.tail _ hu)
    exact ⟨x ++ 47 :: w, c, by show x ++ 47 :: lj (y :: r) = _; rw [e]; simp, hc⟩
theorem head_text {root : Str} {k : Nat} (hr : L root = List.replicate k 47) {ts : List Str} (hts : ∀ t ∈ ts, L t ≠ [] ∧ 47 ∉ L t) {t : Str} (ht : 47 ∉ L t) : headF (jn root (ts ++ [t])) = jn root ts := by
  by_cases h : ts = []
  · subst h
    have e := L_one root t
    have e0 : L (jn root []) = L root := by rw [L_jn]; simp [lj]
    cases k with
    | zero =>
      refine L_ext ?_
      rw [head_none (by rw [e, hr]; exact ht), e0, hr]; rfl
    | succ k =>
      refine L_ext ?_
      rw [head_root (n := k) (by rw [e, hr, List.replicate_succ']; simp) ht, e0, hr]
  · obtain ⟨w, c, e, hc⟩ := lj_last (a := ts.map L) (by simpa using h) (fun u hu => by obtain ⟨t, ht, rfl⟩ := List.mem_map.mp hu; exact hts t ht)
    refine L_ext ?_
    have e1 := L_snoc root t h
    rw [e] at e1
    rw [L_jn, e, head_strip (w := L root ++ w) (by rw [e1]; simp) ht hc]
    simp
theorem base_root {root : Str} {k : Nat} (hr : L root = List.replicate k 47) : L (baseF root) = [] := by
  cases k with
  | zero => rw [base_none (by rw [hr]; simp), hr]; rfl
  | succ k => exact base_some (u := List.replicate k 47) (by rw [hr, List.replicate_succ']) (by simp)
theorem root_rep (x : Str) : ∃ k, k ≤ 2 ∧ L (rootF x) = List.replicate k 47 := ⟨_, by unfold rootN; split <;> (try split) <;> omega, (root_rest x).1⟩
theorem txts_ok {n : Nat} {ms : List Int} : ∀ t ∈ txts n ms, L t ≠ [] ∧ 47 ∉ L t := by
  intro t ht
  obtain ⟨e, he, rfl⟩ := List.mem_map.mp ht
  unfold rowOf at he
  rcases List.mem_append.mp he with he | he
  · rw [List.eq_of_mem_replicate he]
    exact ⟨by rw [L_dd]; simp, by rw [L_dd]; simp⟩
  · obtain ⟨m, _, rfl⟩ := List.mem_map.mp he
    refine ⟨fun q => ?_, signs_free m⟩
    have := signs_10 m
    rw [L_len] at this
    rw [show L (signsF m) = [] from q] at this
    exact absurd this (by decide)
noncomputable def Inv (x root : Str) (n : Nat) (ms : List Int) : Prop := rootF x = root ∧ partsF x = txts n ms ∧ (root ≠ Str.ofString "" → n = 0) ∧ ∀ m ∈ ms, Good m
theorem norm_text {x root : Str} {n : Nat} {ms : List Int} (h : Inv x root n ms) : normF x = dotF (textF root (rowOf n ms)) := by
  have e : bodyF x = textF root (rowOf n ms) := by unfold bodyF; rw [h.1, h.2.1]; rfl
  unfold normF dotF
  by_cases h0 : (x.length : Int) = 0
  · rw [if_pos h0]
    have h1 := L_nil (len_zero.mp h0)
    have h2 : textF root (rowOf n ms) = Str.ofString "" := by rw [← e, h1]; decide +kernel
    rw [h2]; decide +kernel
  · rw [if_neg h0, ← e]
    by_cases h1 : ((bodyF x).length : Int) = 0
    · rw [if_pos h1, L_nil (len_zero.mp h1)]; decide +kernel
    · rw [if_neg h1, if_pos]
      rw [bne_iff_ne]
      intro q
      exact h1 (by rw [q]; decide +kernel)
theorem dot_ne {t : Str} (h : L t ≠ []) : dotF t = t := by
  unfold dotF
  rw [if_pos]
  rw [bne_iff_ne]
  intro q
  exact h (by rw [q, L_empty])
theorem xor_0 (d : Int) : Builtin.bitXor (d % 4096) (Builtin.bitAnd 0 4095) = d % 4096 := by
  rw [and_low (by decide)]
  exact bitXor_zero _
theorem now_law {x root : Str} {n : Nat} {ms : List Int} {d : Int} (h : Inv x root n ms) (hd : 0 ≤ d) : Builtin.bitXor (Builtin.bitAnd d 4095) (Builtin.bitAnd (nowF x) 4095) = rightsF (rowOf n ms) d := by
  obtain ⟨k, -, hk⟩ := root_rep x
  rw [h.1] at hk
  have en := norm_text h
  rw [and_low hd]
  rcases snoc_cases ms with rfl | ⟨ms', m, rfl⟩
  · have e0 : rightsF (rowOf n []) d = d % 4096 := by
      cases n with
      | zero => show d.fmod 4096 = _; exact fmod_eq d
      | succ n => rw [rowOf_dd, ← rights_n (e := (-1, dd)) (by decide)]; exact fmod_eq d
    have e1 : nowF x = 0 := by
      unfold nowF
      rw [if_neg]
      rw [en, text_jn]
      cases n with
      | zero =>
        have e2 : jn root (txts 0 []) = root := L_ext (by rw [L_jn]; simp [txts, rowOf, lj])
        rw [e2]
        by_cases hz : L root = []
        · rw [L_nil hz]; decide +kernel
        · rw [dot_ne hz, L_len, base_root hk]; decide
      | succ n =>
        rw [txts_dd, dot_ne, base_text hk _ (by rw [L_dd]; decide)]
        · decide +kernel
        · rw [L_jn, List.map_append]
          intro q
          have := (List.append_eq_nil_iff.mp q).2
          obtain ⟨w, c, e, _⟩ := lj_last (a := (txts n []).map L ++ [dd].map L) (by simp) (fun u hu => by
            rw [← List.map_append, ← txts_dd] at hu
            obtain ⟨t, ht, rfl⟩ := List.mem_map.mp hu
            exact txts_ok t ht)
          rw [e] at this
          simp at this
    rw [e0, e1, xor_0]
  · have hg := h.2.2.2 m (by simp)
    have e1 : nowF x = m := by
      unfold nowF
      have hb : baseF (normF x) = signsF m := by
        rw [en, text_jn, txts_snoc, dot_ne, base_text hk _ (signs_free m)]
        rw [L_jn, List.map_append]
        intro q
        have := (List.append_eq_nil_iff.mp q).2
        obtain ⟨w, c, e, _⟩ := lj_last (a := (txts n ms').map L ++ [signsF m].map L) (by simp) (fun u hu => by
          rw [← List.map_append, ← txts_snoc] at hu
          obtain ⟨t, ht, rfl⟩ := List.mem_map.mp hu
          exact txts_ok t ht)
        rw [e] at this
        simp at this
      rw [hb, if_pos (by rw [signs_10]; rfl), read_signs hg.1 hg.2.1 hg.2.2]
    rw [e1, and_low hg.1, rowOf_snoc, ← rights_x (e := nameOf m) hg.1, fmod_eq, fmod_eq]
    rfl

-- 56_law
theorem foldN_1 (R : Str) (cs : List Str) (b : Str) : foldN R cs [b] = stepN R cs b := rfl
noncomputable def Rel (x R : Str) (cs : List Str) : Prop := rootF x = R ∧ partsF x = cs
theorem rel_piece {x R b : Str} {cs : List Str} (h : Rel x R cs) (hb : (L b).take 1 ≠ [47]) : Rel (pieceF x b) R (foldN R cs (sp b)) := by
  obtain ⟨h1, h2⟩ := piece_rel (x := x) hb
  rw [h.1] at h1 h2
  rw [h.2] at h2
  exact ⟨h1, h2⟩
theorem rel_name {x R : Str} {cs : List Str} (m : Int) (h : Rel x R cs) : Rel (pieceF x (signsF m)) R (cs ++ [signsF m]) := by
  have q := rel_piece h (free_start (signs_free m))
  rw [sp_name, foldN_1, stepN_name] at q
  exact q
theorem rel_dot {x R : Str} {cs : List Str} (h : Rel x R cs) : Rel (pieceF x (Str.ofString ".")) R cs := by
  have q := rel_piece h (b := Str.ofString ".") (free_start (by rw [L_dot]; decide))
  rw [sp_dot, foldN_1, stepN_dot] at q
  exact q
theorem rel_dd {x R : Str} {cs : List Str} (h : Rel x R cs) : Rel (pieceF x dd) R (stepN R cs dd) := by
  have q := rel_piece h (b := dd) (free_start (by rw [L_dd]; decide))
  rw [sp_dd, foldN_1] at q
  exact q
theorem rel_nil {x R : Str} {cs : List Str} (h : Rel x R cs) : Rel (pieceF x (Str.ofString "")) R cs := by
  have q := rel_piece h (b := Str.ofString "") (free_start (by rw [L_empty]; simp))
  rw [sp_nil L_empty, foldN_e] at q
  exact q
theorem L_sls : L (Str.ofString "//") = [47, 47] := by rw [show Str.ofString "//" = ⟨#[47, 47]⟩ by decide +kernel]; rfl
theorem rel_twice {x R : Str} {cs : List Str} (m : Int) (h : Rel x R cs) : Rel (pieceF x (signsF m ++ Str.ofString "//" ++ signsF m)) R (cs ++ [signsF m, signsF m]) := by
  have hL : L (signsF m ++ Str.ofString "//" ++ signsF m) = L (signsF m) ++ 47 :: L (sl ++ signsF m) := by
    rw [L_app, L_app, L_app, L_sls, L_sl]; simp
  have hs : sp (signsF m ++ Str.ofString "//" ++ signsF m) = [signsF m] ++ ([Str.ofString ""] ++ [signsF m]) := by
    rw [sp_cat hL, sp_name, sp_cat (x := Str.ofString "") (y := signsF m) (by rw [L_app, L_sl, L_empty]; rfl), sp_nil L_empty, sp_name]
  have q := rel_piece h (b := signsF m ++ Str.ofString "//" ++ signsF m) (by
    rw [hL, signs_L]
    intro e
    have := signs_free m
    rw [signs_L] at this
    simp only [List.cons_append, List.take_succ_cons, List.take_zero, List.cons.injEq, and_true] at e
    exact this (by rw [e]; exact .head _))
  rw [hs, foldN_app, foldN_app, foldN_e] at q
  have e : foldN R (foldN R cs [signsF m]) [signsF m] = cs ++ [signsF m, signsF m] := by
    rw [foldN_1, foldN_1, stepN_name, stepN_name]; simp
  rw [← e]; exact q
/-- a piece that begins with slashes is the whole path -/
theorem rel_abs (x : Str) (m : Int) {r : Int} (h0 : 0 ≤ r) (h1 : r < 3) : Rel (pieceF x (Txt.mul (Str.ofString "/") (1 + r) ++ signsF m)) (if r = 1 then Str.ofString "//" else Str.ofString "/") [signsF m] := by
  have hne := signs_free m
  obtain ⟨a, t, ht⟩ : ∃ a t, L (signsF m) = a :: t := ⟨_, _, signs_L m⟩
  have ha : a ≠ 47 := fun e => hne (by rw [ht, e]; exact .head _)
  have hL : L (Txt.mul (Str.ofString "/") (1 + r) ++ signsF m) = List.replicate (r.toNat + 1) 47 ++ L (signsF m) := by
    rw [L_app, show 1 + r = ((r.toNat + 1 : Nat) : Int) by omega, mul_sl]
  have hp : pieceF x (Txt.mul (Str.ofString "/") (1 + r) ++ signsF m) = Txt.mul (Str.ofString "/") (1 + r) ++ signsF m := by
    unfold pieceF
    rw [if_pos (.inl (starts_sl.mpr (by rw [hL, List.replicate_succ]; rfl)))]
  rw [hp]
  generalize Txt.mul (Str.ofString "/") (1 + r) ++ signsF m = b at hL
  obtain ⟨g1, g2, -⟩ := root_rest b
  have step1 : ∀ R, foldN R [] [signsF m] = [signsF m] := fun R => by
    rw [foldN_1, stepN_name]; rfl
  rcases (show r = 0 ∨ r = 1 ∨ r = 2 by omega) with rfl | rfl | rfl
  · have hn : rootN (L b) = 1 := by rw [hL, ht]; simp [rootN, ha]
    rw [hn] at g1 g2
    have hr : rootF b = Str.ofString "/" := L_ext (by rw [g1, sl_eq]; rfl)
    refine ⟨by rw [hr]; rfl, ?_⟩
    have e2 : restF b = signsF m := L_ext (by rw [g2, hL]; rfl)
    rw [parts_eq, e2, sp_name, step1]
  · have hn : rootN (L b) = 2 := by rw [hL, ht]; simp [rootN, ha]
    rw [hn] at g1 g2
    have hr : rootF b = Str.ofString "//" := L_ext (by rw [g1, L_sls]; rfl)
    refine ⟨by rw [hr]; rfl, ?_⟩
    have e2 : restF b = signsF m := L_ext (by rw [g2, hL]; rfl)
    rw [parts_eq, e2, sp_name, step1]
  · have hn : rootN (L b) = 1 := by rw [hL, ht]; simp [rootN]
    rw [hn] at g1 g2
    have hr : rootF b = Str.ofString "/" := L_ext (by rw [g1, sl_eq]; rfl)
    refine ⟨by rw [hr]; rfl, ?_⟩
    have e3 : L (restF b) = L (Str.ofString "") ++ 47 :: L (sl ++ signsF m) := by rw [g2, hL, L_app, L_sl, L_empty]; rfl
    rw [parts_eq, sp_cat e3, sp_nil L_empty, sp_cat (x := Str.ofString "") (y := signsF m) (by rw [L_app, L_sl, L_empty]; rfl), sp_nil L_empty, sp_name, foldN_app, foldN_app, foldN_e, foldN_e, step1]
theorem mode_law {x root : Str} {n : Nat} {ms : List Int} {d : Int} (h : Inv x root n ms) (hd : 0 ≤ d) (hd1 : d < 65536) : modeF x d = 4096 * (d / 4096) + rightsF (rowOf n ms) d := by
  have hr := rights_lt (rowOf n ms) d
  unfold modeF
  rw [now_law h hd, and_high hd hd1, or_mode (by omega) hr.1 hr.2]
theorem name_c : signsF 8192 = Str.ofString "c---------" := by decide +kernel

-- 57_step
noncomputable def Out (x root : Str) (n : Nat) (ms : List Int) (st : Str × List (Int × Str)) (x' : Str) : Prop := ∃ root' n' ms', st = (root', rowOf n' ms') ∧ Inv x' root' n' ms' ∧ n' ≤ n + 2 ∧ ms'.length ≤ ms.length + 2
theorem inv_of {x root : Str} {n : Nat} {ms : List Int} (h : Rel x root (txts n ms)) (hr : root ≠ Str.ofString "" → n = 0) (hg : ∀ m ∈ ms, Good m) : Inv x root n ms := ⟨h.1, h.2, hr, hg⟩
theorem good_add {ms : List Int} {m : Int} (hg : ∀ m ∈ ms, Good m) (hm : Good m) : ∀ u ∈ ms ++ [m], Good u := fun u hu => (List.mem_append.mp hu).elim (hg u) fun h => by rw [List.mem_singleton.mp h]; exact hm
theorem row_add (n : Nat) (ms : List Int) (m : Int) : rowOf n ms ++ [fmNew (m / 4096) (m % 4096)] = rowOf n (ms ++ [m]) := by
  have e : 4096 * (m / 4096) + m % 4096 = m := by omega
  rw [rowOf_snoc, fmNew, e]; rfl
theorem row_add2 (n : Nat) (ms : List Int) (m : Int) : rowOf n ms ++ [fmNew (m / 4096) (m % 4096), fmNew (m / 4096) (m % 4096)] = rowOf n (ms ++ [m] ++ [m]) := by
  have e : 4096 * (m / 4096) + m % 4096 = m := by omega
  rw [rowOf_snoc, rowOf_snoc, fmNew, e]; simp [nameOf]
theorem jn1 (x a : Str) : joinF x [a] = pieceF x a := rfl
theorem jn2 (x a b : Str) : joinF x [a, b] = pieceF (pieceF x a) b := rfl
theorem jn3 (x a b c : Str) : joinF x [a, b, c] = pieceF (pieceF (pieceF x a) b) c := rfl
theorem dd_eq : Str.ofString ".." = dd := rfl
theorem len_1 {l ms : List Int} {u : Int} (h : l.length ≤ ms.length) : (l ++ [u]).length ≤ ms.length + 2 := by rw [List.length_append, List.length_singleton]; omega
theorem len_2 {l ms : List Int} {u v : Int} (h : l.length ≤ ms.length) : (l ++ [u] ++ [v]).length ≤ ms.length + 2 := by rw [List.length_append, List.length_append, List.length_singleton, List.length_singleton]; omega
theorem fst_0 {md kd rg : Int} (hr0 : 0 ≤ rg) (hr1 : rg < 4096) (h : 4096 * kd + rg = md) (hk : 0 ≤ kd ∧ kd < 16) : md / 4096 = kd ∧ md % 4096 = rg ∧ 0 ≤ md ∧ md < 65536 ∧ rg / 4096 = 0 ∧ rg < 65536 := by omega
theorem kd_lt {d : Int} (hd : 0 ≤ d) (hd1 : d < 65536) : 0 ≤ d / 4096 ∧ d / 4096 < 16 := by omega
theorem step_law {x root : Str} {n : Nat} {ms : List Int} {d : Int} (h : Inv x root n ms) (hd : 0 ≤ d) (hd1 : d < 65536) : Out x root n ms (toldF root (rowOf n ms) d) (stepF x d) ∧ (d / 4096 = 2 → ∃ ms', toldF root (rowOf n ms) d = (root, rowOf n ms') ∧ ms' ≠ []) := by
  have hmd := mode_law h hd hd1
  obtain ⟨hr0, hr1⟩ := rights_lt (rowOf n ms) d
  have hfd : d.fdiv 4096 = d / 4096 := fdiv_eq d
  have hk0 := kd_lt hd hd1
  clear hd hd1
  generalize hrg : rightsF (rowOf n ms) d = rg at hmd hr0 hr1
  generalize d / 4096 = kd at hmd hfd hk0
  generalize hm : 4096 * kd + rg = md at hmd
  obtain ⟨e1, e2, hm0, hm1, er0, er1⟩ := fst_0 hr0 hr1 hm hk0
  have hf := fm_signs hm0 hm1
  have hfr := fm_signs hr0 er1
  have hrg2 : Good rg := ⟨hr0, er1, .inl er0⟩
  have ha : Builtin.bitAnd md 61440 = 4096 * kd := by rw [and_high hm0 hm1, e1]
  have hl : Builtin.bitAnd md 4095 = rg := by rw [and_low hm0, e2]
  have hnew : fmNew kd rg = fmNew (md / 4096) (md % 4096) := by rw [e1, e2]
  have hgood : goodK kd → Good md := fun q => ⟨hm0, hm1, by rw [e1]; exact q⟩
  obtain ⟨h1, h2, h3, h4⟩ := h
  have hR : Rel x root (txts n ms) := ⟨h1, h2⟩
  obtain ⟨n', ms', u1, u2, u3, u4, u5, u6⟩ := up_law (root := root) (n := n) (ms := ms) h3 h4
  obtain ⟨n2, ms2, v1, v2, v3, v4, v5, v6⟩ := up_law (root := root) (n := n') (ms := ms') u3 u4
  have w5 : n' ≤ n + 2 := Nat.le_trans u5 (Nat.le_succ _)
  have w6 : n2 ≤ n + 2 := Nat.le_trans v5 (Nat.succ_le_succ u5)
  have w7 : ms2.length ≤ ms.length := Nat.le_trans v6 u6
  have hU : Rel (pieceF x dd) root (txts n' ms') := by rw [← u2]; exact rel_dd hR
  have hU2 : Rel (pieceF (pieceF x dd) dd) root (txts n2 ms2) := by rw [← v2]; exact rel_dd hU
  have add : ∀ {y R : Str} {k : Nat} {l : List Int}, Rel y R (txts k l) → Rel (pieceF y (signsF md)) R (txts k (l ++ [md])) := fun q => by rw [txts_snoc]; exact rel_name md q
  have other : kd ≠ 1 → kd ≠ 2 → kd ≠ 4 → kd ≠ 6 → kd ≠ 8 → kd ≠ 10 → kd ≠ 12 → (4096 * kd ≠ 4096 ∧ 4096 * kd ≠ 8192 ∧ 4096 * kd ≠ 16384 ∧ 4096 * kd ≠ 24576 ∧ 4096 * kd ≠ 32768 ∧ 4096 * kd ≠ 40960 ∧ 4096 * kd ≠ 49152) →
      Out x root n ms (toldF root (rowOf n ms) d) (stepF x d) ∧ (kd = 2 → ∃ ms', toldF root (rowOf n ms) d = (root, rowOf n ms') ∧ ms' ≠ []) := fun a b c e f g i z => by
    refine ⟨⟨root, n', ms', ?_, ?_, w5, Nat.le_trans u6 (Nat.le_add_right _ _)⟩, fun q => absurd q b⟩
    · rw [told_0 hfd hrg e c a b f i g, u1]
    · rw [← lay_7 hmd (by rw [ha]; exact z), jn1, dd_eq]
      exact inv_of hU u3 u4
  clear hm e1 e2 hm0 hm1 er0 er1
  rcases kind_16 hk0.1 hk0.2 with rfl | rfl | rfl | rfl | rfl | rfl | rfl | rfl | rfl | rfl | rfl | rfl | rfl | rfl | rfl | rfl
  · exact other (by decide) (by decide) (by decide) (by decide) (by decide) (by decide) (by decide) (by decide)
  · refine ⟨⟨root, n, ms ++ [md] ++ [md], ?_, ?_, Nat.le_add_right _ _, len_2 (Nat.le_refl _)⟩, fun z => absurd z (by decide)⟩
    · rw [told_1 hfd hrg rfl, hnew, row_add2]
    · rw [← lay_0 hmd (ha.trans (by decide)), hf, jn3]
      exact inv_of (add (rel_dot (add hR))) h3 (good_add (good_add h4 (hgood (by simp [goodK]))) (hgood (by simp [goodK])))
  · have hc : Good 8192 := ⟨by decide, by decide, .inr (.inr (.inl (by decide)))⟩
    have et : toldF root (rowOf n ms) d = (root, rowOf n (ms ++ [8192] ++ [rg])) := by
      rw [told_2 hfd hrg rfl, rowOf_snoc, rowOf_snoc, nameOf, nameOf, name_c, List.append_assoc]; rfl
    refine ⟨⟨root, n, ms ++ [8192] ++ [rg], et, ?_, Nat.le_add_right _ _, len_2 (Nat.le_refl _)⟩, fun _ => ⟨_, et, by simp⟩⟩
    rw [← lay_1 hmd (ha.trans (by decide)), ha, hl, hfr, show (4096 : Int) * 2 = 8192 by decide, fm_signs (m := 8192) (by decide) (by decide), jn2]
    refine inv_of ?_ h3 (good_add (good_add h4 hc) hrg2)
    rw [txts_snoc, txts_snoc]
    exact rel_name rg (rel_name 8192 hR)
  · exact other (by decide) (by decide) (by decide) (by decide) (by decide) (by decide) (by decide) (by decide)
  · refine ⟨⟨root, n, ms ++ [md], ?_, ?_, Nat.le_add_right _ _, len_1 (Nat.le_refl _)⟩, fun z => absurd z (by decide)⟩
    · rw [told_4 hfd hrg rfl, hnew, row_add]
    · rw [← lay_2 hmd (ha.trans (by decide)), hf, jn1]
      exact inv_of (add hR) h3 (good_add h4 (hgood (by simp [goodK])))
  · exact other (by decide) (by decide) (by decide) (by decide) (by decide) (by decide) (by decide) (by decide)
  · have h3r := fmod3 rg
    have hA := rel_abs x md h3r.1 h3r.2
    have hg : ∀ u ∈ [md], Good u := fun u hu => by rw [List.mem_singleton.mp hu]; exact hgood (by simp [goodK])
    have er : [fmNew 6 rg] = rowOf 0 [md] := by rw [hnew]; exact row_add 0 [] md
    refine ⟨⟨if rg.fmod 3 = 1 then Str.ofString "//" else Str.ofString "/", 0, [md], ?_, ?_, Nat.zero_le _, by rw [List.length_singleton]; omega⟩, fun z => absurd z (by decide)⟩
    · rcases (show rg.fmod 3 = 0 ∨ rg.fmod 3 = 1 ∨ rg.fmod 3 = 2 by omega) with z | z | z
      · rw [told_6a hfd hrg rfl z, er, z]; rfl
      · rw [told_6b hfd hrg rfl z, er, z]; rfl
      · rw [told_6c hfd hrg rfl z, er, z]; rfl
    · rw [← lay_3 hmd (ha.trans (by decide)), hf, hl, jn1]
      exact inv_of hA (fun _ => rfl) hg
  · exact other (by decide) (by decide) (by decide) (by decide) (by decide) (by decide) (by decide) (by decide)
  · refine ⟨⟨root, n', ms' ++ [md], ?_, ?_, w5, len_1 u6⟩, fun z => absurd z (by decide)⟩
    · rw [told_8 hfd hrg rfl, u1, hnew, row_add]
    · rw [← lay_4 hmd (ha.trans (by decide)), hf, jn2, dd_eq]
      exact inv_of (add hU) u3 (good_add u4 (hgood (by simp [goodK])))
  · exact other (by decide) (by decide) (by decide) (by decide) (by decide) (by decide) (by decide) (by decide)
  · refine ⟨⟨root, n2, ms2 ++ [md], ?_, ?_, w6, len_1 w7⟩, fun z => absurd z (by decide)⟩
    · rw [told_10 hfd hrg rfl, u1, v1, hnew, row_add]
    · rw [← lay_5 hmd (ha.trans (by decide)), hf, jn3, dd_eq]
      exact inv_of (add hU2) v3 (good_add v4 (hgood (by simp [goodK])))
  · exact other (by decide) (by decide) (by decide) (by decide) (by decide) (by decide) (by decide) (by decide)
  · refine ⟨⟨root, n', ms' ++ [md] ++ [md], ?_, ?_, w5, len_2 u6⟩, fun z => absurd z (by decide)⟩
    · rw [told_12 hfd hrg rfl, u1, hnew, row_add2]
    · rw [← lay_6 hmd (ha.trans (by decide)), hf, jn3, dd_eq]
      refine inv_of ?_ u3 (good_add (good_add u4 (hgood (by simp [goodK]))) (hgood (by simp [goodK])))
      have q2 := rel_nil (rel_twice md hU)
      rw [txts_snoc, txts_snoc, List.append_assoc]
      exact q2
  · exact other (by decide) (by decide) (by decide) (by decide) (by decide) (by decide) (by decide) (by decide)
  · exact other (by decide) (by decide) (by decide) (by decide) (by decide) (by decide) (by decide) (by decide)
  · exact other (by decide) (by decide) (by decide) (by decide) (by decide) (by decide) (by decide) (by decide)

-- 58_plain
noncomputable def Zip {α β : Type} (R : α → β → Prop) : List α → List β → Prop
  | [], [] => True
  | a :: as, b :: bs => R a b ∧ Zip R as bs
  | _, _ => False
theorem Zip.snoc {α β : Type} {R : α → β → Prop} : ∀ {as : List α} {bs : List β} {a : α} {b : β}, Zip R (as ++ [a]) (bs ++ [b]) → R a b
  | [], [], _, _, h => h.1
  | _ :: _, _ :: _, _, _, h => Zip.snoc h.2
  | [], [_], _, _, h => h.2.elim
  | [], _ :: _ :: _, _, _, h => h.2.elim
  | [_], [], _, _, h => h.2.elim
  | _ :: _ :: _, [], _, _, h => h.2.elim
theorem Zip.of_right {α β : Type} {R : α → β → Prop} : ∀ {as : List α} {bs : List β}, Zip R as bs → ∀ b ∈ bs, ∃ a, R a b
  | a :: _, b :: _, h, c, hc => by
    rcases List.mem_cons.mp hc with rfl | hc
    · exact ⟨a, h.1⟩
    · exact Zip.of_right h.2 c hc
  | [], [], _, _, h => nomatch h
  | [], _ :: _, h, _, _ => h.elim
theorem Zip.map_eq {α β γ : Type} {R : α → β → Prop} {f : α → γ} {g : β → γ} (h : ∀ a b, R a b → f a = g b) : ∀ {as : List α} {bs : List β}, Zip R as bs → as.map f = bs.map g
  | [], [], _ => rfl
  | _ :: _, _ :: _, z => by rw [List.map_cons, List.map_cons, h _ _ z.1, Zip.map_eq h z.2]
  | [], _ :: _, z => z.elim
  | _ :: _, [], z => z.elim
noncomputable def InvB (B : Nat) (p : Str) (s : Str × List (Int × Str)) : Prop := ∃ root n ms, s = (root, rowOf n ms) ∧ Inv p root n ms ∧ n ≤ B ∧ ms.length ≤ B
theorem InvB.mono {B B' : Nat} (h : B ≤ B') {p : Str} {s : Str × List (Int × Str)} : InvB B p s → InvB B' p s := fun ⟨r, n, ms, a, b, c, d⟩ => ⟨r, n, ms, a, b, Nat.le_trans c h, Nat.le_trans d h⟩
theorem Zip.mono {α β : Type} {R R' : α → β → Prop} (h : ∀ a b, R a b → R' a b) : ∀ {as : List α} {bs : List β}, Zip R as bs → Zip R' as bs
  | [], [], _ => trivial
  | _ :: _, _ :: _, z => ⟨h _ _ z.1, Zip.mono h z.2⟩
  | [], _ :: _, z => z.elim
  | _ :: _, [], z => z.elim
theorem walk_law : ∀ (l : List Int) {B : Nat} {p : Str} {s : Str × List (Int × Str)}, InvB B p s → Zip (InvB (B + 2 * l.length)) (pathsF p l) (statesF s l)
  | [], _, _, _, h => ⟨h, trivial⟩
  | a :: r, B, p, s, h => by
    refine ⟨h.mono (Nat.le_add_right _ _), ?_⟩
    obtain ⟨root, n, ms, rfl, hI, hn, hl⟩ := h
    obtain ⟨⟨root', n', ms', e, hI', hn', hl'⟩, -⟩ := step_law hI (drawn_lt a).1 (drawn_lt a).2
    have h2 : InvB (B + 2) (stepF p (drawnF a)) (toldF root (rowOf n ms) (drawnF a)) := ⟨root', n', ms', e, hI', Nat.le_trans hn' (Nat.add_le_add_right hn 2), Nat.le_trans hl' (Nat.add_le_add_right hl 2)⟩
    refine Zip.mono (fun _ _ q => InvB.mono ?_ q) (walk_law r h2)
    rw [List.length_cons]; omega
theorem states_end (s : Str × List (Int × Str)) (a : Int) : ∀ l : List Int, ∃ ss t, statesF s (l ++ [a]) = ss ++ [toldF t.1 t.2 (drawnF a)] ∧ t ∈ statesF s l
  | [] => ⟨[s], s, rfl, .head _⟩
  | b :: r => by
    obtain ⟨ss, t, h1, h2⟩ := states_end (toldF s.1 s.2 (drawnF b)) a r
    exact ⟨s :: ss, t, by show s :: statesF _ (r ++ [a]) = _; rw [h1]; rfl, .tail _ h2⟩
theorem paths_bound : ∀ (l : List Int) (x : Str), ∀ p ∈ pathsF x l, p.length ≤ x.length + 60 * l.length
  | [], x, p, h => by rw [List.mem_singleton.mp h]; simp
  | a :: r, x, p, h => by
    rcases List.mem_cons.mp h with rfl | h
    · omega
    · have h1 := paths_bound r _ p h
      have h2 := step_len x (drawnF a)
      rw [List.length_cons]; omega
theorem base_flat {root : Str} {k : Nat} (hr : L root = List.replicate k 47) (n : Nat) : ((baseF (jn root (txts n []))).length : Int) ≠ 10 := by
  cases n with
  | zero =>
    have e2 : jn root (txts 0 []) = root := L_ext (by rw [L_jn]; simp [txts, rowOf, lj])
    rw [e2, L_len, base_root hr]; decide
  | succ n => rw [txts_dd, base_text hr _ (by rw [L_dd]; decide)]; decide +kernel
theorem climb_law {root : Str} {k : Nat} (hr : L root = List.replicate k 47) (n : Nat) : ∀ (j : Nat) (ms l : List Int), (∀ m ∈ ms, Good m) → ms.length ≤ j → climbF j (jn root (txts n ms)) l = (jn root (txts n []), l ++ ms.reverse)
  | 0, ms, l, _, h => by
    have e : ms = [] := List.eq_nil_of_length_eq_zero (by omega)
    subst e; simp [climbF]
  | j + 1, ms, l, hg, h => by
    rcases snoc_cases ms with rfl | ⟨ms', m, rfl⟩
    · show (if _ then _ else _) = _
      rw [if_neg (base_flat hr n)]
      exact climb_law hr n j [] l hg (Nat.zero_le _)
    · have hm := hg m (by simp)
      have hb : baseF (jn root (txts n (ms' ++ [m]))) = signsF m := by rw [txts_snoc]; exact base_text hr _ (signs_free m)
      have hh : headF (jn root (txts n (ms' ++ [m]))) = jn root (txts n ms') := by rw [txts_snoc]; exact head_text hr txts_ok (signs_free m)
      show (if _ then _ else _) = _
      rw [hb, if_pos (by rw [signs_10]; rfl), hh, read_signs hm.1 hm.2.1 hm.2.2, climb_law hr n j ms' (l ++ [m]) (fun u hu => hg u (by simp [hu])) (by rw [List.length_append, List.length_singleton] at h; omega)]
      simp
theorem filter_neg {n : Nat} {ms : List Int} (hg : ∀ m ∈ ms, Good m) : (rowOf n ms).filter (fun e => decide (e.1 < 0)) = rowOf n [] := by
  unfold rowOf
  rw [List.filter_append, List.filter_eq_self.mpr (fun e he => by rw [List.eq_of_mem_replicate he]; decide)]
  rw [List.filter_eq_nil_iff.mpr (fun e he => by
    obtain ⟨m, hm, rfl⟩ := List.mem_map.mp he
    have := (hg m hm).1
    show ¬ decide (m < 0) = true
    simp only [decide_eq_true_eq]; omega)]
  simp
theorem filter_pos {n : Nat} {ms : List Int} (hg : ∀ m ∈ ms, Good m) : ((rowOf n ms).filter (fun e => decide (e.1 ≥ 0))).map (·.1) = ms := by
  unfold rowOf
  rw [List.filter_append, List.filter_eq_nil_iff.mpr (fun e he => by rw [List.eq_of_mem_replicate he]; decide), List.filter_eq_self.mpr (fun e he => by
    obtain ⟨m, hm, rfl⟩ := List.mem_map.mp he
    exact decide_eq_true (hg m hm).1)]
  rw [List.nil_append, List.map_map]
  exact List.map_id' ms
theorem ok_iff {x : Str} : PyData.strOk x = true ↔ ∀ c ∈ L x, c < 0x110000 := by
  unfold PyData.strOk
  rw [Array.all_eq_true']
  constructor
  · intro h c hc
    exact of_decide_eq_true (h c (Array.mem_toList_iff.mp hc))
  · intro h c hc
    exact decide_eq_true (h c (Array.mem_toList_iff.mpr hc))
theorem mem_lj : ∀ {a : List (List Nat)} {c : Nat}, c ∈ lj a → c = 47 ∨ ∃ x ∈ a, c ∈ x
  | [], _, h => nomatch h
  | [x], _, h => .inr ⟨x, .head _, h⟩
  | x :: y :: r, c, h => by
    rcases List.mem_append.mp (show c ∈ x ++ 47 :: lj (y :: r) from h) with h | h
    · exact .inr ⟨x, .head _, h⟩
    · rcases List.mem_cons.mp h with h | h
      · exact .inl h
      · rcases mem_lj h with h | ⟨z, hz, hc⟩
        · exact .inl h
        · exact .inr ⟨z, .tail _ hz, hc⟩
theorem row_ok (n : Nat) (ms : List Int) : ∀ e ∈ rowOf n ms, PyData.strOk e.2 = true ∧ e.2.length ≤ 10 := by
  intro e he
  unfold rowOf at he
  rcases List.mem_append.mp he with he | he
  · rw [List.eq_of_mem_replicate he]; exact ⟨dots_ok, by decide +kernel⟩
  · obtain ⟨m, _, rfl⟩ := List.mem_map.mp he
    exact ⟨signs_ok m, by show (signsF m).length ≤ 10; rw [signs_10]; exact Nat.le_refl _⟩
theorem weight_row : ∀ row : List (Int × Str), (∀ e ∈ row, e.2.length ≤ 10) → weight (row.map (·.2)) ≤ 11 * row.length
  | [], _ => by simp [weight]
  | e :: r, h => by
    have h1 := weight_row r fun u hu => h u (.tail _ hu)
    have h2 := h e (.head _)
    rw [List.map_cons, weight_cons, List.length_cons]; omega
theorem text_ok {root : Str} {k : Nat} (hr : L root = List.replicate k 47) (n : Nat) (ms : List Int) : PyData.strOk (dotF (textF root (rowOf n ms))) = true := by
  unfold dotF
  split
  · rw [ok_iff, L_text]
    intro c hc
    rcases List.mem_append.mp hc with hc | hc
    · rw [hr] at hc; rw [List.eq_of_mem_replicate hc]; decide
    · rcases mem_lj hc with rfl | ⟨x, hx, hc⟩
      · decide
      · obtain ⟨t, ht, rfl⟩ := List.mem_map.mp hx
        obtain ⟨e, he, rfl⟩ := List.mem_map.mp ht
        exact ok_iff.mp (row_ok n ms e he).1 c hc
  · decide +kernel
theorem start_inv (ns : List Int) : InvB 0 (startF ns) (startF ns, []) := by
  have h : startF ns = Str.ofString "//" ∨ startF ns = Str.ofString "" := by unfold startF; split <;> simp
  refine ⟨startF ns, 0, [], rfl, ⟨?_, ?_, fun _ => rfl, fun m h => (nomatch h)⟩, Nat.le_refl _, Nat.le_refl _⟩
  · rcases h with h | h <;> rw [h] <;> decide +kernel
  · rcases h with h | h <;> rw [h] <;> decide +kernel
theorem last_13 : drawnF 13 / 4096 = 2 := by decide +kernel
theorem plain (ns : List Int) : Plain (startF ns) (numF ns) := by
  have hn := num_len ns
  have hz := Zip.mono (fun _ _ q => InvB.mono (B' := 12) (by omega) q) (walk_law (numF ns) (start_inv ns))
  have hs := start_len ns
  refine ⟨fun p hp => ?_, fun s hs => ?_, ?_, fun ps p ss s h1 h2 => ?_⟩
  · have := paths_bound (numF ns) _ p hp
    omega
  · obtain ⟨p, root, n, ms, rfl, hI, h1, h2⟩ := hz.of_right s hs
    obtain ⟨k, hk, hr⟩ := root_rep p
    rw [hI.1] at hr
    have hl : (rowOf n ms).length = n + ms.length := by unfold rowOf; simp
    have hw := weight_row (rowOf n ms) fun e he => (row_ok n ms e he).2
    refine ⟨?_, ?_, ?_, text_ok hr n ms⟩
    · show root.length ≤ 10
      rw [L_len, hr, List.length_replicate]; omega
    · show (rowOf n ms).length ≤ 90
      omega
    · show weight ((rowOf n ms).map (·.2)) ≤ 1000
      omega
  · exact hz.map_eq fun p s ⟨root, n, ms, e, hI, _, _⟩ => by rw [norm_text hI, e]
  · rw [h1, h2] at hz
    obtain ⟨root, n, ms, rfl, hI, h3, h4⟩ := hz.snoc
    obtain ⟨k, hk, hr⟩ := root_rep p
    rw [hI.1] at hr
    have hne : ms ≠ [] := by
      obtain ⟨ss', t, e1, e2⟩ := states_end (startF ns, []) 13 ([2] ++ ns.take 4)
      have e3 : ss ++ [(root, rowOf n ms)] = ss' ++ [toldF t.1 t.2 (drawnF 13)] := by rw [← h2, ← e1]; rfl
      have e4 := (List.append_inj' e3 rfl).2
      obtain ⟨p', root', n', ms', rfl, hI', -, -⟩ := (walk_law ([2] ++ ns.take 4) (start_inv ns)).of_right t e2
      obtain ⟨-, q⟩ := step_law hI' (drawn_lt 13).1 (drawn_lt 13).2
      obtain ⟨ms2, q1, q2⟩ := q last_13
      rw [q1] at e4
      have e5 := congrArg Prod.snd (List.cons.inj e4).1
      intro e0
      subst e0
      obtain ⟨ms3, m, rfl⟩ : ∃ ms' m, ms2 = ms' ++ [m] := (snoc_cases ms2).elim (fun e => absurd e q2) id
      have e6 : nameOf m ∈ rowOf n [] := by
        rw [show rowOf n [] = rowOf n' (ms3 ++ [m]) from e5, rowOf_snoc]; simp
      unfold rowOf at e6
      have e7 := List.eq_of_mem_replicate (by simpa using e6 : nameOf m ∈ List.replicate n (-1, dd))
      have e8 := signs_10 m
      rw [show signsF m = dd from congrArg Prod.snd e7] at e8
      exact absurd e8 (by decide +kernel)
    have ht : L (jn root (txts n ms)) ≠ [] := by
      rw [L_jn]
      intro q
      have q2 := (List.append_eq_nil_iff.mp q).2
      obtain ⟨ms', m, rfl⟩ : ∃ ms' m, ms = ms' ++ [m] := (snoc_cases ms).elim (fun e => absurd e hne) id
      obtain ⟨w, c, e, _⟩ := lj_last (a := (txts n (ms' ++ [m])).map L) (by rw [txts_snoc]; simp) (fun u hu => by
        obtain ⟨t, ht, rfl⟩ := List.mem_map.mp hu
        exact txts_ok t ht)
      rw [e] at q2
      simp at q2
    rw [norm_text hI, text_jn, dot_ne ht, climb_law hr n 12 ms [] hI.2.2.2 h4]
    show _ = (textF root ((rowOf n ms).filter fun e => decide (e.1 < 0)), (((rowOf n ms).filter fun e => decide (e.1 ≥ 0)).map (·.1)).reverse)
    rw [filter_neg hI.2.2.2, filter_pos hI.2.2.2]
    rfl

end Mine
end Walk
theorem PySem.Challenge.cw_pd0061_01_holds : PySem.Challenge.rw_pd0061_01.Holds :=
  Mine.law_walk Mine.plain
