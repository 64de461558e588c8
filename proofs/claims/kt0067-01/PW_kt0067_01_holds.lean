import PyProof.Rows.All
import Wide.All
import OpenK.AllK
import Wide.FinOn
import Open.Tops
import KE.KTurns
import KE.KIntText
import KE.KLcFree
import KE.KPar
import KE.BitLaws
import KE.KEqSeq
import KE.KItemAt
import Lean
import PySem.Challenge.RW_kt0067_01
set_option Elab.async false
set_option compiler.extract_closed false
section
open PySem PySem.W PyProof.Rows
set_option Elab.async false
set_option maxRecDepth 1000000
set_option maxHeartbeats 8000000
namespace Mine.H
noncomputable def pw0 : List Stmt := Challenge.pw_kt0067_01.main.body
noncomputable def stAt (l : List Stmt) (i : Nat) : Stmt := match l.drop i with | s :: _ => s | [] => .Pass ⟨0, 0, 0, 0⟩
noncomputable def kidsOf : Stmt → List Stmt
  | .FunctionDef _ _ b _ _ _ _ _ _ _ => b
  | .ClassDef _ _ _ b _ _ _ _ _ _ _ => b
  | _ => []
noncomputable def argsOf : Stmt → Arguments
  | .FunctionDef _ a _ _ _ _ _ _ _ _ => a
  | _ => ⟨[], [], none, [], [], none, []⟩
noncomputable def scopeOf : Stmt → Scope
  | .FunctionDef _ _ _ _ _ _ s _ _ _ => s
  | _ => { kind := .function, names := [], isGenerator := false, isCoroutine := false }
noncomputable def env1 : Env := { scope := Challenge.pw_kt0067_01.main.scope, locals := mainNs, globals := mainNs, cells := [], code := Value.ref 13, frame := some 14 }
noncomputable def fP0 : Arguments := argsOf (stAt (pw0) 0)
noncomputable def fB0 : List Stmt := kidsOf (stAt (pw0) 0)
noncomputable def fS0 : Scope := scopeOf (stAt (pw0) 0)
noncomputable def fP1 : Arguments := argsOf (stAt (pw0) 2)
noncomputable def fB1 : List Stmt := kidsOf (stAt (pw0) 2)
noncomputable def fS1 : Scope := scopeOf (stAt (pw0) 2)
noncomputable def fP2 : Arguments := argsOf (stAt (kidsOf (stAt (pw0) 4)) 0)
noncomputable def fB2 : List Stmt := kidsOf (stAt (kidsOf (stAt (pw0) 4)) 0)
noncomputable def fS2 : Scope := scopeOf (stAt (kidsOf (stAt (pw0) 4)) 0)
noncomputable def fP3 : Arguments := argsOf (stAt (kidsOf (stAt (pw0) 6)) 0)
noncomputable def fB3 : List Stmt := kidsOf (stAt (kidsOf (stAt (pw0) 6)) 0)
noncomputable def fS3 : Scope := scopeOf (stAt (kidsOf (stAt (pw0) 6)) 0)
noncomputable def fP4 : Arguments := argsOf (stAt (kidsOf (stAt (pw0) 6)) 1)
noncomputable def fB4 : List Stmt := kidsOf (stAt (kidsOf (stAt (pw0) 6)) 1)
noncomputable def fS4 : Scope := scopeOf (stAt (kidsOf (stAt (pw0) 6)) 1)
noncomputable def fP5 : Arguments := argsOf (stAt (kidsOf (stAt (pw0) 6)) 2)
noncomputable def fB5 : List Stmt := kidsOf (stAt (kidsOf (stAt (pw0) 6)) 2)
noncomputable def fS5 : Scope := scopeOf (stAt (kidsOf (stAt (pw0) 6)) 2)
noncomputable def fP6 : Arguments := argsOf (stAt (pw0) 7)
noncomputable def fB6 : List Stmt := kidsOf (stAt (pw0) 7)
noncomputable def fS6 : Scope := scopeOf (stAt (pw0) 7)
noncomputable def fP7 : Arguments := argsOf (stAt (pw0) 9)
noncomputable def fB7 : List Stmt := kidsOf (stAt (pw0) 9)
noncomputable def fS7 : Scope := scopeOf (stAt (pw0) 9)
noncomputable def fP8 : Arguments := argsOf (stAt (pw0) 11)
noncomputable def fB8 : List Stmt := kidsOf (stAt (pw0) 11)
noncomputable def fS8 : Scope := scopeOf (stAt (pw0) 11)
noncomputable def fP9 : Arguments := argsOf (stAt (pw0) 13)
noncomputable def fB9 : List Stmt := kidsOf (stAt (pw0) 13)
noncomputable def fS9 : Scope := scopeOf (stAt (pw0) 13)
noncomputable def fP10 : Arguments := argsOf (stAt (pw0) 14)
noncomputable def fB10 : List Stmt := kidsOf (stAt (pw0) 14)
noncomputable def fS10 : Scope := scopeOf (stAt (pw0) 14)
noncomputable def fP11 : Arguments := argsOf (stAt (pw0) 15)
noncomputable def fB11 : List Stmt := kidsOf (stAt (pw0) 15)
noncomputable def fS11 : Scope := scopeOf (stAt (pw0) 15)
noncomputable def fP12 : Arguments := argsOf (stAt (pw0) 17)
noncomputable def fB12 : List Stmt := kidsOf (stAt (pw0) 17)
noncomputable def fS12 : Scope := scopeOf (stAt (pw0) 17)
noncomputable def fP13 : Arguments := argsOf (stAt (pw0) 38)
noncomputable def fB13 : List Stmt := kidsOf (stAt (pw0) 38)
noncomputable def fS13 : Scope := scopeOf (stAt (pw0) 38)
noncomputable def fP14 : Arguments := argsOf (stAt (kidsOf (stAt (pw0) 44)) 0)
noncomputable def fB14 : List Stmt := kidsOf (stAt (kidsOf (stAt (pw0) 44)) 0)
noncomputable def fS14 : Scope := scopeOf (stAt (kidsOf (stAt (pw0) 44)) 0)
noncomputable def fP15 : Arguments := argsOf (stAt (kidsOf (stAt (pw0) 44)) 1)
noncomputable def fB15 : List Stmt := kidsOf (stAt (kidsOf (stAt (pw0) 44)) 1)
noncomputable def fS15 : Scope := scopeOf (stAt (kidsOf (stAt (pw0) 44)) 1)
noncomputable def fP16 : Arguments := argsOf (stAt (kidsOf (stAt (pw0) 44)) 2)
noncomputable def fB16 : List Stmt := kidsOf (stAt (kidsOf (stAt (pw0) 44)) 2)
noncomputable def fS16 : Scope := scopeOf (stAt (kidsOf (stAt (pw0) 44)) 2)
noncomputable def fP17 : Arguments := argsOf (stAt (pw0) 45)
noncomputable def fB17 : List Stmt := kidsOf (stAt (pw0) 45)
noncomputable def fS17 : Scope := scopeOf (stAt (pw0) 45)
noncomputable def fP18 : Arguments := argsOf (stAt (pw0) 46)
noncomputable def fB18 : List Stmt := kidsOf (stAt (pw0) 46)
noncomputable def fS18 : Scope := scopeOf (stAt (pw0) 46)
noncomputable def fP19 : Arguments := argsOf (stAt (pw0) 47)
noncomputable def fB19 : List Stmt := kidsOf (stAt (pw0) 47)
noncomputable def fS19 : Scope := scopeOf (stAt (pw0) 47)
noncomputable def fP21 : Arguments := argsOf (stAt (pw0) 48)
noncomputable def fB21 : List Stmt := kidsOf (stAt (pw0) 48)
noncomputable def fS21 : Scope := scopeOf (stAt (pw0) 48)
noncomputable def fP22 : Arguments := argsOf (stAt (pw0) 50)
noncomputable def fB22 : List Stmt := kidsOf (stAt (pw0) 50)
noncomputable def fS22 : Scope := scopeOf (stAt (pw0) 50)
noncomputable def fP23 : Arguments := argsOf (stAt (pw0) 51)
noncomputable def fB23 : List Stmt := kidsOf (stAt (pw0) 51)
noncomputable def fS23 : Scope := scopeOf (stAt (pw0) 51)
noncomputable def fP24 : Arguments := argsOf (stAt (pw0) 52)
noncomputable def fB24 : List Stmt := kidsOf (stAt (pw0) 52)
noncomputable def fS24 : Scope := scopeOf (stAt (pw0) 52)
noncomputable def fP25 : Arguments := argsOf (stAt (pw0) 53)
noncomputable def fB25 : List Stmt := kidsOf (stAt (pw0) 53)
noncomputable def fS25 : Scope := scopeOf (stAt (pw0) 53)
noncomputable def fP26 : Arguments := argsOf (stAt (pw0) 54)
noncomputable def fB26 : List Stmt := kidsOf (stAt (pw0) 54)
noncomputable def fS26 : Scope := scopeOf (stAt (pw0) 54)
noncomputable def fP27 : Arguments := argsOf (stAt (pw0) 55)
noncomputable def fB27 : List Stmt := kidsOf (stAt (pw0) 55)
noncomputable def fS27 : Scope := scopeOf (stAt (pw0) 55)
noncomputable def b11 : Obj := { cls := Value.type "tuple", data := Data.seq #[] }
noncomputable def b12 : Obj := { cls := Value.none, data := Data.fields #[] }
noncomputable def b13 : Obj := { cls := Value.type "code", data := Data.fields #[Value.str (Str.ofString "<module>") 182, Value.str (Str.ofString "<module>") 183, Value.str (Str.ofString "/claim/cut.py") 184, Value.int 1 0, Value.int 0 0, Value.int 0 0, Value.int 0 0, Value.int 0 0, Value.ref 11, Value.bool Bool.false, Value.int 181 0, Value.ref 12, Value.none, Value.none, Value.none, Value.none, Value.int 185 0, Value.int 1 0, Value.str (Str.ofString "/claim/cut.py") 186] }
noncomputable def b14 : Obj := { cls := Value.type "frame", slots := #[some (Value.ref 13), some (Value.ref 3), some (Value.ref 3), none, some (Value.str (Str.ofString "__main__") 164), none, some (Value.ref 0)] }
noncomputable def a3 (P : Params) : Obj := { cls := Value.type "dict", data := Data.dict #[{ hash := PyData.keyHash P (Str.ofString "__name__"), key := Value.str (Str.ofString "__name__") 165, val := Value.str (Str.ofString "cpy313.tomllib._parser") 424 }, { hash := PyData.keyHash P (Str.ofString "__doc__"), key := Value.str (Str.ofString "__doc__") 166, val := Value.none }, { hash := PyData.keyHash P (Str.ofString "__package__"), key := Value.str (Str.ofString "__package__") 167, val := Value.none }, { hash := PyData.keyHash P (Str.ofString "__loader__"), key := Value.str (Str.ofString "__loader__") 168, val := Value.builtin "__main__.__loader__#opaque" }, { hash := PyData.keyHash P (Str.ofString "__spec__"), key := Value.str (Str.ofString "__spec__") 169, val := Value.none }, { hash := PyData.keyHash P (Str.ofString "__annotations__"), key := Value.str (Str.ofString "__annotations__") 170, val := Value.ref 6 }, { hash := PyData.keyHash P (Str.ofString "__builtins__"), key := Value.str (Str.ofString "__builtins__") 171, val := Value.ref 4 }, { hash := PyData.keyHash P (Str.ofString "__file__"), key := Value.str (Str.ofString "__file__") 173, val := Value.str (Str.ofString "/claim/cut.py") 172 }, { hash := PyData.keyHash P (Str.ofString "__cached__"), key := Value.str (Str.ofString "__cached__") 174, val := Value.none }, { hash := PyData.keyHash P (Str.ofString "_wall"), key := Value.str (Str.ofString "_wall") 193, val := Value.ref 21 }, { hash := PyData.keyHash P (Str.ofString "_plain_name"), key := Value.str (Str.ofString "_plain_name") 204, val := Value.ref 28 }, { hash := PyData.keyHash P (Str.ofString "ABCMeta"), key := Value.str (Str.ofString "ABCMeta") 230, val := Value.ref 45 }, { hash := PyData.keyHash P (Str.ofString "_ABCLike"), key := Value.str (Str.ofString "_ABCLike") 273, val := Value.ref 78 }, { hash := PyData.keyHash P (Str.ofString "_abc_plain_meta"), key := Value.str (Str.ofString "_abc_plain_meta") 280, val := Value.ref 87 }, { hash := PyData.keyHash P (Str.ofString "fspath"), key := Value.str (Str.ofString "fspath") 292, val := Value.ref 94 }, { hash := PyData.keyHash P (Str.ofString "_check_arg_types"), key := Value.str (Str.ofString "_check_arg_types") 305, val := Value.ref 101 }, { hash := PyData.keyHash P (Str.ofString "_get_sep"), key := Value.str (Str.ofString "_get_sep") 314, val := Value.ref 108 }, { hash := PyData.keyHash P (Str.ofString "join"), key := Value.str (Str.ofString "join") 325, val := Value.ref 115 }, { hash := PyData.keyHash P (Str.ofString "commonpath"), key := Value.str (Str.ofString "commonpath") 331, val := Value.ref 120 }, { hash := PyData.keyHash P (Str.ofString "S_IFMT"), key := Value.str (Str.ofString "S_IFMT") 340, val := Value.ref 127 }, { hash := PyData.keyHash P (Str.ofString "S_IFDIR"), key := Value.str (Str.ofString "S_IFDIR") 342, val := Value.int 16384 341 }, { hash := PyData.keyHash P (Str.ofString "S_IFCHR"), key := Value.str (Str.ofString "S_IFCHR") 344, val := Value.int 8192 343 }, { hash := PyData.keyHash P (Str.ofString "S_IFBLK"), key := Value.str (Str.ofString "S_IFBLK") 346, val := Value.int 24576 345 }, { hash := PyData.keyHash P (Str.ofString "S_IFREG"), key := Value.str (Str.ofString "S_IFREG") 348, val := Value.int 32768 347 }, { hash := PyData.keyHash P (Str.ofString "S_IFIFO"), key := Value.str (Str.ofString "S_IFIFO") 350, val := Value.int 4096 349 }, { hash := PyData.keyHash P (Str.ofString "S_IFLNK"), key := Value.str (Str.ofString "S_IFLNK") 352, val := Value.int 40960 351 }, { hash := PyData.keyHash P (Str.ofString "S_IFSOCK"), key := Value.str (Str.ofString "S_IFSOCK") 354, val := Value.int 49152 353 }, { hash := PyData.keyHash P (Str.ofString "S_ISUID"), key := Value.str (Str.ofString "S_ISUID") 356, val := Value.int 2048 355 }, { hash := PyData.keyHash P (Str.ofString "S_ISGID"), key := Value.str (Str.ofString "S_ISGID") 358, val := Value.int 1024 357 }, { hash := PyData.keyHash P (Str.ofString "S_ISVTX"), key := Value.str (Str.ofString "S_ISVTX") 360, val := Value.int 512 359 }, { hash := PyData.keyHash P (Str.ofString "S_IRUSR"), key := Value.str (Str.ofString "S_IRUSR") 362, val := Value.int 256 361 }, { hash := PyData.keyHash P (Str.ofString "S_IWUSR"), key := Value.str (Str.ofString "S_IWUSR") 364, val := Value.int 128 363 }, { hash := PyData.keyHash P (Str.ofString "S_IXUSR"), key := Value.str (Str.ofString "S_IXUSR") 366, val := Value.int 64 365 }, { hash := PyData.keyHash P (Str.ofString "S_IRGRP"), key := Value.str (Str.ofString "S_IRGRP") 368, val := Value.int 32 367 }, { hash := PyData.keyHash P (Str.ofString "S_IWGRP"), key := Value.str (Str.ofString "S_IWGRP") 370, val := Value.int 16 369 }, { hash := PyData.keyHash P (Str.ofString "S_IXGRP"), key := Value.str (Str.ofString "S_IXGRP") 372, val := Value.int 8 371 }, { hash := PyData.keyHash P (Str.ofString "S_IROTH"), key := Value.str (Str.ofString "S_IROTH") 374, val := Value.int 4 373 }, { hash := PyData.keyHash P (Str.ofString "S_IWOTH"), key := Value.str (Str.ofString "S_IWOTH") 376, val := Value.int 2 375 }, { hash := PyData.keyHash P (Str.ofString "S_IXOTH"), key := Value.str (Str.ofString "S_IXOTH") 378, val := Value.int 1 377 }, { hash := PyData.keyHash P (Str.ofString "_filemode_table"), key := Value.str (Str.ofString "_filemode_table") 404, val := Value.ref 160 }, { hash := PyData.keyHash P (Str.ofString "filemode"), key := Value.str (Str.ofString "filemode") 416, val := Value.ref 167 }, { hash := PyData.keyHash P (Str.ofString "digits"), key := Value.str (Str.ofString "digits") 418, val := Value.str (Str.ofString "0123456789") 417 }, { hash := PyData.keyHash P (Str.ofString "hexdigits"), key := Value.str (Str.ofString "hexdigits") 423, val := Value.str (Str.ofString "0123456789abcdefABCDEF") 422 }] 43 }
noncomputable def a12 : Obj := { cls := Value.none, data := Data.fields #[Value.int 1 0, Value.int 0 0, Value.ref 20, Value.int 5 0, Value.int 0 0, Value.ref 27, Value.int 11 0, Value.int 0 0, Value.ref 34, Value.int 16 0, Value.int 0 0, Value.ref 53, Value.int 31 0, Value.int 0 0, Value.ref 86, Value.int 35 0, Value.int 0 0, Value.ref 93, Value.int 52 0, Value.int 0 0, Value.ref 100, Value.int 64 0, Value.int 0 0, Value.ref 107, Value.int 69 0, Value.int 0 0, Value.ref 114, Value.int 86 0, Value.int 0 0, Value.ref 119, Value.int 116 0, Value.int 0 0, Value.ref 126, Value.int 138 0, Value.int 0 0, Value.ref 166] }
noncomputable def a17 : Obj := { cls := Value.type "tuple", data := Data.seq #[Value.str (Str.ofString "k") 190] }
noncomputable def a19 : Obj := { cls := Value.none, data := Data.func { name := Str.ofString "_wall", qualname := Str.ofString "_wall", params := fP0, body := FuncBody.stmts fB0, scope := fS0, globals := 0, closure := [], defaults := Value.none, kwdefaults := Value.none } }
noncomputable def a20 : Obj := { cls := Value.type "code", data := Data.fields #[Value.str (Str.ofString "_wall") 187, Value.str (Str.ofString "_wall") 188, Value.str (Str.ofString "/claim/cut.py") 189, Value.int 1 0, Value.int 1 0, Value.int 0 0, Value.int 0 0, Value.int 3 0, Value.ref 15, Value.bool Bool.true, Value.int 181 0, Value.ref 16, Value.none, Value.ref 17, Value.ref 18, Value.ref 19, Value.int 191 0, Value.int 1 0, Value.str (Str.ofString "/claim/cut.py") 192] }
noncomputable def a21 : Obj := { cls := Value.type "function", data := Data.func { name := Str.ofString "_wall", qualname := Str.ofString "_wall", params := fP0, body := FuncBody.stmts fB0, scope := fS0, globals := 3, closure := [], defaults := Value.none, kwdefaults := Value.none, pyModule := Value.str (Str.ofString "__main__") 164, code := Value.ref 20 } }
noncomputable def a24 : Obj := { cls := Value.type "tuple", data := Data.seq #[Value.str (Str.ofString "x") 199, Value.str (Str.ofString "what") 200, Value.str (Str.ofString "kind") 201] }
noncomputable def a26 : Obj := { cls := Value.none, data := Data.func { name := Str.ofString "_plain_name", qualname := Str.ofString "_plain_name", params := fP1, body := FuncBody.stmts fB1, scope := fS1, globals := 0, closure := [], defaults := Value.none, kwdefaults := Value.none } }
noncomputable def a27 : Obj := { cls := Value.type "code", data := Data.fields #[Value.str (Str.ofString "_plain_name") 196, Value.str (Str.ofString "_plain_name") 197, Value.str (Str.ofString "/claim/cut.py") 198, Value.int 5 0, Value.int 2 0, Value.int 0 0, Value.int 0 0, Value.int 3 0, Value.ref 22, Value.bool Bool.true, Value.int 181 0, Value.ref 23, Value.none, Value.ref 24, Value.ref 25, Value.ref 26, Value.int 202 0, Value.int 5 0, Value.str (Str.ofString "/claim/cut.py") 203] }
noncomputable def a28 : Obj := { cls := Value.type "function", data := Data.func { name := Str.ofString "_plain_name", qualname := Str.ofString "_plain_name", params := fP1, body := FuncBody.stmts fB1, scope := fS1, globals := 3, closure := [], defaults := Value.none, kwdefaults := Value.none, pyModule := Value.str (Str.ofString "os") 194, code := Value.ref 27 } }
noncomputable def a29 : Obj := { cls := Value.type "tuple", data := Data.seq #[Value.type "type"] }
noncomputable def a30 : Obj := { cls := Value.type "builtin_function_or_method", data := Data.fields #[Value.builtin "type.__prepare__", Value.type "type"] }
noncomputable def a31 (P : Params) : Obj := { cls := Value.type "dict", data := Data.dict #[{ hash := PyData.keyHash P (Str.ofString "__module__"), key := Value.str (Str.ofString "__module__") 214, val := Value.str (Str.ofString "abc") 205 }, { hash := PyData.keyHash P (Str.ofString "__qualname__"), key := Value.str (Str.ofString "__qualname__") 216, val := Value.str (Str.ofString "ABCMeta") 215 }, { hash := PyData.keyHash P (Str.ofString "__firstlineno__"), key := Value.str (Str.ofString "__firstlineno__") 218, val := Value.int 11 217 }, { hash := PyData.keyHash P (Str.ofString "register"), key := Value.str (Str.ofString "register") 226, val := Value.ref 42 }, { hash := PyData.keyHash P (Str.ofString "__static_attributes__"), key := Value.str (Str.ofString "__static_attributes__") 227, val := Value.ref 43 }] 5 }
noncomputable def a33 : Obj := { cls := Value.none, data := Data.fields #[Value.int 13 0, Value.int 4 0, Value.ref 41] }
noncomputable def a34 : Obj := { cls := Value.type "code", data := Data.fields #[Value.str (Str.ofString "ABCMeta") 209, Value.str (Str.ofString "ABCMeta") 210, Value.str (Str.ofString "/claim/cut.py") 211, Value.int 11 0, Value.int 0 0, Value.int 0 0, Value.int 0 0, Value.int 0 0, Value.ref 32, Value.bool Bool.false, Value.int 181 0, Value.ref 33, Value.none, Value.none, Value.none, Value.none, Value.int 212 0, Value.int 11 0, Value.str (Str.ofString "/claim/cut.py") 213] }
noncomputable def a35 : Obj := { cls := Value.type "frame", slots := #[some (Value.ref 34), some (Value.ref 3), some (Value.ref 31), none, some (Value.str (Str.ofString "abc") 205), none, some (Value.ref 0)] }
noncomputable def a38 : Obj := { cls := Value.type "tuple", data := Data.seq #[Value.str (Str.ofString "cls") 222, Value.str (Str.ofString "subclass") 223] }
noncomputable def a40 : Obj := { cls := Value.none, data := Data.func { name := Str.ofString "register", qualname := Str.ofString "ABCMeta.register", params := fP2, body := FuncBody.stmts fB2, scope := fS2, globals := 0, closure := [], defaults := Value.none, kwdefaults := Value.none } }
noncomputable def a41 : Obj := { cls := Value.type "code", data := Data.fields #[Value.str (Str.ofString "register") 219, Value.str (Str.ofString "ABCMeta.register") 220, Value.str (Str.ofString "/claim/cut.py") 221, Value.int 13 0, Value.int 2 0, Value.int 0 0, Value.int 0 0, Value.int 3 0, Value.ref 36, Value.bool Bool.true, Value.int 181 0, Value.ref 37, Value.none, Value.ref 38, Value.ref 39, Value.ref 40, Value.int 224 0, Value.int 13 0, Value.str (Str.ofString "/claim/cut.py") 225] }
noncomputable def a42 : Obj := { cls := Value.type "function", data := Data.func { name := Str.ofString "register", qualname := Str.ofString "ABCMeta.register", params := fP2, body := FuncBody.stmts fB2, scope := fS2, globals := 3, closure := [], defaults := Value.none, kwdefaults := Value.none, pyModule := Value.str (Str.ofString "abc") 205, code := Value.ref 41 } }
noncomputable def a44 (P : Params) : Obj := { cls := Value.type "dict", data := Data.dict #[{ hash := PyData.keyHash P (Str.ofString "__module__"), key := Value.str (Str.ofString "__module__") 214, val := Value.str (Str.ofString "abc") 205 }, { hash := PyData.keyHash P (Str.ofString "__firstlineno__"), key := Value.str (Str.ofString "__firstlineno__") 218, val := Value.int 11 217 }, { hash := PyData.keyHash P (Str.ofString "register"), key := Value.str (Str.ofString "register") 226, val := Value.ref 42 }, { hash := PyData.keyHash P (Str.ofString "__static_attributes__"), key := Value.str (Str.ofString "__static_attributes__") 227, val := Value.ref 43 }, { hash := PyData.keyHash P (Str.ofString "__doc__"), key := Value.str (Str.ofString "__doc__") 228, val := Value.none }] 2 }
noncomputable def a45 : Obj := { cls := Value.type "type", data := Data.cls { name := Str.ofString "ABCMeta", bases := [Value.type "type"], mro := [Value.ref 45, Value.type "type", Value.type "object"], ns := 44, qualname := Str.ofString "ABCMeta", subclasses := [Value.ref 78] }, slots := #[some (Value.ref 29), none, some (Value.str (Str.ofString "ABCMeta") 207), some (Value.str (Str.ofString "ABCMeta") 215), some (Value.builtin "type.__new__"), some (Value.bool Bool.true)] }
noncomputable def a46 : Obj := { cls := Value.type "super", data := Data.fields #[Value.ref 45, Value.ref 45, Value.ref 45] }
noncomputable def a47 : Obj := { cls := Value.type "builtin_function_or_method", data := Data.fields #[Value.builtin "object.__init_subclass__", Value.ref 45] }
noncomputable def a48 : Obj := { cls := Value.type "tuple", data := Data.seq #[Value.ref 45] }
noncomputable def a50 (P : Params) : Obj := { cls := Value.type "dict", data := Data.dict #[{ hash := PyData.keyHash P (Str.ofString "__module__"), key := Value.str (Str.ofString "__module__") 240, val := Value.str (Str.ofString "collections.abc") 231 }, { hash := PyData.keyHash P (Str.ofString "__qualname__"), key := Value.str (Str.ofString "__qualname__") 242, val := Value.str (Str.ofString "_ABCLike") 241 }, { hash := PyData.keyHash P (Str.ofString "__firstlineno__"), key := Value.str (Str.ofString "__firstlineno__") 244, val := Value.int 16 243 }, { hash := PyData.keyHash P (Str.ofString "__instancecheck__"), key := Value.str (Str.ofString "__instancecheck__") 253, val := Value.ref 61 }, { hash := PyData.keyHash P (Str.ofString "__subclasscheck__"), key := Value.str (Str.ofString "__subclasscheck__") 261, val := Value.ref 68 }, { hash := PyData.keyHash P (Str.ofString "register"), key := Value.str (Str.ofString "register") 269, val := Value.ref 75 }, { hash := PyData.keyHash P (Str.ofString "__static_attributes__"), key := Value.str (Str.ofString "__static_attributes__") 270, val := Value.ref 76 }] 7 }
noncomputable def a52 : Obj := { cls := Value.none, data := Data.fields #[Value.int 18 0, Value.int 4 0, Value.ref 60, Value.int 24 0, Value.int 4 0, Value.ref 67, Value.int 29 0, Value.int 4 0, Value.ref 74] }
noncomputable def a53 : Obj := { cls := Value.type "code", data := Data.fields #[Value.str (Str.ofString "_ABCLike") 235, Value.str (Str.ofString "_ABCLike") 236, Value.str (Str.ofString "/claim/cut.py") 237, Value.int 16 0, Value.int 0 0, Value.int 0 0, Value.int 0 0, Value.int 0 0, Value.ref 51, Value.bool Bool.false, Value.int 181 0, Value.ref 52, Value.none, Value.none, Value.none, Value.none, Value.int 238 0, Value.int 16 0, Value.str (Str.ofString "/claim/cut.py") 239] }
noncomputable def a54 : Obj := { cls := Value.type "frame", slots := #[some (Value.ref 53), some (Value.ref 3), some (Value.ref 50), none, some (Value.str (Str.ofString "collections.abc") 231), none, some (Value.ref 0)] }
noncomputable def a57 : Obj := { cls := Value.type "tuple", data := Data.seq #[Value.str (Str.ofString "cls") 248, Value.str (Str.ofString "instance") 249, Value.str (Str.ofString "C") 250] }
noncomputable def a59 : Obj := { cls := Value.none, data := Data.func { name := Str.ofString "__instancecheck__", qualname := Str.ofString "_ABCLike.__instancecheck__", params := fP3, body := FuncBody.stmts fB3, scope := fS3, globals := 0, closure := [], defaults := Value.none, kwdefaults := Value.none } }
noncomputable def a60 : Obj := { cls := Value.type "code", data := Data.fields #[Value.str (Str.ofString "__instancecheck__") 245, Value.str (Str.ofString "_ABCLike.__instancecheck__") 246, Value.str (Str.ofString "/claim/cut.py") 247, Value.int 18 0, Value.int 2 0, Value.int 0 0, Value.int 0 0, Value.int 3 0, Value.ref 55, Value.bool Bool.true, Value.int 181 0, Value.ref 56, Value.none, Value.ref 57, Value.ref 58, Value.ref 59, Value.int 251 0, Value.int 18 0, Value.str (Str.ofString "/claim/cut.py") 252] }
noncomputable def a61 : Obj := { cls := Value.type "function", data := Data.func { name := Str.ofString "__instancecheck__", qualname := Str.ofString "_ABCLike.__instancecheck__", params := fP3, body := FuncBody.stmts fB3, scope := fS3, globals := 3, closure := [], defaults := Value.none, kwdefaults := Value.none, pyModule := Value.str (Str.ofString "collections.abc") 231, code := Value.ref 60 } }
noncomputable def a64 : Obj := { cls := Value.type "tuple", data := Data.seq #[Value.str (Str.ofString "cls") 257, Value.str (Str.ofString "C") 258] }
noncomputable def a66 : Obj := { cls := Value.none, data := Data.func { name := Str.ofString "__subclasscheck__", qualname := Str.ofString "_ABCLike.__subclasscheck__", params := fP4, body := FuncBody.stmts fB4, scope := fS4, globals := 0, closure := [], defaults := Value.none, kwdefaults := Value.none } }
noncomputable def a67 : Obj := { cls := Value.type "code", data := Data.fields #[Value.str (Str.ofString "__subclasscheck__") 254, Value.str (Str.ofString "_ABCLike.__subclasscheck__") 255, Value.str (Str.ofString "/claim/cut.py") 256, Value.int 24 0, Value.int 2 0, Value.int 0 0, Value.int 0 0, Value.int 3 0, Value.ref 62, Value.bool Bool.true, Value.int 181 0, Value.ref 63, Value.none, Value.ref 64, Value.ref 65, Value.ref 66, Value.int 259 0, Value.int 24 0, Value.str (Str.ofString "/claim/cut.py") 260] }
noncomputable def a68 : Obj := { cls := Value.type "function", data := Data.func { name := Str.ofString "__subclasscheck__", qualname := Str.ofString "_ABCLike.__subclasscheck__", params := fP4, body := FuncBody.stmts fB4, scope := fS4, globals := 3, closure := [], defaults := Value.none, kwdefaults := Value.none, pyModule := Value.str (Str.ofString "collections.abc") 231, code := Value.ref 67 } }
noncomputable def a71 : Obj := { cls := Value.type "tuple", data := Data.seq #[Value.str (Str.ofString "cls") 265, Value.str (Str.ofString "subclass") 266] }
noncomputable def a73 : Obj := { cls := Value.none, data := Data.func { name := Str.ofString "register", qualname := Str.ofString "_ABCLike.register", params := fP5, body := FuncBody.stmts fB5, scope := fS5, globals := 0, closure := [], defaults := Value.none, kwdefaults := Value.none } }
noncomputable def a74 : Obj := { cls := Value.type "code", data := Data.fields #[Value.str (Str.ofString "register") 262, Value.str (Str.ofString "_ABCLike.register") 263, Value.str (Str.ofString "/claim/cut.py") 264, Value.int 29 0, Value.int 2 0, Value.int 0 0, Value.int 0 0, Value.int 3 0, Value.ref 69, Value.bool Bool.true, Value.int 181 0, Value.ref 70, Value.none, Value.ref 71, Value.ref 72, Value.ref 73, Value.int 267 0, Value.int 29 0, Value.str (Str.ofString "/claim/cut.py") 268] }
noncomputable def a75 : Obj := { cls := Value.type "function", data := Data.func { name := Str.ofString "register", qualname := Str.ofString "_ABCLike.register", params := fP5, body := FuncBody.stmts fB5, scope := fS5, globals := 3, closure := [], defaults := Value.none, kwdefaults := Value.none, pyModule := Value.str (Str.ofString "collections.abc") 231, code := Value.ref 74 } }
noncomputable def a77 (P : Params) : Obj := { cls := Value.type "dict", data := Data.dict #[{ hash := PyData.keyHash P (Str.ofString "__module__"), key := Value.str (Str.ofString "__module__") 240, val := Value.str (Str.ofString "collections.abc") 231 }, { hash := PyData.keyHash P (Str.ofString "__firstlineno__"), key := Value.str (Str.ofString "__firstlineno__") 244, val := Value.int 16 243 }, { hash := PyData.keyHash P (Str.ofString "__instancecheck__"), key := Value.str (Str.ofString "__instancecheck__") 253, val := Value.ref 61 }, { hash := PyData.keyHash P (Str.ofString "__subclasscheck__"), key := Value.str (Str.ofString "__subclasscheck__") 261, val := Value.ref 68 }, { hash := PyData.keyHash P (Str.ofString "register"), key := Value.str (Str.ofString "register") 269, val := Value.ref 75 }, { hash := PyData.keyHash P (Str.ofString "__static_attributes__"), key := Value.str (Str.ofString "__static_attributes__") 270, val := Value.ref 76 }, { hash := PyData.keyHash P (Str.ofString "__doc__"), key := Value.str (Str.ofString "__doc__") 271, val := Value.none }] 2 }
noncomputable def a78 : Obj := { cls := Value.type "type", data := Data.cls { name := Str.ofString "_ABCLike", bases := [Value.ref 45], mro := [Value.ref 78, Value.ref 45, Value.type "type", Value.type "object"], ns := 77, qualname := Str.ofString "_ABCLike" }, slots := #[some (Value.ref 48), none, some (Value.str (Str.ofString "_ABCLike") 233), some (Value.str (Str.ofString "_ABCLike") 241), some (Value.builtin "type.__new__"), some (Value.bool Bool.true)] }
noncomputable def a79 : Obj := { cls := Value.type "super", data := Data.fields #[Value.ref 78, Value.ref 78, Value.ref 78] }
noncomputable def a80 : Obj := { cls := Value.type "builtin_function_or_method", data := Data.fields #[Value.builtin "object.__init_subclass__", Value.ref 78] }
noncomputable def a83 : Obj := { cls := Value.type "tuple", data := Data.seq #[Value.str (Str.ofString "C") 277] }
noncomputable def a85 : Obj := { cls := Value.none, data := Data.func { name := Str.ofString "_abc_plain_meta", qualname := Str.ofString "_abc_plain_meta", params := fP6, body := FuncBody.stmts fB6, scope := fS6, globals := 0, closure := [], defaults := Value.none, kwdefaults := Value.none } }
noncomputable def a86 : Obj := { cls := Value.type "code", data := Data.fields #[Value.str (Str.ofString "_abc_plain_meta") 274, Value.str (Str.ofString "_abc_plain_meta") 275, Value.str (Str.ofString "/claim/cut.py") 276, Value.int 31 0, Value.int 1 0, Value.int 0 0, Value.int 0 0, Value.int 3 0, Value.ref 81, Value.bool Bool.true, Value.int 181 0, Value.ref 82, Value.none, Value.ref 83, Value.ref 84, Value.ref 85, Value.int 278 0, Value.int 31 0, Value.str (Str.ofString "/claim/cut.py") 279] }
noncomputable def a87 : Obj := { cls := Value.type "function", data := Data.func { name := Str.ofString "_abc_plain_meta", qualname := Str.ofString "_abc_plain_meta", params := fP6, body := FuncBody.stmts fB6, scope := fS6, globals := 3, closure := [], defaults := Value.none, kwdefaults := Value.none, pyModule := Value.str (Str.ofString "collections.abc") 231, code := Value.ref 86 } }
noncomputable def a90 : Obj := { cls := Value.type "tuple", data := Data.seq #[Value.str (Str.ofString "path") 286, Value.str (Str.ofString "kind") 287, Value.str (Str.ofString "hook") 288, Value.str (Str.ofString "given") 289] }
noncomputable def a92 : Obj := { cls := Value.none, data := Data.func { name := Str.ofString "fspath", qualname := Str.ofString "fspath", params := fP7, body := FuncBody.stmts fB7, scope := fS7, globals := 0, closure := [], defaults := Value.none, kwdefaults := Value.none } }
noncomputable def a93 : Obj := { cls := Value.type "code", data := Data.fields #[Value.str (Str.ofString "fspath") 283, Value.str (Str.ofString "fspath") 284, Value.str (Str.ofString "/claim/cut.py") 285, Value.int 35 0, Value.int 1 0, Value.int 0 0, Value.int 0 0, Value.int 3 0, Value.ref 88, Value.bool Bool.true, Value.int 181 0, Value.ref 89, Value.none, Value.ref 90, Value.ref 91, Value.ref 92, Value.int 290 0, Value.int 35 0, Value.str (Str.ofString "/claim/cut.py") 291] }
noncomputable def a94 : Obj := { cls := Value.type "function", data := Data.func { name := Str.ofString "fspath", qualname := Str.ofString "fspath", params := fP7, body := FuncBody.stmts fB7, scope := fS7, globals := 3, closure := [], defaults := Value.none, kwdefaults := Value.none, pyModule := Value.str (Str.ofString "os") 281, code := Value.ref 93 } }
noncomputable def a97 : Obj := { cls := Value.type "tuple", data := Data.seq #[Value.str (Str.ofString "funcname") 298, Value.str (Str.ofString "args") 299, Value.str (Str.ofString "hasstr") 300, Value.str (Str.ofString "hasbytes") 301, Value.str (Str.ofString "s") 302] }
noncomputable def a99 : Obj := { cls := Value.none, data := Data.func { name := Str.ofString "_check_arg_types", qualname := Str.ofString "_check_arg_types", params := fP8, body := FuncBody.stmts fB8, scope := fS8, globals := 0, closure := [], defaults := Value.none, kwdefaults := Value.none } }
noncomputable def a100 : Obj := { cls := Value.type "code", data := Data.fields #[Value.str (Str.ofString "_check_arg_types") 295, Value.str (Str.ofString "_check_arg_types") 296, Value.str (Str.ofString "/claim/cut.py") 297, Value.int 52 0, Value.int 1 0, Value.int 0 0, Value.int 0 0, Value.int 7 0, Value.ref 95, Value.bool Bool.true, Value.int 181 0, Value.ref 96, Value.none, Value.ref 97, Value.ref 98, Value.ref 99, Value.int 303 0, Value.int 52 0, Value.str (Str.ofString "/claim/cut.py") 304] }
noncomputable def a101 : Obj := { cls := Value.type "function", data := Data.func { name := Str.ofString "_check_arg_types", qualname := Str.ofString "_check_arg_types", params := fP8, body := FuncBody.stmts fB8, scope := fS8, globals := 3, closure := [], defaults := Value.none, kwdefaults := Value.none, pyModule := Value.str (Str.ofString "cpy313.genericpath") 293, code := Value.ref 100 } }
noncomputable def a104 : Obj := { cls := Value.type "tuple", data := Data.seq #[Value.str (Str.ofString "path") 311] }
noncomputable def a106 : Obj := { cls := Value.none, data := Data.func { name := Str.ofString "_get_sep", qualname := Str.ofString "_get_sep", params := fP9, body := FuncBody.stmts fB9, scope := fS9, globals := 0, closure := [], defaults := Value.none, kwdefaults := Value.none } }
noncomputable def a107 : Obj := { cls := Value.type "code", data := Data.fields #[Value.str (Str.ofString "_get_sep") 308, Value.str (Str.ofString "_get_sep") 309, Value.str (Str.ofString "/claim/cut.py") 310, Value.int 64 0, Value.int 1 0, Value.int 0 0, Value.int 0 0, Value.int 3 0, Value.ref 102, Value.bool Bool.true, Value.int 181 0, Value.ref 103, Value.none, Value.ref 104, Value.ref 105, Value.ref 106, Value.int 312 0, Value.int 64 0, Value.str (Str.ofString "/claim/cut.py") 313] }
noncomputable def a108 : Obj := { cls := Value.type "function", data := Data.func { name := Str.ofString "_get_sep", qualname := Str.ofString "_get_sep", params := fP9, body := FuncBody.stmts fB9, scope := fS9, globals := 3, closure := [], defaults := Value.none, kwdefaults := Value.none, pyModule := Value.str (Str.ofString "cpy313.posixpath") 306, code := Value.ref 107 } }
noncomputable def a111 : Obj := { cls := Value.type "tuple", data := Data.seq #[Value.str (Str.ofString "a") 318, Value.str (Str.ofString "p") 319, Value.str (Str.ofString "sep") 320, Value.str (Str.ofString "path") 321, Value.str (Str.ofString "b") 322] }
noncomputable def a113 : Obj := { cls := Value.none, data := Data.func { name := Str.ofString "join", qualname := Str.ofString "join", params := fP10, body := FuncBody.stmts fB10, scope := fS10, globals := 0, closure := [], defaults := Value.none, kwdefaults := Value.none } }
noncomputable def a114 : Obj := { cls := Value.type "code", data := Data.fields #[Value.str (Str.ofString "join") 315, Value.str (Str.ofString "join") 316, Value.str (Str.ofString "/claim/cut.py") 317, Value.int 69 0, Value.int 1 0, Value.int 0 0, Value.int 0 0, Value.int 7 0, Value.ref 109, Value.bool Bool.true, Value.int 181 0, Value.ref 110, Value.none, Value.ref 111, Value.ref 112, Value.ref 113, Value.int 323 0, Value.int 69 0, Value.str (Str.ofString "/claim/cut.py") 324] }
noncomputable def a115 : Obj := { cls := Value.type "function", data := Data.func { name := Str.ofString "join", qualname := Str.ofString "join", params := fP10, body := FuncBody.stmts fB10, scope := fS10, globals := 3, closure := [], defaults := Value.none, kwdefaults := Value.none, pyModule := Value.str (Str.ofString "cpy313.posixpath") 306, code := Value.ref 114 } }
noncomputable def a118 : Obj := { cls := Value.none, data := Data.func { name := Str.ofString "commonpath", qualname := Str.ofString "commonpath", params := fP11, body := FuncBody.stmts fB11, scope := fS11, globals := 0, closure := [], defaults := Value.none, kwdefaults := Value.none } }
noncomputable def a119 : Obj := { cls := Value.type "code", data := Data.fields #[Value.str (Str.ofString "commonpath") 326, Value.str (Str.ofString "commonpath") 327, Value.str (Str.ofString "/claim/cut.py") 328, Value.int 86 0, Value.int 1 0, Value.int 0 0, Value.int 0 0, Value.int 3 0, Value.ref 116, Value.bool Bool.true, Value.int 181 0, Value.ref 117, Value.none, Value.none, Value.none, Value.ref 118, Value.int 329 0, Value.int 86 0, Value.str (Str.ofString "/claim/cut.py") 330] }
noncomputable def a120 : Obj := { cls := Value.type "function", data := Data.func { name := Str.ofString "commonpath", qualname := Str.ofString "commonpath", params := fP11, body := FuncBody.stmts fB11, scope := fS11, globals := 3, closure := [], defaults := Value.none, kwdefaults := Value.none, pyModule := Value.str (Str.ofString "cpy313.posixpath") 306, code := Value.ref 119 } }
noncomputable def a123 : Obj := { cls := Value.type "tuple", data := Data.seq #[Value.str (Str.ofString "mode") 337] }
noncomputable def a125 : Obj := { cls := Value.none, data := Data.func { name := Str.ofString "S_IFMT", qualname := Str.ofString "S_IFMT", params := fP12, body := FuncBody.stmts fB12, scope := fS12, globals := 0, closure := [], defaults := Value.none, kwdefaults := Value.none } }
noncomputable def a126 : Obj := { cls := Value.type "code", data := Data.fields #[Value.str (Str.ofString "S_IFMT") 334, Value.str (Str.ofString "S_IFMT") 335, Value.str (Str.ofString "/claim/cut.py") 336, Value.int 116 0, Value.int 1 0, Value.int 0 0, Value.int 0 0, Value.int 3 0, Value.ref 121, Value.bool Bool.true, Value.int 181 0, Value.ref 122, Value.none, Value.ref 123, Value.ref 124, Value.ref 125, Value.int 338 0, Value.int 116 0, Value.str (Str.ofString "/claim/cut.py") 339] }
noncomputable def a127 : Obj := { cls := Value.type "function", data := Data.func { name := Str.ofString "S_IFMT", qualname := Str.ofString "S_IFMT", params := fP12, body := FuncBody.stmts fB12, scope := fS12, globals := 3, closure := [], defaults := Value.none, kwdefaults := Value.none, pyModule := Value.str (Str.ofString "cpy313.stat") 332, code := Value.ref 126 } }
noncomputable def a128 : Obj := { cls := Value.type "tuple", data := Data.seq #[Value.int 40960 351, Value.str (Str.ofString "l") 379] }
noncomputable def a129 : Obj := { cls := Value.type "tuple", data := Data.seq #[Value.int 49152 353, Value.str (Str.ofString "s") 380] }
noncomputable def a130 : Obj := { cls := Value.type "tuple", data := Data.seq #[Value.int 32768 347, Value.str (Str.ofString "-") 381] }
noncomputable def a131 : Obj := { cls := Value.type "tuple", data := Data.seq #[Value.int 24576 345, Value.str (Str.ofString "b") 382] }
noncomputable def a132 : Obj := { cls := Value.type "tuple", data := Data.seq #[Value.int 16384 341, Value.str (Str.ofString "d") 383] }
noncomputable def a133 : Obj := { cls := Value.type "tuple", data := Data.seq #[Value.int 8192 343, Value.str (Str.ofString "c") 384] }
noncomputable def a134 : Obj := { cls := Value.type "tuple", data := Data.seq #[Value.int 4096 349, Value.str (Str.ofString "p") 385] }
noncomputable def a135 : Obj := { cls := Value.type "tuple", data := Data.seq #[Value.ref 128, Value.ref 129, Value.ref 130, Value.ref 131, Value.ref 132, Value.ref 133, Value.ref 134] }
noncomputable def a136 : Obj := { cls := Value.type "tuple", data := Data.seq #[Value.int 256 361, Value.str (Str.ofString "r") 386] }
noncomputable def a137 : Obj := { cls := Value.type "tuple", data := Data.seq #[Value.ref 136] }
noncomputable def a138 : Obj := { cls := Value.type "tuple", data := Data.seq #[Value.int 128 363, Value.str (Str.ofString "w") 387] }
noncomputable def a139 : Obj := { cls := Value.type "tuple", data := Data.seq #[Value.ref 138] }
noncomputable def a140 : Obj := { cls := Value.type "tuple", data := Data.seq #[Value.int 2112 388, Value.str (Str.ofString "s") 389] }
noncomputable def a141 : Obj := { cls := Value.type "tuple", data := Data.seq #[Value.int 2048 355, Value.str (Str.ofString "S") 390] }
noncomputable def a142 : Obj := { cls := Value.type "tuple", data := Data.seq #[Value.int 64 365, Value.str (Str.ofString "x") 391] }
noncomputable def a143 : Obj := { cls := Value.type "tuple", data := Data.seq #[Value.ref 140, Value.ref 141, Value.ref 142] }
noncomputable def a144 : Obj := { cls := Value.type "tuple", data := Data.seq #[Value.int 32 367, Value.str (Str.ofString "r") 392] }
noncomputable def a145 : Obj := { cls := Value.type "tuple", data := Data.seq #[Value.ref 144] }
noncomputable def a146 : Obj := { cls := Value.type "tuple", data := Data.seq #[Value.int 16 369, Value.str (Str.ofString "w") 393] }
noncomputable def a147 : Obj := { cls := Value.type "tuple", data := Data.seq #[Value.ref 146] }
noncomputable def a148 : Obj := { cls := Value.type "tuple", data := Data.seq #[Value.int 1032 394, Value.str (Str.ofString "s") 395] }
noncomputable def a149 : Obj := { cls := Value.type "tuple", data := Data.seq #[Value.int 1024 357, Value.str (Str.ofString "S") 396] }
noncomputable def a150 : Obj := { cls := Value.type "tuple", data := Data.seq #[Value.int 8 371, Value.str (Str.ofString "x") 397] }
noncomputable def a151 : Obj := { cls := Value.type "tuple", data := Data.seq #[Value.ref 148, Value.ref 149, Value.ref 150] }
noncomputable def a152 : Obj := { cls := Value.type "tuple", data := Data.seq #[Value.int 4 373, Value.str (Str.ofString "r") 398] }
noncomputable def a153 : Obj := { cls := Value.type "tuple", data := Data.seq #[Value.ref 152] }
noncomputable def a154 : Obj := { cls := Value.type "tuple", data := Data.seq #[Value.int 2 375, Value.str (Str.ofString "w") 399] }
noncomputable def a155 : Obj := { cls := Value.type "tuple", data := Data.seq #[Value.ref 154] }
noncomputable def a156 : Obj := { cls := Value.type "tuple", data := Data.seq #[Value.int 513 400, Value.str (Str.ofString "t") 401] }
noncomputable def a157 : Obj := { cls := Value.type "tuple", data := Data.seq #[Value.int 512 359, Value.str (Str.ofString "T") 402] }
noncomputable def a158 : Obj := { cls := Value.type "tuple", data := Data.seq #[Value.int 1 377, Value.str (Str.ofString "x") 403] }
noncomputable def a159 : Obj := { cls := Value.type "tuple", data := Data.seq #[Value.ref 156, Value.ref 157, Value.ref 158] }
noncomputable def a160 : Obj := { cls := Value.type "tuple", data := Data.seq #[Value.ref 135, Value.ref 137, Value.ref 139, Value.ref 143, Value.ref 145, Value.ref 147, Value.ref 151, Value.ref 153, Value.ref 155, Value.ref 159] }
noncomputable def a163 : Obj := { cls := Value.type "tuple", data := Data.seq #[Value.str (Str.ofString "mode") 408, Value.str (Str.ofString "perm") 409, Value.str (Str.ofString "index") 410, Value.str (Str.ofString "table") 411, Value.str (Str.ofString "bit") 412, Value.str (Str.ofString "char") 413] }
noncomputable def a165 : Obj := { cls := Value.none, data := Data.func { name := Str.ofString "filemode", qualname := Str.ofString "filemode", params := fP13, body := FuncBody.stmts fB13, scope := fS13, globals := 0, closure := [], defaults := Value.none, kwdefaults := Value.none } }
noncomputable def a166 : Obj := { cls := Value.type "code", data := Data.fields #[Value.str (Str.ofString "filemode") 405, Value.str (Str.ofString "filemode") 406, Value.str (Str.ofString "/claim/cut.py") 407, Value.int 138 0, Value.int 1 0, Value.int 0 0, Value.int 0 0, Value.int 3 0, Value.ref 161, Value.bool Bool.true, Value.int 181 0, Value.ref 162, Value.none, Value.ref 163, Value.ref 164, Value.ref 165, Value.int 414 0, Value.int 138 0, Value.str (Str.ofString "/claim/cut.py") 415] }
noncomputable def a167 : Obj := { cls := Value.type "function", data := Data.func { name := Str.ofString "filemode", qualname := Str.ofString "filemode", params := fP13, body := FuncBody.stmts fB13, scope := fS13, globals := 3, closure := [], defaults := Value.none, kwdefaults := Value.none, pyModule := Value.str (Str.ofString "cpy313.stat") 332, code := Value.ref 166 } }
noncomputable def f3 (P : Params) : Obj := { cls := Value.type "dict", data := Data.dict #[{ hash := PyData.keyHash P (Str.ofString "__name__"), key := Value.str (Str.ofString "__name__") 165, val := Value.str (Str.ofString "law_kt0067_01") 577 }, { hash := PyData.keyHash P (Str.ofString "__doc__"), key := Value.str (Str.ofString "__doc__") 166, val := Value.none }, { hash := PyData.keyHash P (Str.ofString "__package__"), key := Value.str (Str.ofString "__package__") 167, val := Value.none }, { hash := PyData.keyHash P (Str.ofString "__loader__"), key := Value.str (Str.ofString "__loader__") 168, val := Value.builtin "__main__.__loader__#opaque" }, { hash := PyData.keyHash P (Str.ofString "__spec__"), key := Value.str (Str.ofString "__spec__") 169, val := Value.none }, { hash := PyData.keyHash P (Str.ofString "__annotations__"), key := Value.str (Str.ofString "__annotations__") 170, val := Value.ref 6 }, { hash := PyData.keyHash P (Str.ofString "__builtins__"), key := Value.str (Str.ofString "__builtins__") 171, val := Value.ref 4 }, { hash := PyData.keyHash P (Str.ofString "__file__"), key := Value.str (Str.ofString "__file__") 173, val := Value.str (Str.ofString "/claim/cut.py") 172 }, { hash := PyData.keyHash P (Str.ofString "__cached__"), key := Value.str (Str.ofString "__cached__") 174, val := Value.none }, { hash := PyData.keyHash P (Str.ofString "_wall"), key := Value.str (Str.ofString "_wall") 193, val := Value.ref 21 }, { hash := PyData.keyHash P (Str.ofString "_plain_name"), key := Value.str (Str.ofString "_plain_name") 204, val := Value.ref 28 }, { hash := PyData.keyHash P (Str.ofString "ABCMeta"), key := Value.str (Str.ofString "ABCMeta") 230, val := Value.ref 45 }, { hash := PyData.keyHash P (Str.ofString "_ABCLike"), key := Value.str (Str.ofString "_ABCLike") 273, val := Value.ref 78 }, { hash := PyData.keyHash P (Str.ofString "_abc_plain_meta"), key := Value.str (Str.ofString "_abc_plain_meta") 280, val := Value.ref 87 }, { hash := PyData.keyHash P (Str.ofString "fspath"), key := Value.str (Str.ofString "fspath") 292, val := Value.ref 94 }, { hash := PyData.keyHash P (Str.ofString "_check_arg_types"), key := Value.str (Str.ofString "_check_arg_types") 305, val := Value.ref 101 }, { hash := PyData.keyHash P (Str.ofString "_get_sep"), key := Value.str (Str.ofString "_get_sep") 314, val := Value.ref 108 }, { hash := PyData.keyHash P (Str.ofString "join"), key := Value.str (Str.ofString "join") 325, val := Value.ref 115 }, { hash := PyData.keyHash P (Str.ofString "commonpath"), key := Value.str (Str.ofString "commonpath") 331, val := Value.ref 120 }, { hash := PyData.keyHash P (Str.ofString "S_IFMT"), key := Value.str (Str.ofString "S_IFMT") 340, val := Value.ref 127 }, { hash := PyData.keyHash P (Str.ofString "S_IFDIR"), key := Value.str (Str.ofString "S_IFDIR") 342, val := Value.int 16384 341 }, { hash := PyData.keyHash P (Str.ofString "S_IFCHR"), key := Value.str (Str.ofString "S_IFCHR") 344, val := Value.int 8192 343 }, { hash := PyData.keyHash P (Str.ofString "S_IFBLK"), key := Value.str (Str.ofString "S_IFBLK") 346, val := Value.int 24576 345 }, { hash := PyData.keyHash P (Str.ofString "S_IFREG"), key := Value.str (Str.ofString "S_IFREG") 348, val := Value.int 32768 347 }, { hash := PyData.keyHash P (Str.ofString "S_IFIFO"), key := Value.str (Str.ofString "S_IFIFO") 350, val := Value.int 4096 349 }, { hash := PyData.keyHash P (Str.ofString "S_IFLNK"), key := Value.str (Str.ofString "S_IFLNK") 352, val := Value.int 40960 351 }, { hash := PyData.keyHash P (Str.ofString "S_IFSOCK"), key := Value.str (Str.ofString "S_IFSOCK") 354, val := Value.int 49152 353 }, { hash := PyData.keyHash P (Str.ofString "S_ISUID"), key := Value.str (Str.ofString "S_ISUID") 356, val := Value.int 2048 355 }, { hash := PyData.keyHash P (Str.ofString "S_ISGID"), key := Value.str (Str.ofString "S_ISGID") 358, val := Value.int 1024 357 }, { hash := PyData.keyHash P (Str.ofString "S_ISVTX"), key := Value.str (Str.ofString "S_ISVTX") 360, val := Value.int 512 359 }, { hash := PyData.keyHash P (Str.ofString "S_IRUSR"), key := Value.str (Str.ofString "S_IRUSR") 362, val := Value.int 256 361 }, { hash := PyData.keyHash P (Str.ofString "S_IWUSR"), key := Value.str (Str.ofString "S_IWUSR") 364, val := Value.int 128 363 }, { hash := PyData.keyHash P (Str.ofString "S_IXUSR"), key := Value.str (Str.ofString "S_IXUSR") 366, val := Value.int 64 365 }, { hash := PyData.keyHash P (Str.ofString "S_IRGRP"), key := Value.str (Str.ofString "S_IRGRP") 368, val := Value.int 32 367 }, { hash := PyData.keyHash P (Str.ofString "S_IWGRP"), key := Value.str (Str.ofString "S_IWGRP") 370, val := Value.int 16 369 }, { hash := PyData.keyHash P (Str.ofString "S_IXGRP"), key := Value.str (Str.ofString "S_IXGRP") 372, val := Value.int 8 371 }, { hash := PyData.keyHash P (Str.ofString "S_IROTH"), key := Value.str (Str.ofString "S_IROTH") 374, val := Value.int 4 373 }, { hash := PyData.keyHash P (Str.ofString "S_IWOTH"), key := Value.str (Str.ofString "S_IWOTH") 376, val := Value.int 2 375 }, { hash := PyData.keyHash P (Str.ofString "S_IXOTH"), key := Value.str (Str.ofString "S_IXOTH") 378, val := Value.int 1 377 }, { hash := PyData.keyHash P (Str.ofString "_filemode_table"), key := Value.str (Str.ofString "_filemode_table") 404, val := Value.ref 160 }, { hash := PyData.keyHash P (Str.ofString "filemode"), key := Value.str (Str.ofString "filemode") 416, val := Value.ref 167 }, { hash := PyData.keyHash P (Str.ofString "digits"), key := Value.str (Str.ofString "digits") 418, val := Value.str (Str.ofString "0123456789") 417 }, { hash := PyData.keyHash P (Str.ofString "hexdigits"), key := Value.str (Str.ofString "hexdigits") 423, val := Value.str (Str.ofString "0123456789abcdefABCDEF") 422 }, { hash := PyData.keyHash P (Str.ofString "HEXDIGIT_CHARS"), key := Value.str (Str.ofString "HEXDIGIT_CHARS") 470, val := Value.ref 168 }, { hash := PyData.keyHash P (Str.ofString "TOMLDecodeError"), key := Value.str (Str.ofString "TOMLDecodeError") 488, val := Value.ref 181 }, { hash := PyData.keyHash P (Str.ofString "NestedDict"), key := Value.str (Str.ofString "NestedDict") 536, val := Value.ref 216 }, { hash := PyData.keyHash P (Str.ofString "skip_until"), key := Value.str (Str.ofString "skip_until") 548, val := Value.ref 227 }, { hash := PyData.keyHash P (Str.ofString "parse_hex_char"), key := Value.str (Str.ofString "parse_hex_char") 559, val := Value.ref 234 }, { hash := PyData.keyHash P (Str.ofString "suffixed_err"), key := Value.str (Str.ofString "suffixed_err") 569, val := Value.ref 241 }, { hash := PyData.keyHash P (Str.ofString "is_unicode_scalar_value"), key := Value.str (Str.ofString "is_unicode_scalar_value") 576, val := Value.ref 248 }, { hash := PyData.keyHash P (Str.ofString "_law_signs"), key := Value.str (Str.ofString "_law_signs") 589, val := Value.ref 255 }, { hash := PyData.keyHash P (Str.ofString "_law_figures"), key := Value.str (Str.ofString "_law_figures") 595, val := Value.ref 260 }, { hash := PyData.keyHash P (Str.ofString "_law_old"), key := Value.str (Str.ofString "_law_old") 605, val := Value.ref 267 }, { hash := PyData.keyHash P (Str.ofString "_law_shared"), key := Value.str (Str.ofString "_law_shared") 615, val := Value.ref 274 }, { hash := PyData.keyHash P (Str.ofString "_law_nests"), key := Value.str (Str.ofString "_law_nests") 621, val := Value.ref 279 }, { hash := PyData.keyHash P (Str.ofString "law"), key := Value.str (Str.ofString "law") 627, val := Value.ref 284 }] 56 }
noncomputable def f12 : Obj := { cls := Value.none, data := Data.fields #[Value.int 1 0, Value.int 0 0, Value.ref 20, Value.int 5 0, Value.int 0 0, Value.ref 27, Value.int 11 0, Value.int 0 0, Value.ref 34, Value.int 16 0, Value.int 0 0, Value.ref 53, Value.int 31 0, Value.int 0 0, Value.ref 86, Value.int 35 0, Value.int 0 0, Value.ref 93, Value.int 52 0, Value.int 0 0, Value.ref 100, Value.int 64 0, Value.int 0 0, Value.ref 107, Value.int 69 0, Value.int 0 0, Value.ref 114, Value.int 86 0, Value.int 0 0, Value.ref 119, Value.int 116 0, Value.int 0 0, Value.ref 126, Value.int 138 0, Value.int 0 0, Value.ref 166, Value.int 159 0, Value.int 0 0, Value.ref 177, Value.int 161 0, Value.int 0 0, Value.ref 190, Value.int 180 0, Value.int 0 0, Value.ref 226, Value.int 192 0, Value.int 0 0, Value.ref 233, Value.int 201 0, Value.int 0 0, Value.ref 240, Value.int 213 0, Value.int 0 0, Value.ref 247, Value.int 216 0, Value.int 0 0, Value.ref 254, Value.int 227 0, Value.int 0 0, Value.ref 259, Value.int 229 0, Value.int 0 0, Value.ref 266, Value.int 237 0, Value.int 0 0, Value.ref 273, Value.int 241 0, Value.int 0 0, Value.ref 278, Value.int 243 0, Value.int 0 0, Value.ref 283] }
noncomputable def f168 : Obj := { cls := Value.type "list", data := Data.seq #[Value.int 1 426, Value.int 1 427, Value.int 1 428, Value.int 1 429, Value.int 1 430, Value.int 1 431, Value.int 1 432, Value.int 1 433, Value.int 1 434, Value.int 1 435, Value.int 1 436, Value.int 1 437, Value.int 1 438, Value.int 1 439, Value.int 1 440, Value.int 1 441, Value.int 1 442, Value.int 1 443, Value.int 1 444, Value.int 1 445, Value.int 1 446, Value.int 1 447, Value.int 1 448, Value.int 1 449, Value.int 1 450, Value.int 1 451, Value.int 1 452, Value.int 1 453, Value.int 1 454, Value.int 1 455, Value.int 1 456, Value.int 1 457, Value.int 1 458, Value.int 1 459, Value.int 1 460, Value.int 1 461, Value.int 1 462, Value.int 1 463, Value.int 1 464, Value.int 1 465, Value.int 1 466, Value.int 1 467, Value.int 1 468] }
noncomputable def f169 : Obj := { cls := Value.type "list", data := Data.seq #[] }
noncomputable def f171 : Obj := { cls := Value.type "list", data := Data.seq #[Value.ref 168, Value.ref 169, Value.ref 170] }
noncomputable def f172 : Obj := { cls := Value.type "tuple", data := Data.seq #[Value.type "ValueError"] }
noncomputable def f174 (P : Params) : Obj := { cls := Value.type "dict", data := Data.dict #[{ hash := PyData.keyHash P (Str.ofString "__module__"), key := Value.str (Str.ofString "__module__") 478, val := Value.str (Str.ofString "cpy313.tomllib._parser") 424 }, { hash := PyData.keyHash P (Str.ofString "__qualname__"), key := Value.str (Str.ofString "__qualname__") 480, val := Value.str (Str.ofString "TOMLDecodeError") 479 }, { hash := PyData.keyHash P (Str.ofString "__firstlineno__"), key := Value.str (Str.ofString "__firstlineno__") 482, val := Value.int 159 481 }, { hash := PyData.keyHash P (Str.ofString "__static_attributes__"), key := Value.str (Str.ofString "__static_attributes__") 483, val := Value.ref 179 }] 4 }
noncomputable def f177 : Obj := { cls := Value.type "code", data := Data.fields #[Value.str (Str.ofString "TOMLDecodeError") 473, Value.str (Str.ofString "TOMLDecodeError") 474, Value.str (Str.ofString "/claim/cut.py") 475, Value.int 159 0, Value.int 0 0, Value.int 0 0, Value.int 0 0, Value.int 0 0, Value.ref 175, Value.bool Bool.false, Value.int 181 0, Value.ref 176, Value.none, Value.none, Value.none, Value.none, Value.int 476 0, Value.int 159 0, Value.str (Str.ofString "/claim/cut.py") 477] }
noncomputable def f178 : Obj := { cls := Value.type "frame", slots := #[some (Value.ref 177), some (Value.ref 3), some (Value.ref 174), none, some (Value.str (Str.ofString "cpy313.tomllib._parser") 424), none, some (Value.ref 0)] }
noncomputable def f180 (P : Params) : Obj := { cls := Value.type "dict", data := Data.dict #[{ hash := PyData.keyHash P (Str.ofString "__module__"), key := Value.str (Str.ofString "__module__") 478, val := Value.str (Str.ofString "cpy313.tomllib._parser") 424 }, { hash := PyData.keyHash P (Str.ofString "__firstlineno__"), key := Value.str (Str.ofString "__firstlineno__") 482, val := Value.int 159 481 }, { hash := PyData.keyHash P (Str.ofString "__static_attributes__"), key := Value.str (Str.ofString "__static_attributes__") 483, val := Value.ref 179 }, { hash := PyData.keyHash P (Str.ofString "__weakref__"), key := Value.str (Str.ofString "__weakref__") 485, val := Value.ref 182 }, { hash := PyData.keyHash P (Str.ofString "__doc__"), key := Value.str (Str.ofString "__doc__") 486, val := Value.none }] 3 }
noncomputable def f181 : Obj := { cls := Value.type "type", data := Data.cls { name := Str.ofString "TOMLDecodeError", bases := [Value.type "ValueError"], mro := [Value.ref 181, Value.type "ValueError", Value.type "Exception", Value.type "BaseException", Value.type "object"], ns := 180, qualname := Str.ofString "TOMLDecodeError" }, slots := #[some (Value.ref 172), none, some (Value.str (Str.ofString "TOMLDecodeError") 471), some (Value.str (Str.ofString "TOMLDecodeError") 479), some (Value.builtin "ValueError.__new__"), some (Value.bool Bool.true)] }
noncomputable def f182 : Obj := { cls := Value.type "getset_descriptor", data := Data.fields #[Value.str (Str.ofString "__weakref__") 484, Value.ref 181, Value.builtin "ExceptionGroup.__weakref__", Value.none] }
noncomputable def f183 : Obj := { cls := Value.type "super", data := Data.fields #[Value.ref 181, Value.ref 181, Value.ref 181] }
noncomputable def f184 : Obj := { cls := Value.type "builtin_function_or_method", data := Data.fields #[Value.builtin "object.__init_subclass__", Value.ref 181] }
noncomputable def f187 (P : Params) : Obj := { cls := Value.type "dict", data := Data.dict #[{ hash := PyData.keyHash P (Str.ofString "__module__"), key := Value.str (Str.ofString "__module__") 496, val := Value.str (Str.ofString "cpy313.tomllib._parser") 424 }, { hash := PyData.keyHash P (Str.ofString "__qualname__"), key := Value.str (Str.ofString "__qualname__") 498, val := Value.str (Str.ofString "NestedDict") 497 }, { hash := PyData.keyHash P (Str.ofString "__firstlineno__"), key := Value.str (Str.ofString "__firstlineno__") 500, val := Value.int 161 499 }, { hash := PyData.keyHash P (Str.ofString "__init__"), key := Value.str (Str.ofString "__init__") 507, val := Value.ref 198 }, { hash := PyData.keyHash P (Str.ofString "get_or_create_nest"), key := Value.str (Str.ofString "get_or_create_nest") 519, val := Value.ref 206 }, { hash := PyData.keyHash P (Str.ofString "append_nest_to_list"), key := Value.str (Str.ofString "append_nest_to_list") 527, val := Value.ref 213 }, { hash := PyData.keyHash P (Str.ofString "__static_attributes__"), key := Value.str (Str.ofString "__static_attributes__") 529, val := Value.ref 214 }] 7 }
noncomputable def f189 : Obj := { cls := Value.none, data := Data.fields #[Value.int 163 0, Value.int 4 0, Value.ref 197, Value.int 166 0, Value.int 4 0, Value.ref 205, Value.int 178 0, Value.int 4 0, Value.ref 212] }
noncomputable def f190 : Obj := { cls := Value.type "code", data := Data.fields #[Value.str (Str.ofString "NestedDict") 491, Value.str (Str.ofString "NestedDict") 492, Value.str (Str.ofString "/claim/cut.py") 493, Value.int 161 0, Value.int 0 0, Value.int 0 0, Value.int 0 0, Value.int 0 0, Value.ref 188, Value.bool Bool.false, Value.int 181 0, Value.ref 189, Value.none, Value.none, Value.none, Value.none, Value.int 494 0, Value.int 161 0, Value.str (Str.ofString "/claim/cut.py") 495] }
noncomputable def f191 : Obj := { cls := Value.type "frame", slots := #[some (Value.ref 190), some (Value.ref 3), some (Value.ref 187), none, some (Value.str (Str.ofString "cpy313.tomllib._parser") 424), none, some (Value.ref 0)] }
noncomputable def f194 : Obj := { cls := Value.type "tuple", data := Data.seq #[Value.str (Str.ofString "self") 504] }
noncomputable def f196 : Obj := { cls := Value.none, data := Data.func { name := Str.ofString "__init__", qualname := Str.ofString "NestedDict.__init__", params := fP14, body := FuncBody.stmts fB14, scope := fS14, globals := 0, closure := [], defaults := Value.none, kwdefaults := Value.none } }
noncomputable def f197 : Obj := { cls := Value.type "code", data := Data.fields #[Value.str (Str.ofString "__init__") 501, Value.str (Str.ofString "NestedDict.__init__") 502, Value.str (Str.ofString "/claim/cut.py") 503, Value.int 163 0, Value.int 1 0, Value.int 0 0, Value.int 0 0, Value.int 3 0, Value.ref 192, Value.bool Bool.true, Value.int 181 0, Value.ref 193, Value.none, Value.ref 194, Value.ref 195, Value.ref 196, Value.int 505 0, Value.int 163 0, Value.str (Str.ofString "/claim/cut.py") 506] }
noncomputable def f198 : Obj := { cls := Value.type "function", data := Data.func { name := Str.ofString "__init__", qualname := Str.ofString "NestedDict.__init__", params := fP14, body := FuncBody.stmts fB14, scope := fS14, globals := 3, closure := [], defaults := Value.none, kwdefaults := Value.none, pyModule := Value.str (Str.ofString "cpy313.tomllib._parser") 424, code := Value.ref 197 } }
noncomputable def f199 (P : Params) : Obj := { cls := Value.type "dict", data := Data.dict #[{ hash := PyData.keyHash P (Str.ofString "access_lists"), key := Value.str (Str.ofString "access_lists") 508, val := Value.bool Bool.true }] 1 }
noncomputable def f202 : Obj := { cls := Value.type "tuple", data := Data.seq #[Value.str (Str.ofString "self") 512, Value.str (Str.ofString "key") 513, Value.str (Str.ofString "access_lists") 514, Value.str (Str.ofString "cont") 515, Value.str (Str.ofString "k") 516] }
noncomputable def f204 : Obj := { cls := Value.none, data := Data.func { name := Str.ofString "get_or_create_nest", qualname := Str.ofString "NestedDict.get_or_create_nest", params := fP15, body := FuncBody.stmts fB15, scope := fS15, globals := 0, closure := [], defaults := Value.none, kwdefaults := Value.none } }
noncomputable def f205 : Obj := { cls := Value.type "code", data := Data.fields #[Value.str (Str.ofString "get_or_create_nest") 509, Value.str (Str.ofString "NestedDict.get_or_create_nest") 510, Value.str (Str.ofString "/claim/cut.py") 511, Value.int 166 0, Value.int 2 0, Value.int 0 0, Value.int 1 0, Value.int 3 0, Value.ref 200, Value.bool Bool.true, Value.int 181 0, Value.ref 201, Value.none, Value.ref 202, Value.ref 203, Value.ref 204, Value.int 517 0, Value.int 166 0, Value.str (Str.ofString "/claim/cut.py") 518] }
noncomputable def f206 : Obj := { cls := Value.type "function", data := Data.func { name := Str.ofString "get_or_create_nest", qualname := Str.ofString "NestedDict.get_or_create_nest", params := fP15, body := FuncBody.stmts fB15, scope := fS15, globals := 3, closure := [], defaults := Value.none, kwdefaults := Value.ref 199, pyModule := Value.str (Str.ofString "cpy313.tomllib._parser") 424, code := Value.ref 205 } }
noncomputable def f209 : Obj := { cls := Value.type "tuple", data := Data.seq #[Value.str (Str.ofString "self") 523, Value.str (Str.ofString "key") 524] }
noncomputable def f211 : Obj := { cls := Value.none, data := Data.func { name := Str.ofString "append_nest_to_list", qualname := Str.ofString "NestedDict.append_nest_to_list", params := fP16, body := FuncBody.stmts fB16, scope := fS16, globals := 0, closure := [], defaults := Value.none, kwdefaults := Value.none } }
noncomputable def f212 : Obj := { cls := Value.type "code", data := Data.fields #[Value.str (Str.ofString "append_nest_to_list") 520, Value.str (Str.ofString "NestedDict.append_nest_to_list") 521, Value.str (Str.ofString "/claim/cut.py") 522, Value.int 178 0, Value.int 2 0, Value.int 0 0, Value.int 0 0, Value.int 3 0, Value.ref 207, Value.bool Bool.true, Value.int 181 0, Value.ref 208, Value.none, Value.ref 209, Value.ref 210, Value.ref 211, Value.int 525 0, Value.int 178 0, Value.str (Str.ofString "/claim/cut.py") 526] }
noncomputable def f213 : Obj := { cls := Value.type "function", data := Data.func { name := Str.ofString "append_nest_to_list", qualname := Str.ofString "NestedDict.append_nest_to_list", params := fP16, body := FuncBody.stmts fB16, scope := fS16, globals := 3, closure := [], defaults := Value.none, kwdefaults := Value.none, pyModule := Value.str (Str.ofString "cpy313.tomllib._parser") 424, code := Value.ref 212 } }
noncomputable def f214 : Obj := { cls := Value.type "tuple", data := Data.seq #[Value.str (Str.ofString "dict") 528] }
noncomputable def f215 (P : Params) : Obj := { cls := Value.type "dict", data := Data.dict #[{ hash := PyData.keyHash P (Str.ofString "__module__"), key := Value.str (Str.ofString "__module__") 496, val := Value.str (Str.ofString "cpy313.tomllib._parser") 424 }, { hash := PyData.keyHash P (Str.ofString "__firstlineno__"), key := Value.str (Str.ofString "__firstlineno__") 500, val := Value.int 161 499 }, { hash := PyData.keyHash P (Str.ofString "__init__"), key := Value.str (Str.ofString "__init__") 507, val := Value.ref 198 }, { hash := PyData.keyHash P (Str.ofString "get_or_create_nest"), key := Value.str (Str.ofString "get_or_create_nest") 519, val := Value.ref 206 }, { hash := PyData.keyHash P (Str.ofString "append_nest_to_list"), key := Value.str (Str.ofString "append_nest_to_list") 527, val := Value.ref 213 }, { hash := PyData.keyHash P (Str.ofString "__static_attributes__"), key := Value.str (Str.ofString "__static_attributes__") 529, val := Value.ref 214 }, { hash := PyData.keyHash P (Str.ofString "__dict__"), key := Value.str (Str.ofString "__dict__") 531, val := Value.ref 217 }, { hash := PyData.keyHash P (Str.ofString "__weakref__"), key := Value.str (Str.ofString "__weakref__") 533, val := Value.ref 218 }, { hash := PyData.keyHash P (Str.ofString "__doc__"), key := Value.str (Str.ofString "__doc__") 534, val := Value.none }] 4 }
noncomputable def f216 : Obj := { cls := Value.type "type", data := Data.cls { name := Str.ofString "NestedDict", bases := [Value.type "object"], mro := [Value.ref 216, Value.type "object"], ns := 215, qualname := Str.ofString "NestedDict" }, slots := #[none, none, some (Value.str (Str.ofString "NestedDict") 489), some (Value.str (Str.ofString "NestedDict") 497), some (Value.builtin "object.__new__"), some (Value.bool Bool.true)] }
noncomputable def f217 : Obj := { cls := Value.type "getset_descriptor", data := Data.fields #[Value.str (Str.ofString "__dict__") 530, Value.ref 216, Value.builtin "function.__dict__", Value.builtin "function.__dict__#set"] }
noncomputable def f218 : Obj := { cls := Value.type "getset_descriptor", data := Data.fields #[Value.str (Str.ofString "__weakref__") 532, Value.ref 216, Value.builtin "ExceptionGroup.__weakref__", Value.none] }
noncomputable def f219 : Obj := { cls := Value.type "super", data := Data.fields #[Value.ref 216, Value.ref 216, Value.ref 216] }
noncomputable def f220 : Obj := { cls := Value.type "builtin_function_or_method", data := Data.fields #[Value.builtin "object.__init_subclass__", Value.ref 216] }
noncomputable def f223 : Obj := { cls := Value.type "tuple", data := Data.seq #[Value.str (Str.ofString "src") 540, Value.str (Str.ofString "pos") 541, Value.str (Str.ofString "expect") 542, Value.str (Str.ofString "error_on") 543, Value.str (Str.ofString "error_on_eof") 544, Value.str (Str.ofString "new_pos") 545] }
noncomputable def f225 : Obj := { cls := Value.none, data := Data.func { name := Str.ofString "skip_until", qualname := Str.ofString "skip_until", params := fP17, body := FuncBody.stmts fB17, scope := fS17, globals := 0, closure := [], defaults := Value.none, kwdefaults := Value.none } }
noncomputable def f226 : Obj := { cls := Value.type "code", data := Data.fields #[Value.str (Str.ofString "skip_until") 537, Value.str (Str.ofString "skip_until") 538, Value.str (Str.ofString "/claim/cut.py") 539, Value.int 180 0, Value.int 3 0, Value.int 0 0, Value.int 2 0, Value.int 3 0, Value.ref 221, Value.bool Bool.true, Value.int 181 0, Value.ref 222, Value.none, Value.ref 223, Value.ref 224, Value.ref 225, Value.int 546 0, Value.int 180 0, Value.str (Str.ofString "/claim/cut.py") 547] }
noncomputable def f227 : Obj := { cls := Value.type "function", data := Data.func { name := Str.ofString "skip_until", qualname := Str.ofString "skip_until", params := fP17, body := FuncBody.stmts fB17, scope := fS17, globals := 3, closure := [], defaults := Value.none, kwdefaults := Value.none, pyModule := Value.str (Str.ofString "cpy313.tomllib._parser") 424, code := Value.ref 226 } }
noncomputable def f230 : Obj := { cls := Value.type "tuple", data := Data.seq #[Value.str (Str.ofString "src") 552, Value.str (Str.ofString "pos") 553, Value.str (Str.ofString "hex_len") 554, Value.str (Str.ofString "hex_str") 555, Value.str (Str.ofString "hex_int") 556] }
noncomputable def f232 : Obj := { cls := Value.none, data := Data.func { name := Str.ofString "parse_hex_char", qualname := Str.ofString "parse_hex_char", params := fP18, body := FuncBody.stmts fB18, scope := fS18, globals := 0, closure := [], defaults := Value.none, kwdefaults := Value.none } }
noncomputable def f233 : Obj := { cls := Value.type "code", data := Data.fields #[Value.str (Str.ofString "parse_hex_char") 549, Value.str (Str.ofString "parse_hex_char") 550, Value.str (Str.ofString "/claim/cut.py") 551, Value.int 192 0, Value.int 3 0, Value.int 0 0, Value.int 0 0, Value.int 3 0, Value.ref 228, Value.bool Bool.true, Value.int 181 0, Value.ref 229, Value.none, Value.ref 230, Value.ref 231, Value.ref 232, Value.int 557 0, Value.int 192 0, Value.str (Str.ofString "/claim/cut.py") 558] }
noncomputable def f234 : Obj := { cls := Value.type "function", data := Data.func { name := Str.ofString "parse_hex_char", qualname := Str.ofString "parse_hex_char", params := fP18, body := FuncBody.stmts fB18, scope := fS18, globals := 3, closure := [], defaults := Value.none, kwdefaults := Value.none, pyModule := Value.str (Str.ofString "cpy313.tomllib._parser") 424, code := Value.ref 233 } }
noncomputable def f237 : Obj := { cls := Value.type "tuple", data := Data.seq #[Value.str (Str.ofString "src") 563, Value.str (Str.ofString "pos") 564, Value.str (Str.ofString "msg") 565, Value.str (Str.ofString "coord_repr") 566] }
noncomputable def f239 : Obj := { cls := Value.none, data := Data.func { name := Str.ofString "suffixed_err", qualname := Str.ofString "suffixed_err", params := fP19, body := FuncBody.stmts fB19, scope := fS19, globals := 0, closure := [], defaults := Value.none, kwdefaults := Value.none } }
noncomputable def f240 : Obj := { cls := Value.type "code", data := Data.fields #[Value.str (Str.ofString "suffixed_err") 560, Value.str (Str.ofString "suffixed_err") 561, Value.str (Str.ofString "/claim/cut.py") 562, Value.int 201 0, Value.int 3 0, Value.int 0 0, Value.int 0 0, Value.int 3 0, Value.ref 235, Value.bool Bool.true, Value.int 181 0, Value.ref 236, Value.none, Value.ref 237, Value.ref 238, Value.ref 239, Value.int 567 0, Value.int 201 0, Value.str (Str.ofString "/claim/cut.py") 568] }
noncomputable def f241 : Obj := { cls := Value.type "function", data := Data.func { name := Str.ofString "suffixed_err", qualname := Str.ofString "suffixed_err", params := fP19, body := FuncBody.stmts fB19, scope := fS19, globals := 3, closure := [], defaults := Value.none, kwdefaults := Value.none, pyModule := Value.str (Str.ofString "cpy313.tomllib._parser") 424, code := Value.ref 240 } }
noncomputable def f244 : Obj := { cls := Value.type "tuple", data := Data.seq #[Value.str (Str.ofString "codepoint") 573] }
noncomputable def f246 : Obj := { cls := Value.none, data := Data.func { name := Str.ofString "is_unicode_scalar_value", qualname := Str.ofString "is_unicode_scalar_value", params := fP21, body := FuncBody.stmts fB21, scope := fS21, globals := 0, closure := [], defaults := Value.none, kwdefaults := Value.none } }
noncomputable def f247 : Obj := { cls := Value.type "code", data := Data.fields #[Value.str (Str.ofString "is_unicode_scalar_value") 570, Value.str (Str.ofString "is_unicode_scalar_value") 571, Value.str (Str.ofString "/claim/cut.py") 572, Value.int 213 0, Value.int 1 0, Value.int 0 0, Value.int 0 0, Value.int 3 0, Value.ref 242, Value.bool Bool.true, Value.int 181 0, Value.ref 243, Value.none, Value.ref 244, Value.ref 245, Value.ref 246, Value.int 574 0, Value.int 213 0, Value.str (Str.ofString "/claim/cut.py") 575] }
noncomputable def f248 : Obj := { cls := Value.type "function", data := Data.func { name := Str.ofString "is_unicode_scalar_value", qualname := Str.ofString "is_unicode_scalar_value", params := fP21, body := FuncBody.stmts fB21, scope := fS21, globals := 3, closure := [], defaults := Value.none, kwdefaults := Value.none, pyModule := Value.str (Str.ofString "cpy313.tomllib._parser") 424, code := Value.ref 247 } }
noncomputable def f251 : Obj := { cls := Value.type "tuple", data := Data.seq #[Value.str (Str.ofString "mode") 582, Value.str (Str.ofString "signs") 583, Value.str (Str.ofString "k") 584, Value.str (Str.ofString "figure") 585, Value.str (Str.ofString "two") 586] }
noncomputable def f253 : Obj := { cls := Value.none, data := Data.func { name := Str.ofString "_law_signs", qualname := Str.ofString "_law_signs", params := fP22, body := FuncBody.stmts fB22, scope := fS22, globals := 0, closure := [], defaults := Value.none, kwdefaults := Value.none } }
noncomputable def f254 : Obj := { cls := Value.type "code", data := Data.fields #[Value.str (Str.ofString "_law_signs") 579, Value.str (Str.ofString "_law_signs") 580, Value.str (Str.ofString "/claim/cut.py") 581, Value.int 216 0, Value.int 1 0, Value.int 0 0, Value.int 0 0, Value.int 3 0, Value.ref 249, Value.bool Bool.true, Value.int 181 0, Value.ref 250, Value.none, Value.ref 251, Value.ref 252, Value.ref 253, Value.int 587 0, Value.int 216 0, Value.str (Str.ofString "/claim/cut.py") 588] }
noncomputable def f255 : Obj := { cls := Value.type "function", data := Data.func { name := Str.ofString "_law_signs", qualname := Str.ofString "_law_signs", params := fP22, body := FuncBody.stmts fB22, scope := fS22, globals := 3, closure := [], defaults := Value.none, kwdefaults := Value.none, pyModule := Value.str (Str.ofString "law_kt0067_01") 577, code := Value.ref 254 } }
noncomputable def f258 : Obj := { cls := Value.none, data := Data.func { name := Str.ofString "_law_figures", qualname := Str.ofString "_law_figures", params := fP23, body := FuncBody.stmts fB23, scope := fS23, globals := 0, closure := [], defaults := Value.none, kwdefaults := Value.none } }
noncomputable def f259 : Obj := { cls := Value.type "code", data := Data.fields #[Value.str (Str.ofString "_law_figures") 590, Value.str (Str.ofString "_law_figures") 591, Value.str (Str.ofString "/claim/cut.py") 592, Value.int 227 0, Value.int 1 0, Value.int 0 0, Value.int 0 0, Value.int 3 0, Value.ref 256, Value.bool Bool.true, Value.int 181 0, Value.ref 257, Value.none, Value.none, Value.none, Value.ref 258, Value.int 593 0, Value.int 227 0, Value.str (Str.ofString "/claim/cut.py") 594] }
noncomputable def f260 : Obj := { cls := Value.type "function", data := Data.func { name := Str.ofString "_law_figures", qualname := Str.ofString "_law_figures", params := fP23, body := FuncBody.stmts fB23, scope := fS23, globals := 3, closure := [], defaults := Value.none, kwdefaults := Value.none, pyModule := Value.str (Str.ofString "law_kt0067_01") 577, code := Value.ref 259 } }
noncomputable def f263 : Obj := { cls := Value.type "tuple", data := Data.seq #[Value.str (Str.ofString "text") 599, Value.str (Str.ofString "place") 600, Value.str (Str.ofString "much") 601, Value.str (Str.ofString "piece") 602] }
noncomputable def f265 : Obj := { cls := Value.none, data := Data.func { name := Str.ofString "_law_old", qualname := Str.ofString "_law_old", params := fP24, body := FuncBody.stmts fB24, scope := fS24, globals := 0, closure := [], defaults := Value.none, kwdefaults := Value.none } }
noncomputable def f266 : Obj := { cls := Value.type "code", data := Data.fields #[Value.str (Str.ofString "_law_old") 596, Value.str (Str.ofString "_law_old") 597, Value.str (Str.ofString "/claim/cut.py") 598, Value.int 229 0, Value.int 2 0, Value.int 0 0, Value.int 0 0, Value.int 3 0, Value.ref 261, Value.bool Bool.true, Value.int 181 0, Value.ref 262, Value.none, Value.ref 263, Value.ref 264, Value.ref 265, Value.int 603 0, Value.int 229 0, Value.str (Str.ofString "/claim/cut.py") 604] }
noncomputable def f267 : Obj := { cls := Value.type "function", data := Data.func { name := Str.ofString "_law_old", qualname := Str.ofString "_law_old", params := fP24, body := FuncBody.stmts fB24, scope := fS24, globals := 3, closure := [], defaults := Value.none, kwdefaults := Value.none, pyModule := Value.str (Str.ofString "law_kt0067_01") 577, code := Value.ref 266 } }
noncomputable def f270 : Obj := { cls := Value.type "tuple", data := Data.seq #[Value.str (Str.ofString "one") 609, Value.str (Str.ofString "other") 610, Value.str (Str.ofString "both") 611, Value.str (Str.ofString "much") 612] }
noncomputable def f272 : Obj := { cls := Value.none, data := Data.func { name := Str.ofString "_law_shared", qualname := Str.ofString "_law_shared", params := fP25, body := FuncBody.stmts fB25, scope := fS25, globals := 0, closure := [], defaults := Value.none, kwdefaults := Value.none } }
noncomputable def f273 : Obj := { cls := Value.type "code", data := Data.fields #[Value.str (Str.ofString "_law_shared") 606, Value.str (Str.ofString "_law_shared") 607, Value.str (Str.ofString "/claim/cut.py") 608, Value.int 237 0, Value.int 2 0, Value.int 0 0, Value.int 0 0, Value.int 3 0, Value.ref 268, Value.bool Bool.true, Value.int 181 0, Value.ref 269, Value.none, Value.ref 270, Value.ref 271, Value.ref 272, Value.int 613 0, Value.int 237 0, Value.str (Str.ofString "/claim/cut.py") 614] }
noncomputable def f274 : Obj := { cls := Value.type "function", data := Data.func { name := Str.ofString "_law_shared", qualname := Str.ofString "_law_shared", params := fP25, body := FuncBody.stmts fB25, scope := fS25, globals := 3, closure := [], defaults := Value.none, kwdefaults := Value.none, pyModule := Value.str (Str.ofString "law_kt0067_01") 577, code := Value.ref 273 } }
noncomputable def f277 : Obj := { cls := Value.none, data := Data.func { name := Str.ofString "_law_nests", qualname := Str.ofString "_law_nests", params := fP26, body := FuncBody.stmts fB26, scope := fS26, globals := 0, closure := [], defaults := Value.none, kwdefaults := Value.none } }
noncomputable def f278 : Obj := { cls := Value.type "code", data := Data.fields #[Value.str (Str.ofString "_law_nests") 616, Value.str (Str.ofString "_law_nests") 617, Value.str (Str.ofString "/claim/cut.py") 618, Value.int 241 0, Value.int 1 0, Value.int 0 0, Value.int 0 0, Value.int 3 0, Value.ref 275, Value.bool Bool.true, Value.int 181 0, Value.ref 276, Value.none, Value.none, Value.none, Value.ref 277, Value.int 619 0, Value.int 241 0, Value.str (Str.ofString "/claim/cut.py") 620] }
noncomputable def f279 : Obj := { cls := Value.type "function", data := Data.func { name := Str.ofString "_law_nests", qualname := Str.ofString "_law_nests", params := fP26, body := FuncBody.stmts fB26, scope := fS26, globals := 3, closure := [], defaults := Value.none, kwdefaults := Value.none, pyModule := Value.str (Str.ofString "law_kt0067_01") 577, code := Value.ref 278 } }
noncomputable def f282 : Obj := { cls := Value.none, data := Data.func { name := Str.ofString "law", qualname := Str.ofString "law", params := fP27, body := FuncBody.stmts fB27, scope := fS27, globals := 0, closure := [], defaults := Value.none, kwdefaults := Value.none } }
noncomputable def f283 : Obj := { cls := Value.type "code", data := Data.fields #[Value.str (Str.ofString "law") 622, Value.str (Str.ofString "law") 623, Value.str (Str.ofString "/claim/cut.py") 624, Value.int 243 0, Value.int 1 0, Value.int 0 0, Value.int 0 0, Value.int 3 0, Value.ref 280, Value.bool Bool.true, Value.int 181 0, Value.ref 281, Value.none, Value.none, Value.none, Value.ref 282, Value.int 625 0, Value.int 243 0, Value.str (Str.ofString "/claim/cut.py") 626] }
noncomputable def f284 : Obj := { cls := Value.type "function", data := Data.func { name := Str.ofString "law", qualname := Str.ofString "law", params := fP27, body := FuncBody.stmts fB27, scope := fS27, globals := 3, closure := [], defaults := Value.none, kwdefaults := Value.none, pyModule := Value.str (Str.ofString "law_kt0067_01") 577, code := Value.ref 283 } }
noncomputable def t4 (P : Params) : BT := BT.node (boot_o_0 P) (BT.node (boot_o_1 P) (BT.node (boot_o_3 P) (BT.node (boot_o_7 P) BT.nil BT.nil) (BT.node b11 BT.nil BT.nil)) (BT.node (boot_o_5 P) (BT.node (boot_o_9 P) BT.nil BT.nil) (BT.node b13 BT.nil BT.nil))) (BT.node (boot_o_2 P) (BT.node (boot_o_4 P) (BT.node (boot_o_8 P) BT.nil BT.nil) (BT.node b12 BT.nil BT.nil)) (BT.node (boot_o_6 P) (BT.node (boot_o_10 P) BT.nil BT.nil) (BT.node b14 BT.nil BT.nil)))
noncomputable def tA (P : Params) : BT := BT.node (boot_o_0 P) (BT.node (boot_o_1 P) (BT.node (a3 P) (BT.node (boot_o_7 P) (BT.node b11 (BT.node (a31 P) (BT.node b12 (BT.node a127 BT.nil BT.nil) BT.nil) (BT.node b11 (BT.node a159 BT.nil BT.nil) BT.nil)) (BT.node a47 (BT.node a79 (BT.node a143 BT.nil BT.nil) BT.nil) (BT.node a111 BT.nil BT.nil))) (BT.node b12 (BT.node b11 (BT.node a71 (BT.node a135 BT.nil BT.nil) BT.nil) (BT.node b12 (BT.node a167 BT.nil BT.nil) BT.nil)) (BT.node b11 (BT.node a87 (BT.node a151 BT.nil BT.nil) BT.nil) (BT.node a119 BT.nil BT.nil)))) (BT.node b11 (BT.node a19 (BT.node a35 (BT.node a67 (BT.node a131 BT.nil BT.nil) BT.nil) (BT.node a99 (BT.node a163 BT.nil BT.nil) BT.nil)) (BT.node b11 (BT.node a83 (BT.node a147 BT.nil BT.nil) BT.nil) (BT.node a115 BT.nil BT.nil))) (BT.node a27 (BT.node b11 (BT.node a75 (BT.node a139 BT.nil BT.nil) BT.nil) (BT.node a107 BT.nil BT.nil)) (BT.node a59 (BT.node b11 (BT.node a155 BT.nil BT.nil) BT.nil) (BT.node a123 BT.nil BT.nil))))) (BT.node (boot_o_5 P) (BT.node (boot_o_9 P) (BT.node a17 (BT.node a33 (BT.node b11 (BT.node a129 BT.nil BT.nil) BT.nil) (BT.node a97 (BT.node b11 BT.nil BT.nil) BT.nil)) (BT.node a30 (BT.node b11 (BT.node a145 BT.nil BT.nil) BT.nil) (BT.node a113 BT.nil BT.nil))) (BT.node b11 (BT.node a41 (BT.node a73 (BT.node a137 BT.nil BT.nil) BT.nil) (BT.node b11 BT.nil BT.nil)) (BT.node a57 (BT.node b12 (BT.node a153 BT.nil BT.nil) BT.nil) (BT.node b11 BT.nil BT.nil)))) (BT.node b13 (BT.node a21 (BT.node b12 (BT.node b11 (BT.node a133 BT.nil BT.nil) BT.nil) (BT.node a101 (BT.node a165 BT.nil BT.nil) BT.nil)) (BT.node a53 (BT.node a85 (BT.node a149 BT.nil BT.nil) BT.nil) (BT.node b12 BT.nil BT.nil))) (BT.node a29 (BT.node a45 (BT.node (a77 P) (BT.node a141 BT.nil BT.nil) BT.nil) (BT.node b11 BT.nil BT.nil)) (BT.node a61 (BT.node a93 (BT.node a157 BT.nil BT.nil) BT.nil) (BT.node a125 BT.nil BT.nil)))))) (BT.node (boot_o_2 P) (BT.node (boot_o_4 P) (BT.node (boot_o_8 P) (BT.node b12 (BT.node b11 (BT.node a64 (BT.node a128 BT.nil BT.nil) BT.nil) (BT.node b12 (BT.node a160 BT.nil BT.nil) BT.nil)) (BT.node a48 (BT.node a80 (BT.node a144 BT.nil BT.nil) BT.nil) (BT.node b11 BT.nil BT.nil))) (BT.node a24 (BT.node a40 (BT.node b11 (BT.node a136 BT.nil BT.nil) BT.nil) (BT.node a104 BT.nil BT.nil)) (BT.node b12 (BT.node b11 (BT.node a152 BT.nil BT.nil) BT.nil) (BT.node a120 BT.nil BT.nil)))) (BT.node a12 (BT.node a20 (BT.node b11 (BT.node a68 (BT.node a132 BT.nil BT.nil) BT.nil) (BT.node a100 (BT.node b11 BT.nil BT.nil) BT.nil)) (BT.node a52 (BT.node b11 (BT.node a148 BT.nil BT.nil) BT.nil) (BT.node b11 BT.nil BT.nil))) (BT.node a28 (BT.node (a44 P) (BT.node b11 (BT.node a140 BT.nil BT.nil) BT.nil) (BT.node a108 BT.nil BT.nil)) (BT.node a60 (BT.node a92 (BT.node a156 BT.nil BT.nil) BT.nil) (BT.node b11 BT.nil BT.nil))))) (BT.node (boot_o_6 P) (BT.node (boot_o_10 P) (BT.node b11 (BT.node a34 (BT.node a66 (BT.node a130 BT.nil BT.nil) BT.nil) (BT.node b11 (BT.node b12 BT.nil BT.nil) BT.nil)) (BT.node (a50 P) (BT.node b12 (BT.node a146 BT.nil BT.nil) BT.nil) (BT.node a114 BT.nil BT.nil))) (BT.node a26 (BT.node a42 (BT.node a74 (BT.node a138 BT.nil BT.nil) BT.nil) (BT.node a106 BT.nil BT.nil)) (BT.node b11 (BT.node a90 (BT.node a154 BT.nil BT.nil) BT.nil) (BT.node b12 BT.nil BT.nil)))) (BT.node b14 (BT.node b11 (BT.node a38 (BT.node b12 (BT.node a134 BT.nil BT.nil) BT.nil) (BT.node b11 (BT.node a166 BT.nil BT.nil) BT.nil)) (BT.node a54 (BT.node a86 (BT.node a150 BT.nil BT.nil) BT.nil) (BT.node a118 BT.nil BT.nil))) (BT.node a30 (BT.node a46 (BT.node a78 (BT.node a142 BT.nil BT.nil) BT.nil) (BT.node b12 BT.nil BT.nil)) (BT.node b11 (BT.node a94 (BT.node a158 BT.nil BT.nil) BT.nil) (BT.node a126 BT.nil BT.nil))))))
noncomputable def tF (P : Params) : BT := BT.node (boot_o_0 P) (BT.node (boot_o_1 P) (BT.node (f3 P) (BT.node (boot_o_7 P) (BT.node b11 (BT.node (a31 P) (BT.node b12 (BT.node a127 (BT.node f255 BT.nil BT.nil) BT.nil) (BT.node f191 BT.nil BT.nil)) (BT.node b11 (BT.node a159 BT.nil BT.nil) (BT.node f223 BT.nil BT.nil))) (BT.node a47 (BT.node a79 (BT.node a143 (BT.node b11 BT.nil BT.nil) BT.nil) (BT.node b11 BT.nil BT.nil)) (BT.node a111 (BT.node b11 BT.nil BT.nil) (BT.node f239 BT.nil BT.nil)))) (BT.node b12 (BT.node b11 (BT.node a71 (BT.node a135 (BT.node f263 BT.nil BT.nil) BT.nil) (BT.node (f199 P) BT.nil BT.nil)) (BT.node b12 (BT.node a167 BT.nil BT.nil) (BT.node b11 BT.nil BT.nil))) (BT.node b11 (BT.node a87 (BT.node a151 (BT.node f279 BT.nil BT.nil) BT.nil) (BT.node (f215 P) BT.nil BT.nil)) (BT.node a119 (BT.node f183 BT.nil BT.nil) (BT.node f247 BT.nil BT.nil))))) (BT.node b11 (BT.node a19 (BT.node a35 (BT.node a67 (BT.node a131 (BT.node f259 BT.nil BT.nil) BT.nil) (BT.node b11 BT.nil BT.nil)) (BT.node a99 (BT.node a163 BT.nil BT.nil) (BT.node f227 BT.nil BT.nil))) (BT.node b11 (BT.node a83 (BT.node a147 (BT.node b11 BT.nil BT.nil) BT.nil) (BT.node f211 BT.nil BT.nil)) (BT.node a115 (BT.node b11 BT.nil BT.nil) (BT.node b12 BT.nil BT.nil)))) (BT.node a27 (BT.node b11 (BT.node a75 (BT.node a139 (BT.node f267 BT.nil BT.nil) BT.nil) (BT.node b11 BT.nil BT.nil)) (BT.node a107 (BT.node f171 BT.nil BT.nil) (BT.node b11 BT.nil BT.nil))) (BT.node a59 (BT.node b11 (BT.node a155 (BT.node f283 BT.nil BT.nil) BT.nil) (BT.node f219 BT.nil BT.nil)) (BT.node a123 (BT.node (f187 P) BT.nil BT.nil) (BT.node f251 BT.nil BT.nil)))))) (BT.node (boot_o_5 P) (BT.node (boot_o_9 P) (BT.node a17 (BT.node a33 (BT.node b11 (BT.node a129 (BT.node b12 BT.nil BT.nil) BT.nil) (BT.node b12 BT.nil BT.nil)) (BT.node a97 (BT.node b11 BT.nil BT.nil) (BT.node f225 BT.nil BT.nil))) (BT.node a30 (BT.node b11 (BT.node a145 (BT.node f273 BT.nil BT.nil) BT.nil) (BT.node f209 BT.nil BT.nil)) (BT.node a113 (BT.node f177 BT.nil BT.nil) (BT.node f241 BT.nil BT.nil)))) (BT.node b11 (BT.node a41 (BT.node a73 (BT.node a137 (BT.node f265 BT.nil BT.nil) BT.nil) (BT.node b12 BT.nil BT.nil)) (BT.node b11 (BT.node f169 BT.nil BT.nil) (BT.node f233 BT.nil BT.nil))) (BT.node a57 (BT.node b12 (BT.node a153 (BT.node b12 BT.nil BT.nil) BT.nil) (BT.node f217 BT.nil BT.nil)) (BT.node b11 (BT.node b11 BT.nil BT.nil) (BT.node b11 BT.nil BT.nil))))) (BT.node b13 (BT.node a21 (BT.node b12 (BT.node b11 (BT.node a133 (BT.node b11 BT.nil BT.nil) BT.nil) (BT.node f197 BT.nil BT.nil)) (BT.node a101 (BT.node a165 BT.nil BT.nil) (BT.node b12 BT.nil BT.nil))) (BT.node a53 (BT.node a85 (BT.node a149 (BT.node f277 BT.nil BT.nil) BT.nil) (BT.node f213 BT.nil BT.nil)) (BT.node b12 (BT.node f181 BT.nil BT.nil) (BT.node b11 BT.nil BT.nil)))) (BT.node a29 (BT.node a45 (BT.node (a77 P) (BT.node a141 (BT.node b12 BT.nil BT.nil) BT.nil) (BT.node f205 BT.nil BT.nil)) (BT.node b11 (BT.node a30 BT.nil BT.nil) (BT.node f237 BT.nil BT.nil))) (BT.node a61 (BT.node a93 (BT.node a157 BT.nil BT.nil) (BT.node b11 BT.nil BT.nil)) (BT.node a125 (BT.node f189 BT.nil BT.nil) (BT.node f253 BT.nil BT.nil))))))) (BT.node (boot_o_2 P) (BT.node (boot_o_4 P) (BT.node (boot_o_8 P) (BT.node b12 (BT.node b11 (BT.node a64 (BT.node a128 (BT.node b11 BT.nil BT.nil) BT.nil) (BT.node b11 BT.nil BT.nil)) (BT.node b12 (BT.node a160 BT.nil BT.nil) (BT.node b11 BT.nil BT.nil))) (BT.node a48 (BT.node a80 (BT.node a144 (BT.node f272 BT.nil BT.nil) BT.nil) (BT.node b12 BT.nil BT.nil)) (BT.node b11 (BT.node b12 BT.nil BT.nil) (BT.node f240 BT.nil BT.nil)))) (BT.node a24 (BT.node a40 (BT.node b11 (BT.node a136 (BT.node b11 BT.nil BT.nil) BT.nil) (BT.node b11 BT.nil BT.nil)) (BT.node a104 (BT.node f168 BT.nil BT.nil) (BT.node f232 BT.nil BT.nil))) (BT.node b12 (BT.node b11 (BT.node a152 (BT.node b11 BT.nil BT.nil) BT.nil) (BT.node f216 BT.nil BT.nil)) (BT.node a120 (BT.node f184 BT.nil BT.nil) (BT.node f248 BT.nil BT.nil))))) (BT.node f12 (BT.node a20 (BT.node b11 (BT.node a68 (BT.node a132 (BT.node f260 BT.nil BT.nil) BT.nil) (BT.node f196 BT.nil BT.nil)) (BT.node a100 (BT.node b11 BT.nil BT.nil) (BT.node b11 BT.nil BT.nil))) (BT.node a52 (BT.node b11 (BT.node a148 (BT.node b12 BT.nil BT.nil) BT.nil) (BT.node f212 BT.nil BT.nil)) (BT.node b11 (BT.node (f180 P) BT.nil BT.nil) (BT.node f244 BT.nil BT.nil)))) (BT.node a28 (BT.node (a44 P) (BT.node b11 (BT.node a140 (BT.node b11 BT.nil BT.nil) BT.nil) (BT.node f204 BT.nil BT.nil)) (BT.node a108 (BT.node f172 BT.nil BT.nil) (BT.node b12 BT.nil BT.nil))) (BT.node a60 (BT.node a92 (BT.node a156 (BT.node f284 BT.nil BT.nil) BT.nil) (BT.node f220 BT.nil BT.nil)) (BT.node b11 (BT.node b11 BT.nil BT.nil) (BT.node b11 BT.nil BT.nil)))))) (BT.node (boot_o_6 P) (BT.node (boot_o_10 P) (BT.node b11 (BT.node a34 (BT.node a66 (BT.node a130 (BT.node f258 BT.nil BT.nil) BT.nil) (BT.node f194 BT.nil BT.nil)) (BT.node b11 (BT.node b12 BT.nil BT.nil) (BT.node f226 BT.nil BT.nil))) (BT.node (a50 P) (BT.node b12 (BT.node a146 (BT.node f274 BT.nil BT.nil) BT.nil) (BT.node b11 BT.nil BT.nil)) (BT.node a114 (BT.node f178 BT.nil BT.nil) (BT.node b11 BT.nil BT.nil)))) (BT.node a26 (BT.node a42 (BT.node a74 (BT.node a138 (BT.node f266 BT.nil BT.nil) BT.nil) (BT.node f202 BT.nil BT.nil)) (BT.node a106 (BT.node f169 BT.nil BT.nil) (BT.node f234 BT.nil BT.nil))) (BT.node b11 (BT.node a90 (BT.node a154 (BT.node f282 BT.nil BT.nil) BT.nil) (BT.node f218 BT.nil BT.nil)) (BT.node b12 (BT.node a30 BT.nil BT.nil) (BT.node b12 BT.nil BT.nil))))) (BT.node b14 (BT.node b11 (BT.node a38 (BT.node b12 (BT.node a134 (BT.node b12 BT.nil BT.nil) BT.nil) (BT.node f198 BT.nil BT.nil)) (BT.node b11 (BT.node a166 BT.nil BT.nil) (BT.node f230 BT.nil BT.nil))) (BT.node a54 (BT.node a86 (BT.node a150 (BT.node f278 BT.nil BT.nil) BT.nil) (BT.node f214 BT.nil BT.nil)) (BT.node a118 (BT.node f182 BT.nil BT.nil) (BT.node f246 BT.nil BT.nil)))) (BT.node a30 (BT.node a46 (BT.node a78 (BT.node a142 (BT.node f270 BT.nil BT.nil) BT.nil) (BT.node f206 BT.nil BT.nil)) (BT.node b12 (BT.node (f174 P) BT.nil BT.nil) (BT.node b11 BT.nil BT.nil))) (BT.node b11 (BT.node a94 (BT.node a158 BT.nil BT.nil) (BT.node b12 BT.nil BT.nil)) (BT.node a126 (BT.node f190 BT.nil BT.nil) (BT.node f254 BT.nil BT.nil)))))))
end Mine.H

end
section
open PySem PySem.W PySem.Calls PyProof.Rows
set_option Elab.async false
set_option maxRecDepth 100000
set_option maxHeartbeats 4000000
namespace Mine.H
noncomputable abbrev rpw : Program := Challenge.pw_kt0067_01
noncomputable abbrev ann : Option Value := some (.ref 6)
noncomputable abbrev qT : Pos := ⟨0,0,0,0⟩
noncomputable abbrev bd : List Stmt := behindTheImports rpw
noncomputable def hexS : List Stmt := bd.drop 42
noncomputable abbrev loopC : Code := .builtin "set.update.loop" ⟨[.ref 168, .ref 169], []⟩
noncomputable abbrev posL : Pos := ⟨158, 17, 158, 37⟩
noncomputable abbrev S0 (w : World) (os : OsState) : SharedT := { tree := tA w.params, n := 168, life := {}, gens := ⟨[]⟩, drawn := {}, toks := 426, os }
noncomputable abbrev cd : Code := .body bd env1
noncomputable abbrev T0 : Thread := piecesOf hexS env1 cd ⟨157,0,157,8⟩ [topFrame qT]
noncomputable def setO (es : Array (Int × Value)) (ep : Nat) (t : SetTable) : Obj := { cls := .type "frozenset", data := .set es ep t }
noncomputable def itO (i : Nat) : Obj := { cls := .type "str_ascii_iterator", data := .fields #[.str (Str.ofString "0123456789abcdefABCDEF") 422, .int i 0] }
noncomputable def wb (w : World) (b : Bool) : World := w.withFollow "special-get-raises" b
noncomputable def T1 (w : World) : Thread := match segGoT treeTable rpw w 11 ann 1 20 (S0 w default) T0 with | some (_, t) => t | none => ⟨.raise .none, .body [] default, default, []⟩
noncomputable def led0 (w : World) : Bool := !w.params.followText "set-order"
noncomputable abbrev S1 (w : World) (os : OsState) : SharedT := { tree := ((tA w.params).ins 168 (setO #[] 0 (.fresh 0 0 (led0 w)))).ins 169 (itO 0), n := 170, life := {}, gens := ⟨[]⟩, drawn := {}, toks := 426, os }
theorem c1 : ∀ w b os, segGoT treeTable rpw (wb w b) 11 ann 1 20 (S0 (wb w b) os) T0 = some (S1 (wb w b) os, ⟨denote treeTable loopC, loopC, posL, (T1 (wb w b)).stack⟩) := by
  intro w b os
  cases b
  · kernel_rfl
  · kernel_rfl
end Mine.H

end
section
open PySem PySem.W PySem.Calls PyProof.Rows
set_option Elab.async false
set_option maxRecDepth 100000
set_option maxHeartbeats 4000000
namespace Mine.H
variable {α β : Type} {w : World}
noncomputable abbrev gT (w : World) (n : Nat) (s : SharedT) (t : Thread) := segGoT treeTable rpw w 11 ann 1 n s t
theorem gT_app {w : World} : ∀ {n m : Nat} {s s1 s2 : SharedT} {t t1 t2 : Thread}, gT w n s t = some (s1, t1) → gT w m s1 t1 = some (s2, t2) → gT w (n + m) s t = some (s2, t2)
  | 0, m, s, s1, s2, t, t1, t2, h, k => by
    cases h; rw [Nat.zero_add]; exact k
  | n + 1, m, s, s1, s2, t, t1, t2, h, k => by
    rw [show n + 1 + m = n + m + 1 by omega]
    unfold gT segGoT at h ⊢
    cases he : endAt 1 t with
    | some x => rw [he] at h; cases h
    | none =>
      rw [he] at h
      cases hk : stepOk 11 ann t with
      | false => rw [hk] at h; cases h
      | true =>
        rw [hk] at h
        cases hs : stepT (denote treeTable) rpw w s t with
        | none => rw [hs] at h; cases h
        | some r => obtain ⟨s₂, t₂⟩ := r; rw [hs] at h; exact gT_app h k
theorem gT_run {w : World} {N : Nat} {r : Flow × SharedT × Code × Pos} : ∀ {n : Nat} {s s1 : SharedT} {t t1 : Thread}, gT w n s t = some (s1, t1) → segRunT treeTable rpw w 11 ann 1 N s1 t1 = some r → segRunT treeTable rpw w 11 ann 1 (n + N) s t = some r
  | 0, s, s1, t, t1, h, k => by
    cases h; rw [Nat.zero_add]; exact k
  | n + 1, s, s1, t, t1, h, k => by
    rw [show n + 1 + N = n + N + 1 by omega]
    unfold gT segGoT at h
    unfold segRunT
    cases he : endAt 1 t with
    | some x => rw [he] at h; cases h
    | none =>
      rw [he] at h
      cases hk : stepOk 11 ann t with
      | false => rw [hk] at h; cases h
      | true =>
        rw [hk] at h
        cases hs : stepT (denote treeTable) rpw w s t with
        | none => rw [hs] at h; cases h
        | some r => obtain ⟨s₂, t₂⟩ := r; rw [hs] at h; exact gT_run h k
theorem sR_mono {w : World} (k : Nat) : ∀ {n : Nat} {s : SharedT} {t : Thread} {r}, segRunT treeTable rpw w 11 ann 1 n s t = some r → segRunT treeTable rpw w 11 ann 1 (n + k) s t = some r
  | 0, _, _, _, h => by cases h
  | n + 1, s, t, r, h => by
    rw [show n + 1 + k = n + k + 1 by omega]
    unfold segRunT at h ⊢
    cases he : endAt 1 t with
    | some x => rw [he] at h; exact h
    | none =>
      rw [he] at h
      cases hk : stepOk 11 ann t with
      | false => rw [hk] at h; cases h
      | true =>
        rw [hk] at h
        cases hs : stepT (denote treeTable) rpw w s t with
        | none => rw [hs] at h; cases h
        | some r => obtain ⟨s₂, t₂⟩ := r; rw [hs] at h; exact sR_mono k h

noncomputable def RunsT (w : World) (m : Sem α) (N : Nat) (s : SharedT) (a : α) (s' : SharedT) : Prop :=
  ∀ (K : α → Sem Fin) (H : Value → Sem Fin) gd lv F1 F2 FS, ∃ n, n ≤ N ∧ gT w n s ⟨m.wrap K H gd lv, loopC, posL, F1 :: F2 :: FS⟩ = some (s', ⟨K a, loopC, posL, F1 :: F2 :: FS⟩)
theorem RunsT.pure {s : SharedT} {a : α} : RunsT w (pure a : Sem α) 0 s a s := fun _ _ _ _ _ _ _ => ⟨0, Nat.le_refl _, rfl⟩
theorem RunsT.bind {m : Sem α} {f : α → Sem β} {N M : Nat} {s s1 s2 : SharedT} {a : α} {b : β} (h : RunsT w m N s a s1) (k : RunsT w (f a) M s1 b s2) : RunsT w (m >>= f) (N + M) s b s2 :=
  fun K H gd lv F1 F2 FS => by
    obtain ⟨n1, l1, e1⟩ := h (fun a => (f a).wrap K H gd lv) H gd lv F1 F2 FS
    obtain ⟨n2, l2, e2⟩ := k K H gd lv F1 F2 FS
    refine ⟨n1 + n2, by omega, ?_⟩
    rw [Sem.bind_eq_wrap', Sem.wrap_wrap]
    exact gT_app e1 e2
theorem RunsT.load {s : SharedT} {a : Addr} {o : Obj} (h : s.tree.get a = some o) (hal : alive o = some o) (hlt : Nat.blt a s.n = true) : RunsT w (Sem.load a none .pure) 1 s o s := fun K H gd lv F1 F2 FS => by
  refine ⟨1, Nat.le_refl _, ?_⟩
  obtain ⟨tree, n, life, gens, drawn, toks, os⟩ := s
  dsimp only at h hlt
  show (match stepT (denote treeTable) rpw w ⟨tree, n, life, gens, drawn, toks, os⟩ ⟨.load a none (fun o => K o), loopC, posL, F1 :: F2 :: FS⟩ with | some (s', t') => some (s', t') | none => none) = _
  simp only [stepT, hlt, h, hal]
theorem RunsT.update {s : SharedT} {a : Addr} {o : Obj} {f : Obj → Obj} (h : s.tree.get a = some o) (hal : alive o = some o) (hlt : Nat.blt a s.n = true) (h11 : Nat.ble 11 a = true) :
    RunsT w (Sem.update a none f .pure) 1 s () { s with tree := s.tree.set a f } := fun K H gd lv F1 F2 FS => by
  refine ⟨1, Nat.le_refl _, ?_⟩
  obtain ⟨tree, n, life, gens, drawn, toks, os⟩ := s
  dsimp only at h hlt
  show (match (true && (Nat.ble 11 a || a == mainNs || a == cStatics || ann == some (.ref a))) with | false => none | true => match stepT (denote treeTable) rpw w ⟨tree, n, life, gens, drawn, toks, os⟩ ⟨.update a none f (fun o => K o), loopC, posL, F1 :: F2 :: FS⟩ with | some (s', t') => some (s', t') | none => none) = _
  rw [h11]
  simp only [stepT, hlt, h, hal, Bool.true_or, Bool.and_self]
theorem RunsT.rule {s : SharedT} {tag : String} : RunsT w (Sem.rule tag .pure) 1 s () s := fun K H gd lv F1 F2 FS => ⟨1, Nat.le_refl _, rfl⟩
theorem RunsT.mono {m : Sem α} {N M : Nat} {s s1 : SharedT} {a : α} (h : RunsT w m N s a s1) (l : N ≤ M) : RunsT w m M s a s1 := fun K H gd lv F1 F2 FS =>
  let ⟨n, hn, e⟩ := h K H gd lv F1 F2 FS; ⟨n, Nat.le_trans hn l, e⟩

noncomputable abbrev SK (w : World) := strKind rpw w
noncomputable def addOne (h : Int) (x : Value) (q : Array (Int × Value) × Nat × SetTable) : Array (Int × Value) × Nat × SetTable :=
  let L := layNew q.2.2 q.1 h x
  let t2 := if L.2.1.plain then { L.2.1 with plain := false } else L.2.1
  if !L.2.2.1 && t2.tooFull then let R := relayAll t2 L.1 (SetTable.grown L.1.size); (R.1, q.2.1 + 2, R.2.1) else (L.1, q.2.1 + 1, t2)
structure SInv (w : World) (S : Str → Bool) (n : Nat) (q : Array (Int × Value) × Nat × SetTable) : Prop where
  el : ElemsOf (SK w) q.1.toList
  mem : ∀ k, S k = true ↔ ∃ e ∈ q.1.toList, (SK w).is k e.2 = true
  size : q.1.size = n
  fits : q.2.2.fits q.1.size = true
theorem fits_bad {t : SetTable} {n : Nat} (h : t.fits n = true) : (t.place.size != n || decide (t.fill > t.mask)) = false := by
  unfold SetTable.fits at h
  simp only [Bool.and_eq_true, beq_iff_eq, decide_eq_true_eq] at h
  simp [h.1]; omega

theorem addOne_inv {S : Str → Bool} {n : Nat} {q : Array (Int × Value) × Nat × SetTable} {k : Str} {tk : Tok} (I : SInv w S n q) :
    SInv w (fun k' => S k' || decide (k' = k)) (n + 1) (addOne (hashStr w k) (.str k tk) q) := by
  obtain ⟨es, ep, t⟩ := q
  obtain ⟨hel, hmem, hn, hf⟩ := I
  dsimp only at hel hmem hn hf
  have hkey : (SK w).is k (.str k tk) = true := strKind_is rpw w k tk
  have hperm := layNew_perm t es (hashStr w k) (.str k tk)
  have hfits := layNew_fits t es (hashStr w k) (.str k tk)
  unfold addOne
  dsimp only
  generalize layNew t es (hashStr w k) (.str k tk) = L at hperm hfits ⊢
  obtain ⟨es1, t1, wd, gv⟩ := L
  dsimp only at hperm hfits ⊢
  rw [Array.toList_push] at hperm
  have hel1 : ElemsOf (SK w) es1.toList := (hel.push (k := k) hkey rfl).perm hperm
  have hmem1 := mem_push_iff (k := k) hkey hmem hperm
  have hsz1 : es1.size = n + 1 := by rw [← Array.length_toList, hperm.length_eq, List.length_append, Array.length_toList, hn]; rfl
  have hf2 : (if t1.plain then { t1 with plain := false } else t1).fits es1.size = true := by
    split
    · exact SetTable.fits_plain_off hfits
    · exact hfits
  generalize (if t1.plain then { t1 with plain := false } else t1 : SetTable) = t2 at hf2 ⊢
  split
  · have hp3 := relayAll_perm t2 es1 (SetTable.grown es1.size)
    have hf3 := relayAll_fits t2 es1 (SetTable.grown es1.size)
    refine ⟨hel1.perm hp3, fun k' => ?_, ?_, hf3⟩
    · rw [hmem1 k']
      exact ⟨fun ⟨e, he, hp⟩ => ⟨e, hp3.mem_iff.mpr he, hp⟩, fun ⟨e, he, hp⟩ => ⟨e, hp3.mem_iff.mp he, hp⟩⟩
    · dsimp only; rw [← Array.length_toList, hp3.length_eq, Array.length_toList, hsz1]
  · exact ⟨hel1, hmem1, hsz1, hf2⟩
end Mine.H

end
section
open PySem PySem.W PySem.Calls PyProof.Rows
set_option Elab.async false
set_option maxRecDepth 100000
set_option maxHeartbeats 4000000
set_option linter.unusedVariables false
namespace Mine.H
variable {α β : Type} {w : World}
theorem R_setState {s : SharedT} {a : Addr} {es : Array (Int × Value)} {ep : Nat} {t : SetTable} (h : s.tree.get a = some (setO es ep t)) (hlt : Nat.blt a s.n = true) (hf : t.fits es.size = true) :
    RunsT w (setState a) 1 s (es, ep, t) s := by
  unfold setState
  refine RunsT.bind (N := 1) (M := 0) (RunsT.load h rfl hlt) ?_
  dsimp only [setO]
  rw [fits_bad hf]
  exact RunsT.pure
theorem R_storeSet {s : SharedT} {a : Addr} {es es' : Array (Int × Value)} {ep : Nat} {t t' : SetTable} (h : s.tree.get a = some (setO es ep t)) (hlt : Nat.blt a s.n = true) (h11 : Nat.ble 11 a = true) (hz : es'.size ≤ 4096) :
    RunsT w (storeSet a es' t') 2 s () { s with tree := s.tree.set a (Obj.putSet es' t') } := by
  unfold storeSet
  refine RunsT.bind (N := 1) (M := 1) (RunsT.load h rfl hlt) ?_
  dsimp only [setO]
  rw [if_neg (by rw [sizeLine_eq]; omega)]
  exact RunsT.update h rfl hlt h11
noncomputable def gaveH : Bool → Sem Unit
  | true => rule "set.scan.the-table-gave-way"
  | false => pure ()
theorem R_gave {s : SharedT} (b : Bool) : RunsT w (gaveH b) 1 s () s := by
  cases b
  · exact RunsT.pure.mono (Nat.zero_le _)
  · exact RunsT.rule
theorem set_set (f g : Obj → Obj) : ∀ (t : BT) (a : Nat), (t.set a f).set a g = t.set a (fun o => g (f o))
  | .nil, a => rfl
  | .node v l r, a => by
    rw [BT.set_node, BT.set_node v l r a (fun o => g (f o))]
    by_cases h : a = 0
    · rw [if_pos h, if_pos h, BT.set_node, if_pos h]
    · rw [if_neg h, if_neg h]
      by_cases p : a % 2 = 1
      · rw [if_pos p, if_pos p, BT.set_node, if_neg h, if_pos p, set_set f g]
      · rw [if_neg p, if_neg p, BT.set_node, if_neg h, if_neg p, set_set f g]
theorem BT.set_congr {f g : Obj → Obj} {o : Obj} : ∀ {t : BT} {a : Nat}, t.get a = some o → f o = g o → t.set a f = t.set a g
  | .nil, a, h, _ => by cases h
  | .node v l r, a, h, e => by
    rw [BT.get_node] at h
    rw [BT.set_node, BT.set_node v l r a g]
    by_cases q : a = 0
    · rw [if_pos q] at h ⊢; rw [if_pos q]; cases h; rw [e]
    · rw [if_neg q] at h ⊢
      rw [if_neg q]
      by_cases p : a % 2 = 1
      · rw [if_pos p] at h ⊢; rw [if_pos p, BT.set_congr h e]
      · rw [if_neg p] at h ⊢; rw [if_neg p, BT.set_congr h e]
theorem R_add {s : SharedT} {a : Addr} {q : Array (Int × Value) × Nat × SetTable} {S : Str → Bool} {n : Nat} {k : Str} {tk : Tok} (I : SInv w S n q) (hS : S k = false) (hn : n ≤ 1000)
    (h : s.tree.get a = some (setO q.1 q.2.1 q.2.2)) (hlt : Nat.blt a s.n = true) (h11 : Nat.ble 11 a = true) :
    RunsT w (setAddHashed a (.str k tk) (hashStr w k)) 12 s true { s with tree := s.tree.set a (fun o => let q' := addOne (hashStr w k) (.str k tk) q; setO q'.1 q'.2.1 q'.2.2) } := by
  have I2 := addOne_inv (tk := tk) (k := k) I
  obtain ⟨es, ep, t⟩ := q
  obtain ⟨hel, hmem, hsz, hf⟩ := I
  dsimp only at hel hmem hsz hf h
  have hkey : (SK w).is k (.str k tk) = true := strKind_is rpw w k tk
  have hget : ∀ f : Obj → Obj, (s.tree.set a f).get a = some (f (setO es ep t)) := fun f => by rw [BT.get_set, if_pos rfl, h]; rfl
  have hfind : es.findIdx? (fun e => e.2.isStr k) = none := by
    have hfun : (fun e : Int × Value => e.2.isStr k) = fun e => (SK w).is k e.2 := funext fun e => ((SK w).strs k k tk e.2 hkey).symm
    have hidx : es.findIdx? (fun e => (SK w).is k e.2) = es.toList.findIdx? (fun e => (SK w).is k e.2) := by cases es; simp
    rw [hfun, hidx, List.findIdx?_eq_none_iff]
    intro e he
    cases hq : (SK w).is k e.2 with
    | false => rfl
    | true => rw [(hmem k).mpr ⟨e, he, hq⟩] at hS; cases hS
  have hall : (es.all fun e => isExactStrKey e.2) = true := by
    rw [← Array.all_toList, List.all_eq_true]
    intro e he
    obtain ⟨⟨k', hk', _⟩, _⟩ := hel e he
    obtain ⟨u, hu⟩ := Value.isStrOf_shape hk'
    rw [hu]; rfl
  unfold setAddHashed setAddHashedIn
  show RunsT w (setState a >>= _) 12 s true _
  refine RunsT.mono (RunsT.bind (N := 1) (M := 9) (R_setState h hlt hf) ?_) (by omega)
  dsimp only
  rw [byScan_of (knd := SK w) rfl (by rw [hsz]; show n < 4096; omega) hel]
  simp only [↓reduceIte]
  unfold setAddByScan
  refine RunsT.bind (N := 9) (M := 0) (a := some true) ?_ RunsT.pure
  refine RunsT.bind (N := 1) (M := 8) RunsT.rule ?_
  unfold setScan setScanStrs
  dsimp only
  rw [hall, hfind]
  refine RunsT.bind (N := 0) (M := 8) (a := .absent) RunsT.pure ?_
  dsimp only
  unfold addOne at I2 ⊢
  dsimp only at I2 ⊢
  have hperm := layNew_perm t es (hashStr w k) (.str k tk)
  generalize layNew t es (hashStr w k) (.str k tk) = L at I2 hperm ⊢
  obtain ⟨es1, t1, wd, gv⟩ := L
  dsimp only at I2 hperm ⊢
  have hz1 : es1.size = n + 1 := by rw [← Array.length_toList, hperm.length_eq, Array.length_toList, Array.size_push, hsz]
  refine RunsT.bind (N := 1) (M := 7) (R_gave gv) ?_
  have key : ∀ t2 : SetTable, (if t1.plain = true then { t1 with plain := false } else t1) = t2 → RunsT w (do
      storeSet a es1 t2
      if (!wd && t2.tooFull) = true then do
        gaveH (relayAll t2 es1 (SetTable.grown es1.size)).2.2
        storeSet a (relayAll t2 es1 (SetTable.grown es1.size)).1 (relayAll t2 es1 (SetTable.grown es1.size)).2.1
        pure (some true)
      else pure (some true)) 7 s (some true) { s with tree := s.tree.set a (fun o => let q' : Array (Int × Value) × Nat × SetTable := if (!wd && t2.tooFull) = true then ((relayAll t2 es1 (SetTable.grown es1.size)).1, ep + 2, (relayAll t2 es1 (SetTable.grown es1.size)).2.1) else (es1, ep + 1, t2); setO q'.1 q'.2.1 q'.2.2) } := by
    intro t2 _
    clear I2
    refine RunsT.bind (N := 2) (M := 5) (R_storeSet h hlt h11 (by omega)) ?_
    dsimp only
    split
    · rename_i hc
      have hp3 := relayAll_perm t2 es1 (SetTable.grown es1.size)
      generalize relayAll t2 es1 (SetTable.grown es1.size) = R at hp3 ⊢
      obtain ⟨es3, t3, gv3⟩ := R
      dsimp only at hp3 ⊢
      have hz3 : es3.size = n + 1 := by rw [← Array.length_toList, hp3.length_eq, Array.length_toList, hz1]
      refine RunsT.bind (N := 1) (M := 4) (R_gave gv3) ?_
      have hst := R_storeSet (w := w) (s := { s with tree := s.tree.set a (Obj.putSet es1 t2) }) (a := a) (es := es1) (es' := es3) (ep := ep + 1) (t := t2) (t' := t3) (hget _) hlt h11 (by omega)
      refine RunsT.mono (RunsT.bind (N := 2) (M := 0) hst ?_) (by omega)
      dsimp only
      rw [set_set]
      have e4 : s.tree.set a (fun o => Obj.putSet es3 t3 (Obj.putSet es1 t2 o)) = s.tree.set a (fun _ => setO es3 (ep + 2) t3) := by
        apply Mine.H.BT.set_congr h
        rfl
      rw [e4]
      exact RunsT.pure
    · rename_i hc
      have e4 : s.tree.set a (fun o => Obj.putSet es1 t2 o) = s.tree.set a (fun _ => setO es1 (ep + 1) t2) := by
        apply Mine.H.BT.set_congr h
        rfl
      show RunsT w _ _ { s with tree := s.tree.set a (fun o => Obj.putSet es1 t2 o) } _ _
      rw [e4]
      exact RunsT.pure.mono (by omega)
  have key := key _ rfl
  cases hpl : t1.plain
  · simp only [hpl, Bool.false_eq_true, if_false] at key ⊢
    exact RunsT.bind (N := 0) (M := 7) (a := true) RunsT.pure key
  · simp only [hpl, if_true] at key ⊢
    exact RunsT.bind (N := 0) (M := 7) (a := false) (show RunsT w (pure false) 0 s false s from RunsT.pure) key
end Mine.H

end
section
open PySem PySem.W PySem.Calls PyProof.Rows
set_option Elab.async false
set_option maxRecDepth 100000
set_option maxHeartbeats 4000000
set_option linter.unusedVariables false
namespace Mine.H
variable {α β : Type} {w : World}
noncomputable abbrev SetQ := Array (Int × Value) × Nat × SetTable
noncomputable abbrev SQ (w : World) (os : OsState) (q : SetQ) (it : Obj) (toks : Nat) : SharedT :=
  { tree := ((tA w.params).ins 168 (setO q.1 q.2.1 q.2.2)).ins 169 it, n := 170, life := {}, gens := ⟨[]⟩, drawn := {}, toks, os }
noncomputable def chs : List Nat := [48,49,50,51,52,53,54,55,56,57,97,98,99,100,101,102,65,66,67,68,69,70]
noncomputable def chr (i : Nat) : Str := ⟨#[chs[i]?.getD 0]⟩
theorem nx : ∀ (i : Nat), i < 22 → ∀ (w : World) (b : Bool) (os : OsState) (q : SetQ), RunsT (wb w b) (pyNext (.ref 169)) 10 (SQ (wb w b) os q (itO i) (426 + 2 * i)) (some (.str (chr i) (426 + 2 * i))) (SQ (wb w b) os q (itO (i + 1)) (427 + 2 * i))
  | 0, _, w, false, os, q => fun K H gd lv F1 F2 FS => ⟨10, Nat.le_refl _, by kernel_rfl⟩
  | 0, _, w, true, os, q => fun K H gd lv F1 F2 FS => ⟨10, Nat.le_refl _, by kernel_rfl⟩
  | 1, _, w, false, os, q => fun K H gd lv F1 F2 FS => ⟨10, Nat.le_refl _, by kernel_rfl⟩
  | 1, _, w, true, os, q => fun K H gd lv F1 F2 FS => ⟨10, Nat.le_refl _, by kernel_rfl⟩
  | 2, _, w, false, os, q => fun K H gd lv F1 F2 FS => ⟨10, Nat.le_refl _, by kernel_rfl⟩
  | 2, _, w, true, os, q => fun K H gd lv F1 F2 FS => ⟨10, Nat.le_refl _, by kernel_rfl⟩
  | 3, _, w, false, os, q => fun K H gd lv F1 F2 FS => ⟨10, Nat.le_refl _, by kernel_rfl⟩
  | 3, _, w, true, os, q => fun K H gd lv F1 F2 FS => ⟨10, Nat.le_refl _, by kernel_rfl⟩
  | 4, _, w, false, os, q => fun K H gd lv F1 F2 FS => ⟨10, Nat.le_refl _, by kernel_rfl⟩
  | 4, _, w, true, os, q => fun K H gd lv F1 F2 FS => ⟨10, Nat.le_refl _, by kernel_rfl⟩
  | 5, _, w, false, os, q => fun K H gd lv F1 F2 FS => ⟨10, Nat.le_refl _, by kernel_rfl⟩
  | 5, _, w, true, os, q => fun K H gd lv F1 F2 FS => ⟨10, Nat.le_refl _, by kernel_rfl⟩
  | 6, _, w, false, os, q => fun K H gd lv F1 F2 FS => ⟨10, Nat.le_refl _, by kernel_rfl⟩
  | 6, _, w, true, os, q => fun K H gd lv F1 F2 FS => ⟨10, Nat.le_refl _, by kernel_rfl⟩
  | 7, _, w, false, os, q => fun K H gd lv F1 F2 FS => ⟨10, Nat.le_refl _, by kernel_rfl⟩
  | 7, _, w, true, os, q => fun K H gd lv F1 F2 FS => ⟨10, Nat.le_refl _, by kernel_rfl⟩
  | 8, _, w, false, os, q => fun K H gd lv F1 F2 FS => ⟨10, Nat.le_refl _, by kernel_rfl⟩
  | 8, _, w, true, os, q => fun K H gd lv F1 F2 FS => ⟨10, Nat.le_refl _, by kernel_rfl⟩
  | 9, _, w, false, os, q => fun K H gd lv F1 F2 FS => ⟨10, Nat.le_refl _, by kernel_rfl⟩
  | 9, _, w, true, os, q => fun K H gd lv F1 F2 FS => ⟨10, Nat.le_refl _, by kernel_rfl⟩
  | 10, _, w, false, os, q => fun K H gd lv F1 F2 FS => ⟨10, Nat.le_refl _, by kernel_rfl⟩
  | 10, _, w, true, os, q => fun K H gd lv F1 F2 FS => ⟨10, Nat.le_refl _, by kernel_rfl⟩
  | 11, _, w, false, os, q => fun K H gd lv F1 F2 FS => ⟨10, Nat.le_refl _, by kernel_rfl⟩
  | 11, _, w, true, os, q => fun K H gd lv F1 F2 FS => ⟨10, Nat.le_refl _, by kernel_rfl⟩
  | 12, _, w, false, os, q => fun K H gd lv F1 F2 FS => ⟨10, Nat.le_refl _, by kernel_rfl⟩
  | 12, _, w, true, os, q => fun K H gd lv F1 F2 FS => ⟨10, Nat.le_refl _, by kernel_rfl⟩
  | 13, _, w, false, os, q => fun K H gd lv F1 F2 FS => ⟨10, Nat.le_refl _, by kernel_rfl⟩
  | 13, _, w, true, os, q => fun K H gd lv F1 F2 FS => ⟨10, Nat.le_refl _, by kernel_rfl⟩
  | 14, _, w, false, os, q => fun K H gd lv F1 F2 FS => ⟨10, Nat.le_refl _, by kernel_rfl⟩
  | 14, _, w, true, os, q => fun K H gd lv F1 F2 FS => ⟨10, Nat.le_refl _, by kernel_rfl⟩
  | 15, _, w, false, os, q => fun K H gd lv F1 F2 FS => ⟨10, Nat.le_refl _, by kernel_rfl⟩
  | 15, _, w, true, os, q => fun K H gd lv F1 F2 FS => ⟨10, Nat.le_refl _, by kernel_rfl⟩
  | 16, _, w, false, os, q => fun K H gd lv F1 F2 FS => ⟨10, Nat.le_refl _, by kernel_rfl⟩
  | 16, _, w, true, os, q => fun K H gd lv F1 F2 FS => ⟨10, Nat.le_refl _, by kernel_rfl⟩
  | 17, _, w, false, os, q => fun K H gd lv F1 F2 FS => ⟨10, Nat.le_refl _, by kernel_rfl⟩
  | 17, _, w, true, os, q => fun K H gd lv F1 F2 FS => ⟨10, Nat.le_refl _, by kernel_rfl⟩
  | 18, _, w, false, os, q => fun K H gd lv F1 F2 FS => ⟨10, Nat.le_refl _, by kernel_rfl⟩
  | 18, _, w, true, os, q => fun K H gd lv F1 F2 FS => ⟨10, Nat.le_refl _, by kernel_rfl⟩
  | 19, _, w, false, os, q => fun K H gd lv F1 F2 FS => ⟨10, Nat.le_refl _, by kernel_rfl⟩
  | 19, _, w, true, os, q => fun K H gd lv F1 F2 FS => ⟨10, Nat.le_refl _, by kernel_rfl⟩
  | 20, _, w, false, os, q => fun K H gd lv F1 F2 FS => ⟨10, Nat.le_refl _, by kernel_rfl⟩
  | 20, _, w, true, os, q => fun K H gd lv F1 F2 FS => ⟨10, Nat.le_refl _, by kernel_rfl⟩
  | 21, _, w, false, os, q => fun K H gd lv F1 F2 FS => ⟨10, Nat.le_refl _, by kernel_rfl⟩
  | 21, _, w, true, os, q => fun K H gd lv F1 F2 FS => ⟨10, Nat.le_refl _, by kernel_rfl⟩
  | n + 22, h, _, _, _, _ => absurd h (by omega)
theorem hsh (c : Nat) (tk : Tok) (w : World) (b : Bool) (s : SharedT) : RunsT (wb w b) (pyHash (.str ⟨#[c]⟩ tk)) 7 s (hashStr (wb w b) ⟨#[c]⟩) { s with toks := s.toks + 1 } := fun K H gd lv F1 F2 FS => by
  obtain ⟨tree, n, life, gens, drawn, toks, os⟩ := s
  cases b
  · exact ⟨7, Nat.le_refl _, by kernel_rfl⟩
  · exact ⟨7, Nat.le_refl _, by kernel_rfl⟩
theorem entry_loop : entryFor treeTable "set.update.loop" = some Builtin.«set.update.loop» := by kernel_rfl
theorem denote_loop : denote treeTable loopC = (pyNext (.ref 169) >>= fun o => match o with | some x => (do let _ ← holding [x] (setAdd 168 x); again loopC) | none => ret .none) := by
  unfold denote
  dsimp only
  rw [entry_loop]
  show (pyNext (.ref 169) >>= _) = _
  congr 1
  funext o
  cases o <;> rfl
theorem again_step (w : World) (s : SharedT) (k : Result → Sem Fin) (h : Option Value) (g : Bool) (l : List Value) (cd' : Code) (p₀ : Pos) (kept : List Value) (F2 : Frame) (FS : List Frame) :
    gT w 1 s ⟨again loopC, loopC, posL, .ret k h g l cd' p₀ kept :: F2 :: FS⟩ = some (s, ⟨denote treeTable loopC, loopC, posL, .ret k h g l cd' p₀ kept :: F2 :: FS⟩) := by
  obtain ⟨tree, n, life, gens, drawn, toks, os⟩ := s
  kernel_rfl
theorem turn {w : World} {b : Bool} {S : Str → Bool} {i : Nat} (hi : i < 22) {q : SetQ} (I : SInv (wb w b) S i q) (hS : S (chr i) = false) (os : OsState) (k : Result → Sem Fin) (h : Option Value) (g : Bool) (l : List Value) (cd' : Code) (p₀ : Pos) (kept : List Value) (F2 : Frame) (FS : List Frame) :
    ∃ n, n ≤ 40 ∧ gT (wb w b) n (SQ (wb w b) os q (itO i) (426 + 2 * i)) ⟨denote treeTable loopC, loopC, posL, .ret k h g l cd' p₀ kept :: F2 :: FS⟩ =
      some (SQ (wb w b) os (addOne (hashStr (wb w b) (chr i)) (.str (chr i) (426 + 2 * i)) q) (itO (i + 1)) (426 + 2 * (i + 1)), ⟨denote treeTable loopC, loopC, posL, .ret k h g l cd' p₀ kept :: F2 :: FS⟩) := by
  rw [denote_loop, Sem.bind_eq_wrap']
  obtain ⟨n1, l1, e1⟩ := nx i hi w b os q (fun o => match o with | some x => (do let _ ← holding [x] (setAdd 168 x); again loopC) | none => ret .none) .raise id id (.ret k h g l cd' p₀ kept) F2 FS
  have hadd := R_add (w := wb w b) (s := SQ (wb w b) os q (itO (i + 1)) (428 + 2 * i)) (a := 168) (tk := 426 + 2 * i) I hS (by omega) rfl rfl rfl
  have hset : RunsT (wb w b) (setAdd 168 (.str (chr i) (426 + 2 * i))) 20 (SQ (wb w b) os q (itO (i + 1)) (427 + 2 * i)) true (SQ (wb w b) os (addOne (hashStr (wb w b) (chr i)) (.str (chr i) (426 + 2 * i)) q) (itO (i + 1)) (428 + 2 * i)) := by
    refine RunsT.mono (RunsT.bind (N := 7) (M := 12) (hsh (chs[i]?.getD 0) (426 + 2 * i) w b (SQ (wb w b) os q (itO (i + 1)) (427 + 2 * i))) ?_) (by omega)
    have e : (427 + 2 * i) + 1 = 428 + 2 * i := by omega
    show RunsT _ _ _ (SQ (wb w b) os q (itO (i + 1)) ((427 + 2 * i) + 1)) _ _
    rw [e]
    exact hadd
  obtain ⟨n2, l2, e2⟩ := hset (fun _ => again loopC) .raise id id (.ret k h g l cd' p₀ kept) F2 FS
  refine ⟨n1 + (n2 + 1), by omega, gT_app e1 (gT_app (s1 := SQ (wb w b) os (addOne (hashStr (wb w b) (chr i)) (.str (chr i) (426 + 2 * i)) q) (itO (i + 1)) (428 + 2 * i)) (t1 := ⟨again loopC, loopC, posL, .ret k h g l cd' p₀ kept :: F2 :: FS⟩) ?_ ?_)⟩
  · dsimp only
    rw [← e2, ← Sem.bind_eq_wrap']
    rfl
  · rw [← Sem.bind_eq_wrap', ← denote_loop, show 426 + 2 * (i + 1) = 428 + 2 * i by omega]
    exact again_step ..
noncomputable def qAt (w : World) : Nat → SetQ
  | 0 => (#[], 0, .fresh 0 0 (led0 w))
  | i + 1 => addOne (hashStr w (chr i)) (.str (chr i) (426 + 2 * i)) (qAt w i)
noncomputable def memAt : Nat → Str → Bool
  | 0, _ => false
  | i + 1, k => memAt i k || decide (k = chr i)
theorem memAt_chr {i j : Nat} (h : j ≤ i) (hi : i < 22) : memAt j (chr i) = false := by
  have key : ∀ i, i < 22 → ∀ j, j < i → chr j ≠ chr i := by
    intro i hi j hj e
    have : (chs[j]?.getD 0) = (chs[i]?.getD 0) := by
      have := congrArg (fun x : Str => x.cps.toList) e
      simpa [chr] using this
    revert this
    have : ∀ i, i < 22 → ∀ j, j < i → (chs[j]?.getD 0) ≠ (chs[i]?.getD 0) := by decide
    exact this i hi j hj
  induction j with
  | zero => rfl
  | succ j ih =>
    unfold memAt
    rw [ih (by omega), Bool.false_or, decide_eq_false_iff_not]
    exact fun e => key i hi j (by omega) e.symm
theorem qAt_inv (w : World) : ∀ i, i ≤ 22 → SInv w (memAt i) i (qAt w i)
  | 0, _ => ⟨fun e he => by simp [qAt] at he, fun k => by simp [memAt, qAt], rfl, by unfold qAt; rfl⟩
  | i + 1, h => addOne_inv (qAt_inv w i (by omega))
theorem turns {w : World} {b : Bool} (os : OsState) (k : Result → Sem Fin) (h : Option Value) (g : Bool) (l : List Value) (cd' : Code) (p₀ : Pos) (kept : List Value) (F2 : Frame) (FS : List Frame) : ∀ i, i ≤ 22 →
    ∃ n, n ≤ 40 * i ∧ gT (wb w b) n (SQ (wb w b) os (qAt (wb w b) 0) (itO 0) 426) ⟨denote treeTable loopC, loopC, posL, .ret k h g l cd' p₀ kept :: F2 :: FS⟩ =
      some (SQ (wb w b) os (qAt (wb w b) i) (itO i) (426 + 2 * i), ⟨denote treeTable loopC, loopC, posL, .ret k h g l cd' p₀ kept :: F2 :: FS⟩)
  | 0, _ => ⟨0, Nat.le_refl _, rfl⟩
  | i + 1, hi => by
    obtain ⟨n, l1, e1⟩ := turns os k h g l cd' p₀ kept F2 FS i (by omega)
    obtain ⟨m, l2, e2⟩ := turn (show i < 22 by omega) (qAt_inv (wb w b) i (by omega)) (memAt_chr (Nat.le_refl i) (by omega)) os k h g l cd' p₀ kept F2 FS
    exact ⟨n + m, by omega, gT_app e1 e2⟩
end Mine.H

end
section
open PySem PySem.W PySem.Calls PyProof.Rows
set_option Elab.async false
set_option maxRecDepth 1000000
set_option maxHeartbeats 4000000
set_option linter.unusedVariables false
namespace Mine.H
noncomputable def o169 : Obj := { cls := .type "str_ascii_iterator", data := .fields #[.none, .int 22 0] }
noncomputable def o170 : Obj := { cls := .type "tuple", data := .seq #[] }
noncomputable def o171 : Obj := { cls := .type "StopIteration", data := .fields #[.ref 170, .none, .none, .none, .bool false, .none] }
noncomputable def treeF (P : Params) (o : Obj) : BT := ((((tF P).set 168 (fun _ => o)).set 169 (fun _ => o169)).set 170 (fun _ => o170)).set 171 (fun _ => o171)
noncomputable abbrev posF : Pos := ⟨243, 0, 274, 66⟩
noncomputable abbrev SF (w : World) (os : OsState) (o : Obj) : SharedT := { tree := treeF w.params o, n := 285, life := {}, gens := ⟨[]⟩, drawn := {}, toks := 628, os }
theorem tailF (w : World) (os : OsState) (q : SetQ) : segRunT treeTable rpw (wb w false) 11 ann 1 1100 (SQ (wb w false) os q (itO 22) 470) ⟨denote treeTable loopC, loopC, posL, (T1 (wb w false)).stack⟩ = some (.next, SF (wb w false) os (setO q.1 q.2.1 q.2.2), cd, posF) := by
  kernel_rfl
end Mine.H

end
section
open PySem PySem.W PySem.Calls PyProof.Rows
set_option Elab.async false
set_option maxRecDepth 1000000
set_option maxHeartbeats 4000000
set_option linter.unusedVariables false
namespace Mine.H
theorem tailT (w : World) (os : OsState) (q : SetQ) : segRunT treeTable rpw (wb w true) 11 ann 1 1100 (SQ (wb w true) os q (itO 22) 470) ⟨denote treeTable loopC, loopC, posL, (T1 (wb w true)).stack⟩ = some (.next, SF (wb w true) os (setO q.1 q.2.1 q.2.2), cd, posF) := by
  kernel_rfl
theorem tail (w : World) (b : Bool) (os : OsState) (q : SetQ) : segRunT treeTable rpw (wb w b) 11 ann 1 1100 (SQ (wb w b) os q (itO 22) 470) ⟨denote treeTable loopC, loopC, posL, (T1 (wb w b)).stack⟩ = some (.next, SF (wb w b) os (setO q.1 q.2.1 q.2.2), cd, posF) := by
  cases b
  · exact tailF w os q
  · exact tailT w os q
theorem stack_shape (w : World) (b : Bool) : (match (T1 (wb w b)).stack with | .ret _ _ _ _ _ _ _ :: _ :: _ => true | _ => false) = true := by cases b <;> kernel_rfl
theorem hexRun (w : World) (b : Bool) (os : OsState) : segRunT treeTable rpw (wb w b) 11 ann 1 2000 (S0 (wb w b) os) T0 =
    some (.next, SF (wb w b) os (setO (qAt (wb w b) 22).1 (qAt (wb w b) 22).2.1 (qAt (wb w b) 22).2.2), cd, posF) := by
  have hs := stack_shape w b
  have h3 := tail w b os (qAt (wb w b) 22)
  have h1 := c1 w b os
  generalize (T1 (wb w b)).stack = st at hs h3 h1
  split at hs
  · rename_i k h g l c' p₀ kept F2 FS
    obtain ⟨n, hn, h2⟩ := turns (w := w) (b := b) os k h g l c' p₀ kept F2 FS 22 (Nat.le_refl _)
    have := gT_run (gT_app h1 h2) h3
    have := sR_mono (2000 - (20 + n + 1100)) this
    rw [show 20 + n + 1100 + (2000 - (20 + n + 1100)) = 2000 by omega] at this
    exact this
  · cases hs
noncomputable def wOf (P : Params) : World := { draws := fun _ _ => 0, params := P }
noncomputable def qP (P : Params) : SetQ := qAt (wOf P) 22
theorem qAt_P (w : World) : ∀ i, qAt w i = qAt (wOf w.params) i
  | 0 => rfl
  | i + 1 => by unfold qAt; rw [qAt_P w i]; rfl
noncomputable def hexObj (P : Params) : Obj := setO (qP P).1 (qP P).2.1 (qP P).2.2
theorem hexRun2 (w : World) (os : OsState) : segRunT treeTable rpw w 11 ann 1 2000 (S0 w os) T0 = some (.next, SF w os (hexObj w.params), cd, posF) := by
  have key : ∀ b, segRunT treeTable rpw (wb w b) 11 ann 1 2000 (S0 (wb w b) os) T0 = some (.next, SF (wb w b) os (hexObj (wb w b).params), cd, posF) := fun b => by
    have h := hexRun w b os
    rw [qAt_P (wb w b) 22] at h
    unfold hexObj qP
    exact h
  have h := key (w.params.followText "special-get-raises")
  have e : wb w (w.params.followText "special-get-raises") = w := World.withFollow_self w _
  rw [e] at h
  exact h
noncomputable abbrev heapF (P : Params) : Heap := absHeap (treeF P (hexObj P)) 285 {}
theorem pre (w : World) (os : OsState) : topGo treeTable rpw w 11 ann 12 ⟨boot_heap w.params, ⟨[]⟩, boot_drawn, boot_toks, os⟩ (topStub rpw) = some (({ tree := t4 w.params, n := 15, life := {}, gens := ⟨[]⟩, drawn := {}, toks := 187, os } : SharedT).abs, ⟨denote treeTable cd, cd, ⟨0,0,0,0⟩, [topFrame qT]⟩) := by
  kernel_rfl
theorem block (w : World) (os : OsState) : segRun treeTable rpw w 11 ann 1 1 (({ tree := t4 w.params, n := 15, life := {}, gens := ⟨[]⟩, drawn := {}, toks := 187, os } : SharedT).abs) (blockOf bd env1 cd ⟨0,0,0,0⟩ [topFrame qT]) = some (.next, ({ tree := t4 w.params, n := 15, life := {}, gens := ⟨[]⟩, drawn := {}, toks := 187, os } : SharedT).abs, cd, ⟨0,0,0,0⟩) := by
  kernel_rfl
theorem fin (w : World) (os : OsState) (o : Obj) : topRun treeTable rpw w 11 ann 2 (SF w os o).abs ⟨doneF .next, cd, posF, [topFrame qT]⟩ = some (SF w os o).abs := by
  kernel_rfl
noncomputable def firstS : List Stmt := bd.take 42
noncomputable abbrev SB (w : World) (os : OsState) : SharedT := { tree := t4 w.params, n := 15, life := {}, gens := ⟨[]⟩, drawn := {}, toks := 187, os }
theorem first (w : World) (b : Bool) (os : OsState) : segRunT treeTable rpw (wb w b) 11 ann 1 1300 (SB (wb w b) os) (piecesOf firstS env1 cd ⟨0,0,0,0⟩ [topFrame qT]) = some (.next, S0 (wb w b) os, cd, ⟨157,0,157,8⟩) := by
  cases b
  · kernel_rfl
  · kernel_rfl
theorem first2 (w : World) (os : OsState) : segRunT treeTable rpw w 11 ann 1 1300 (SB w os) (piecesOf firstS env1 cd ⟨0,0,0,0⟩ [topFrame qT]) = some (.next, S0 w os, cd, ⟨157,0,157,8⟩) := by
  have h := first w (w.params.followText "special-get-raises") os
  have e : wb w (w.params.followText "special-get-raises") = w := World.withFollow_self w _
  rw [e] at h
  exact h
theorem bd_eq : firstS ++ (hexS ++ []) = bd := by
  rw [List.append_nil]; exact List.take_append_drop 42 bd
theorem run (w : World) (os : OsState) : topRun treeTable rpw w 11 ann 4000 ⟨boot_heap w.params, ⟨[]⟩, boot_drawn, boot_toks, os⟩ (topStub rpw) = some ⟨heapF w.params, ⟨[]⟩, {}, 628, os⟩ := by
  have h1 := piece_app (rest := []) (segRun_of (hexRun2 w os)) (piece_nil (fin w os (hexObj w.params)))
  have h2 := piece_app (segRun_of (first2 w os)) h1
  rw [bd_eq] at h2
  have h3 := go_top (pre w os) (piece_block (block w os) h2)
  have := topRun_mono (4000 - (12 + (1 + (1300 + (2000 + 2))))) _ _ _ _ h3
  exact this
end Mine.H

end
section
open PySem PySem.W PySem.Calls PyProof.Rows
set_option Elab.async false
set_option maxRecDepth 1000000
set_option maxHeartbeats 4000000
set_option linter.unusedVariables false
namespace Mine.H
noncomputable def asK : List Addr := [2, 3, 15, 17, 18, 20, 21, 22, 24, 25, 27, 28, 29, 36, 38, 39, 41, 42, 43, 44, 45, 48, 55, 57, 58, 60, 61, 62, 64, 65, 67, 68, 69, 71, 72, 74, 75, 76, 77, 78, 81, 83, 84, 86, 87, 88, 90, 91, 93, 94, 95, 97, 98, 100, 101, 102, 104, 105, 107, 108, 109, 111, 112, 114, 115, 116, 119, 120, 121, 123, 124, 126, 127, 128, 129, 130, 131, 132, 133, 134, 135, 136, 137, 138, 139, 140, 141, 142, 143, 144, 145, 146, 147, 148, 149, 150, 151, 152, 153, 154, 155, 156, 157, 158, 159, 160, 161, 163, 164, 166, 167, 168, 172, 179, 180, 181, 182, 192, 194, 195, 197, 198, 199, 200, 202, 203, 205, 206, 207, 209, 210, 212, 213, 214, 215, 216, 217, 218, 221, 223, 224, 226, 227, 228, 230, 231, 233, 234, 235, 237, 238, 240, 241, 242, 244, 245, 247, 248, 249, 251, 252, 254, 255, 256, 259, 260, 261, 263, 264, 266, 267, 268, 270, 271, 273, 274, 275, 278, 279, 280, 283, 284]
noncomputable def KR : Params → Frag := fun P => (nat_lit 2, PySem.W.boot_o_2 P) :: (nat_lit 3, f3 P) :: (nat_lit 15, b11) :: (nat_lit 17, a17) :: (nat_lit 18, b11) :: (nat_lit 20, a20) :: (nat_lit 21, a21) :: (nat_lit 22, b11) :: (nat_lit 24, a24) :: (nat_lit 25, b11) :: (nat_lit 27, a27) :: (nat_lit 28, a28) :: (nat_lit 29, a29) :: (nat_lit 36, b11) :: (nat_lit 38, a38) :: (nat_lit 39, b11) :: (nat_lit 41, a41) :: (nat_lit 42, a42) :: (nat_lit 43, b11) :: (nat_lit 44, a44 P) :: (nat_lit 45, a45) :: (nat_lit 48, a48) :: (nat_lit 55, b11) :: (nat_lit 57, a57) :: (nat_lit 58, b11) :: (nat_lit 60, a60) :: (nat_lit 61, a61) :: (nat_lit 62, b11) :: (nat_lit 64, a64) :: (nat_lit 65, b11) :: (nat_lit 67, a67) :: (nat_lit 68, a68) :: (nat_lit 69, b11) :: (nat_lit 71, a71) :: (nat_lit 72, b11) :: (nat_lit 74, a74) :: (nat_lit 75, a75) :: (nat_lit 76, b11) :: (nat_lit 77, a77 P) :: (nat_lit 78, a78) :: (nat_lit 81, b11) :: (nat_lit 83, a83) :: (nat_lit 84, b11) :: (nat_lit 86, a86) :: (nat_lit 87, a87) :: (nat_lit 88, b11) :: (nat_lit 90, a90) :: (nat_lit 91, b11) :: (nat_lit 93, a93) :: (nat_lit 94, a94) :: (nat_lit 95, b11) :: (nat_lit 97, a97) :: (nat_lit 98, b11) :: (nat_lit 100, a100) :: (nat_lit 101, a101) :: (nat_lit 102, b11) :: (nat_lit 104, a104) :: (nat_lit 105, b11) :: (nat_lit 107, a107) :: (nat_lit 108, a108) :: (nat_lit 109, b11) :: (nat_lit 111, a111) :: (nat_lit 112, b11) :: (nat_lit 114, a114) :: (nat_lit 115, a115) :: (nat_lit 116, b11) :: (nat_lit 119, a119) :: (nat_lit 120, a120) :: (nat_lit 121, b11) :: (nat_lit 123, a123) :: (nat_lit 124, b11) :: (nat_lit 126, a126) :: (nat_lit 127, a127) :: (nat_lit 128, a128) :: (nat_lit 129, a129) :: (nat_lit 130, a130) :: (nat_lit 131, a131) :: (nat_lit 132, a132) :: (nat_lit 133, a133) :: (nat_lit 134, a134) :: (nat_lit 135, a135) :: (nat_lit 136, a136) :: (nat_lit 137, a137) :: (nat_lit 138, a138) :: (nat_lit 139, a139) :: (nat_lit 140, a140) :: (nat_lit 141, a141) :: (nat_lit 142, a142) :: (nat_lit 143, a143) :: (nat_lit 144, a144) :: (nat_lit 145, a145) :: (nat_lit 146, a146) :: (nat_lit 147, a147) :: (nat_lit 148, a148) :: (nat_lit 149, a149) :: (nat_lit 150, a150) :: (nat_lit 151, a151) :: (nat_lit 152, a152) :: (nat_lit 153, a153) :: (nat_lit 154, a154) :: (nat_lit 155, a155) :: (nat_lit 156, a156) :: (nat_lit 157, a157) :: (nat_lit 158, a158) :: (nat_lit 159, a159) :: (nat_lit 160, a160) :: (nat_lit 161, b11) :: (nat_lit 163, a163) :: (nat_lit 164, b11) :: (nat_lit 166, a166) :: (nat_lit 167, a167) :: (nat_lit 168, hexObj P) :: (nat_lit 172, f172) :: (nat_lit 179, b11) :: (nat_lit 180, f180 P) :: (nat_lit 181, f181) :: (nat_lit 182, f182) :: (nat_lit 192, b11) :: (nat_lit 194, f194) :: (nat_lit 195, b11) :: (nat_lit 197, f197) :: (nat_lit 198, f198) :: (nat_lit 199, f199 P) :: (nat_lit 200, b11) :: (nat_lit 202, f202) :: (nat_lit 203, b11) :: (nat_lit 205, f205) :: (nat_lit 206, f206) :: (nat_lit 207, b11) :: (nat_lit 209, f209) :: (nat_lit 210, b11) :: (nat_lit 212, f212) :: (nat_lit 213, f213) :: (nat_lit 214, f214) :: (nat_lit 215, f215 P) :: (nat_lit 216, f216) :: (nat_lit 217, f217) :: (nat_lit 218, f218) :: (nat_lit 221, b11) :: (nat_lit 223, f223) :: (nat_lit 224, b11) :: (nat_lit 226, f226) :: (nat_lit 227, f227) :: (nat_lit 228, b11) :: (nat_lit 230, f230) :: (nat_lit 231, b11) :: (nat_lit 233, f233) :: (nat_lit 234, f234) :: (nat_lit 235, b11) :: (nat_lit 237, f237) :: (nat_lit 238, b11) :: (nat_lit 240, f240) :: (nat_lit 241, f241) :: (nat_lit 242, b11) :: (nat_lit 244, f244) :: (nat_lit 245, b11) :: (nat_lit 247, f247) :: (nat_lit 248, f248) :: (nat_lit 249, b11) :: (nat_lit 251, f251) :: (nat_lit 252, b11) :: (nat_lit 254, f254) :: (nat_lit 255, f255) :: (nat_lit 256, b11) :: (nat_lit 259, f259) :: (nat_lit 260, f260) :: (nat_lit 261, b11) :: (nat_lit 263, f263) :: (nat_lit 264, b11) :: (nat_lit 266, f266) :: (nat_lit 267, f267) :: (nat_lit 268, b11) :: (nat_lit 270, f270) :: (nat_lit 271, b11) :: (nat_lit 273, f273) :: (nat_lit 274, f274) :: (nat_lit 275, b11) :: (nat_lit 278, f278) :: (nat_lit 279, f279) :: (nat_lit 280, b11) :: (nat_lit 283, f283) :: (nat_lit 284, f284) :: []
noncomputable def looseL : List Str := [Str.ofString "_wall", Str.ofString "_plain_name", Str.ofString "ABCMeta", Str.ofString "_ABCLike", Str.ofString "_abc_plain_meta", Str.ofString "fspath", Str.ofString "_check_arg_types", Str.ofString "_get_sep", Str.ofString "join", Str.ofString "commonpath", Str.ofString "S_IFMT", Str.ofString "S_IFDIR", Str.ofString "S_IFCHR", Str.ofString "S_IFBLK", Str.ofString "S_IFREG", Str.ofString "S_IFIFO", Str.ofString "S_IFLNK", Str.ofString "S_IFSOCK", Str.ofString "S_ISUID", Str.ofString "S_ISGID", Str.ofString "S_ISVTX", Str.ofString "S_IRUSR", Str.ofString "S_IWUSR", Str.ofString "S_IXUSR", Str.ofString "S_IRGRP", Str.ofString "S_IWGRP", Str.ofString "S_IXGRP", Str.ofString "S_IROTH", Str.ofString "S_IWOTH", Str.ofString "S_IXOTH", Str.ofString "_filemode_table", Str.ofString "filemode", Str.ofString "digits", Str.ofString "hexdigits", Str.ofString "HEXDIGIT_CHARS", Str.ofString "TOMLDecodeError", Str.ofString "NestedDict", Str.ofString "skip_until", Str.ofString "parse_hex_char", Str.ofString "suffixed_err", Str.ofString "is_unicode_scalar_value", Str.ofString "_law_signs", Str.ofString "_law_figures", Str.ofString "_law_old", Str.ofString "_law_shared", Str.ofString "_law_nests"]
noncomputable def viewQ : Program := { rpw with main := { rpw.main with body := rpw.main.body.drop 55 } }
noncomputable abbrev rr : OpenRow := Challenge.rw_kt0067_01.row
noncomputable abbrev XtQ : Shared → Bool := fun s => xlAt viewQ [] s && recOk (RowW.records rr.toRowW) s
noncomputable abbrev sF (w : World) (os : OsState) : Shared := ⟨heapF w.params, ⟨[]⟩, {}, 628, os⟩
theorem l0 (w : World) (os : OsState) : (staticsOk (importedModules rpw.main.body) (boot_heap w.params) (heapF w.params) && namesBound rpw (heapF w.params) && gensDone (sF w os) && laidKept (boot_heap w.params) (heapF w.params)) = true := by kernel_rfl
theorem l1 (w : World) (os : OsState) : seen ((recsOf viewQ).map (·.name)) (ownsOf viewQ) [] { sF w os with gens := #[] } = expectedOf viewQ := by kernel_rfl
theorem l2 (w : World) (os : OsState) : (heapF w.params).bltView = bltViewBooted := by kernel_rfl
theorem l3a (w : World) (os : OsState) : (heapF w.params).keysOk (looseW viewQ looseL) ((recsOf viewQ).map (·.name)) ((litsOf viewQ).map (·.1)) ((clssOf viewQ (looseW viewQ looseL)).map (·.name)) = true := by kernel_rfl
theorem l3b (w : World) (os : OsState) : (heapF w.params).accountedOkI (importedModules rpw.main.body) = true := by kernel_rfl
theorem l3c (w : World) (os : OsState) : ((heapF w.params).isNs mainGlobals && (heapF w.params).isNs builtinsNs) = true := by kernel_rfl
theorem l3d (w : World) (os : OsState) : tablesOk viewQ (heapF w.params) = true := by kernel_rfl
theorem l3e (w : World) (os : OsState) : XtQ (sF w os) = true := by kernel_rfl
theorem l4 (w : World) (os : OsState) : tabsOk viewQ (sF w os) = true := by kernel_rfl
theorem l5 (w : World) (os : OsState) : pinSeenD viewQ (drecsOf viewQ) (sF w os) = pinGoodD (drecsOf viewQ) := by kernel_rfl
theorem l6 (w : World) (os : OsState) : plainSeenE viewQ (looseW viewQ looseL) (sF w os) = plainGoodE viewQ (looseW viewQ looseL) := by kernel_rfl
theorem l7 (w : World) (os : OsState) : plainSeenD viewQ looseL (sF w os) = plainGoodD viewQ looseL := by kernel_rfl
theorem l8 (w : World) (os : OsState) : wideSeen viewQ (sF w os) = wideGood viewQ := by kernel_rfl
theorem l9 (w : World) (os : OsState) : clsSeenW viewQ looseL (sF w os) = clsGoodW viewQ looseL := by kernel_rfl
theorem l10 (w : World) (os : OsState) : asK.map (heapF w.params).get? = (KR w.params).map fun p => some p.2 := by kernel_rfl
theorem l11 (P : Params) : asK = (KR P).map (·.1) := by kernel_rfl
end Mine.H

end
section
open PySem PySem.W PySem.Calls PyProof.Rows
set_option Elab.async false
set_option maxRecDepth 1000000
set_option maxHeartbeats 4000000
set_option linter.unusedVariables false
namespace Mine.H
theorem open0 (w : World) : (fencedOpening treeTable rpw w 4000).map (fun s => (s.heap, s.gens, s.drawn, s.toks)) = some (boot_heap w.params, Array.mk [], boot_drawn, boot_toks) :=
  boot_open (by kernel_rfl) (by kernel_rfl) (fun s => by kernel_rfl) w
theorem size0 (w : World) : ((boot_heap w.params).isNs mainGlobals && (Array.mk [] : Array GenState).size == 0, (boot_heap w.params).objs.size, (boot_heap w.params).nsMap mainGlobals "__annotations__") = (true, 11, ann) := by kernel_rfl
theorem leftH : LeftO rr.prog viewQ looseL XtQ (fun s => asK.map s.heap.get?) (fun w => (KR w.params).map fun p => some p.2) 4000 := by
  refine LeftO.of_pieces (H₀ := boot_heap) (H₁ := heapF) (gs₀ := ⟨[]⟩) (gs₁ := ⟨[]⟩) (d₀ := boot_drawn) (d₁ := {}) (k₀ := boot_toks) (k₁ := 628) (m₀ := 11) (ann := ann) (M := 4000) open0 size0 run (by kernel_rfl) fun w => ?_
  funext os
  have e := l0 w os
  have e1 := l1 w os
  have e3 : ((heapF w.params).keysOk (looseW viewQ looseL) ((recsOf viewQ).map (·.name)) ((litsOf viewQ).map (·.1)) ((clssOf viewQ (looseW viewQ looseL)).map (·.name)) && (heapF w.params).accountedOkI (importedModules rpw.main.body) && (heapF w.params).isNs mainGlobals && (heapF w.params).isNs builtinsNs && tablesOk viewQ (heapF w.params) && XtQ (sF w os) && (if true then (sF w os).gens.size == 0 else !leftWithCleanup (sF w os).gens)) = true := by
    have hc := Bool.and_eq_true_iff.mp (l3c w os)
    rw [l3a w os, l3b w os, hc.1, hc.2, l3d w os, l3e w os]
    rfl
  refine Prod.ext e (Prod.ext (Prod.ext e1 (Prod.ext (l2 w os) (Prod.ext e3 (Prod.ext (l4 w os) (Prod.ext (l5 w os) (Prod.ext (l6 w os) (Prod.ext (l7 w os) (Prod.ext (l8 w os) (l9 w os))))))))) (l10 w os))
theorem head {d : DefRec} {kwd : List (Str × Expr)} (hdef : defOf viewQ rr.name = some (d, kwd)) (hp : rr.prog.theDef rr.name = some (d.params, d.body, d.scope)) (hk : kwWritten? d.params.kwonlyargs d.params.kw_defaults = some kwd)
    (call : WalkO viewQ looseL (XL viewQ []) (InK KR) rr.toRowW d kwd fun f vs => PySem.call f vs) : Challenge.rw_kt0067_01.Holds := by
  refine holds_law (by kernel_rfl) fun said => ?_
  refine holds_open leftH (fun w s e => InK.of l11 w s e) InK.keeps (fun s e => xl_of s (Bool.and_eq_true_iff.mp e).1) XL.keeps hdef hp hk (fun s e => recFacts_of (Bool.and_eq_true_iff.mp e).2) (by rfl) (by first | assumption | decide +kernel) (by decide +kernel) ⟨rfl, rfl, rfl, rfl, rfl, by decide +kernel⟩ ?hw call
  case hw => exact ⟨[.list [.int 3, .int 1]], by decide +kernel, by decide +kernel⟩
end Mine.H

end
section
open PySem PySem.W PySem.Calls PyProof.Rows
set_option Elab.async false
set_option maxRecDepth 100000
namespace Mine
noncomputable abbrev KK : Params → Frag := H.KR
noncomputable abbrev pw : Program := H.rpw
noncomputable def pick (b : Bool) (x y : Str) : Str := if b then x else y
theorem pick_len {b : Bool} {x y : Str} {n : Nat} (hx : x.length ≤ n) (hy : y.length ≤ n) : (pick b x y).length ≤ n := by unfold pick; split <;> assumption
theorem ofS1 {x : Str} {n : Nat} (h : x.cps.size = n) : x.length = n := h
theorem ifexp_strs {M : Model} {A : Around} {E : Value → Shared → Prop} {s : Shared} {env : Env} {test : Expr} {x y : Str} {k1 k2} {p1 p2 pos : Pos} {n : Nat} {Q : Value → Shared → Prop}
   (h : wpAny M A (isTrue test env (eval test env)) (fun b s₁ => ∀ z : Str, z = pick b x y → z.length = n → ∀ t tk, Q (.str z t) {s₁ with toks := tk}) E s)
   (hx : x.length = n) (hy : y.length = n) :
   wpAny M A (eval (.IfExp test (.Constant (.str x) k1 p1) (.Constant (.str y) k2 p2) pos) env) Q E s := by
  refine wpAny_IfExp (wpAny_mono h (fun b s₁ h₁ => ?_) fun _ _ x => x)
  cases b
  · exact Calls.Constant_str (h₁ y rfl hy _ _)
  · exact Calls.Constant_str (h₁ x rfl hx _ _)
theorem iadd_strs {prog : Program} {w : World} {A : Around} {E : Value → Shared → Prop} {s : Shared} {x y : Str} {t u : Tok} {Q : Value → Shared → Prop}
   (h : ∀ z : Str, z = x ++ y → z.length = x.length + y.length → ∀ t tk, Q (.str z t) { s with toks := tk }) (hsz : x.length + y.length ≤ sizeLine) :
   wpAny (model prog w) A (inplaceOp .Add (.str x t) (.str y u)) Q E s := PyProof.Rows.iadd_str (fun t' tk => h _ rfl (Str.length_append _ _) t' tk) hsz
theorem add_strs {prog : Program} {w : World} {A : Around} {E : Value → Shared → Prop} {s : Shared} {x y : Str} {t u : Tok} {Q : Value → Shared → Prop}
   (h : ∀ z : Str, z = x ++ y → z.length = x.length + y.length → ∀ t tk, Q (.str z t) { s with toks := tk }) (hsz : x.length + y.length ≤ sizeLine) :
   wpAny (model prog w) A (binaryOp .Add (.str x t) (.str y u)) Q E s := PyProof.Rows.add_str (fun t' tk => h _ rfl (Str.length_append _ _) t' tk) hsz

structure SJoinV (x : Str) (v : Str) (h₀ : Heap) (L : Addr) (m : Str → Option Value) (news : List (Addr × Obj)) (s : Shared) (f : Flow) (s' : Shared) : Prop where
  next : f = .next
  here : ∃ t : Tok, KJoinAt h₀ L (fun y => if y = x then some (.str v t) else m y) news s s'
noncomputable def SJB1 (P : Prop) : Prop := P
noncomputable def SJB2 (P : Prop) : Prop := P
theorem if_store_str {M : Model} {A : Around} {E : Value → Shared → Prop} {s : Shared} {env : Env} {h₀ : Heap} {L : Addr} {m : Str → Option Value} {news : List (Addr × Obj)}
    {test : Expr} {e : Expr} {x : Str} {p q pos : Pos} {c : Bool} {a v : Str} {t₀ : Tok} {n : Nat} {Q : Flow → Shared → Prop} (_F : Fr h₀ L s.heap m) (_N : News h₀ L s.heap news)
    (hold : m x = some (.str a t₀))
    (hc : wpAny M A (isTrue test env (eval test env)) (fun k s₂ => KJoinC c h₀ L m news s k s₂) E s)
    (hv : SJB1 (∀ s₂, KJoinAt h₀ L m news s s₂ → wpAny M A (exec (.Assign [.Name x p] e q) env) (fun f s₃ => SJoinV x v h₀ L m news s f s₃) E s₂))
    (ha : a.length = n) (hvl : v.length = n)
    (hk : SJB2 (∀ z : Str, z = pick c v a → z.length = n → ∀ (t : Tok) (s₃ : Shared), KJoinAt h₀ L (fun y => if y = x then some (.str z t) else m y) news s s₃ → Q .next s₃)) :
    wpAny M A (exec (.If test [.Assign [.Name x p] e q] [] pos) env) Q E s := by
  refine wpAny_If (wpAny_mono hc (fun k s₂ hkc => ?_) fun _ _ h => h)
  obtain ⟨hkc, hat⟩ := hkc
  subst hkc
  cases k with
  | true =>
    show wpAny M A (execs [_] env) Q E s₂
    refine wpAny_execs_cons (wpAny_mono (hv s₂ hat) (fun f s₃ hf => ?_) fun _ _ h => h)
    obtain ⟨hf, t, ht⟩ := hf
    subst hf
    exact wpAny_execs_nil (hk v rfl hvl t s₃ ht)
  | false =>
    show wpAny M A (execs [] env) Q E s₂
    refine wpAny_execs_nil (hk a rfl ha t₀ s₂ ?_)
    have e : (fun y => if y = x then some (Value.str a t₀) else m y) = m := by
      funext y
      by_cases hy : y = x
      · rw [if_pos hy, hy, hold]
      · rw [if_neg hy]
    rw [e]
    exact hat
theorem item_strs {prog : Program} {w : World} {A : Around} {E : Value → Shared → Prop} {s : Shared} {value slice : PySem.Expr} {x : PySem.Str} {t u : Tok} {n : Nat} {i : Int} {Q : Value → Shared → Prop}
   (hk : x.length = n) (h0 : -(n : Int) ≤ i) (h1 : i < (n : Int)) (hn : n ≤ 16777216) (h : ∀ z : Str, z = Txt.item x i → z.length = 1 → ∀ t tk, Q (.str z t) { s with toks := tk })
    (hs : subscripted slice false (.str x t) (.int i u) = operate [.str x t, .int i u] (getItem (.str x t) (.int i u)) := by with_unfolding_all rfl)
    (ht : ∀ r, letTemporaryGo value (.str x t) r = pure () := by intro _; with_unfolding_all rfl) :
    wpAny (model prog w) A (subscriptTail value slice (.str x t) (.int i u)) Q E s := KXi.item hk h0 h1 hn (fun e => h _ rfl e _ _) hs ht
section
variable {prog : Program} {w : World} {A : Around} {R : Result → Shared → Prop} {s : Shared} {K : Frag} {p : Program} {loose : List Str} {mean : ExcName → Option Value} {mg mb : Str → Option Value}
  {name qual : Str} {params : Arguments} {body : List Stmt} {scope : Scope} {dV kV doc pm cdv ct oc : Value} {an od : Option Addr} {osl : Array (Option Value)} {f : Addr} {args : Args} {binds : List (Str × Value)}
theorem enterP (X : K.In s.heap) (T : Top p loose mean mg mb s.heap)
    (ho : K.lookup f = some ⟨oc, od, .func (fnOf name qual params body scope dV kV doc pm an cdv ct), osl⟩) (hcd : codeIn K cdv qual = true) (hroom : A.depth < recursionLimit)
    (hbind : BindsTo s (fnOf name qual params body scope dV kV doc pm an cdv ct) args binds) (hloc : ∀ y ∈ binds, scope.names.lookup y.1 = some .local)
    (hco : scope.isCoroutine = false) (hgen : scope.isGenerator = false) (hk : scope.kind = .function) (hcell : ∀ x ∈ scope.names, x.2 ≠ .cell)
    (h : ∀ L' h₁ tk, Fr s.heap L' h₁ (fun y => binds.reverse.lookup y) → News s.heap L' h₁ [] → 
      wpAny (model prog w) (A.deeper (envOf qual scope L' f cdv)) (execs body (envOf qual scope L' f cdv))
        (fun fl s' => R (.ok (.ret (match fl with | .ret v => v | _ => .none))) s') (fun _ _ => False)
        { s with heap := h₁, toks := tk }) : codeAny (model prog w) A (.call (.ref f) args) R s := by
  refine codeAny_call_def (fd := fnX name qual params body scope [] dV kV doc pm an cdv ct) (body := body) (binds := binds) hroom (X _ _ ho) rfl T.nolimit (codeRec_of X hcd) rfl hbind hcell hloc (fun h₁ hns hk₁ => ?_) hco hgen hk
  exact wpAny_mono (h s.heap.objs.size h₁ _ ⟨hns, hk₁, Nat.le_refl _⟩ News.nil) (fun fl s' hl => hl) fun _ _ y => y.elim

theorem enterC (X : K.In s.heap) (T : Top p loose mean mg mb s.heap)
    (ho : K.lookup f = some ⟨oc, od, .func (fnOf name qual params body scope dV kV doc pm an cdv ct), osl⟩) (hcd : codeIn K cdv qual = true) (hroom : A.depth < recursionLimit)
    (hbind : BindsTo s (fnOf name qual params body scope dV kV doc pm an cdv ct) args binds) (hkind : (binds.all fun y => scope.names.lookup y.1 == some .local || scope.names.lookup y.1 == some .cell) = true)
    (hnd : ((cellsFrom 0 scope.names []).map (·.1)).Nodup)
    (hco : scope.isCoroutine = false) (hgen : scope.isGenerator = false) (hk : scope.kind = .function)
    (h : ∀ L' h₁ tk cells, Fr s.heap L' h₁ (bindL (envOfC qual scope L' f cdv).kindOf binds fun _ => none) → News s.heap L' h₁ cells → 
      CellsAre (bindC (envOfC qual scope L' f cdv).kindOf binds fun _ => none) (cellsFrom (L' + 1) scope.names []) cells →
      wpAny (model prog w) (A.deeper (envOfC qual scope L' f cdv)) (execs body (envOfC qual scope L' f cdv))
        (fun fl s' => R (.ok (.ret (match fl with | .ret v => v | _ => .none))) s') (fun _ _ => False)
        { s with heap := h₁, toks := tk }) : codeAny (model prog w) A (.call (.ref f) args) R s := by
  refine codeAny_call_function hroom (X _ _ ho) rfl hco hgen rfl (codeRec_of X hcd) (hbind _ _ _ _ ?_)
  refine wpAny_newFunctionEnv_cells hk (kindsX hkind _) fun env' he s' x => ?_
  subst he
  refine ⟨T.nolimit.keeps x.toInCall.keep, codeAny_func ?_⟩
  obtain ⟨h₁, tk, rfl, _⟩ := x.done
  have hk₁ := x.toInCall.keep
  obtain ⟨cells, NC, Y⟩ := Cl.news (h₀ := s.heap) (Nat.le_refl _) fun n c hm => ⟨x.cell n c (lookup_of_mem_nodup (cellsFrom_names scope.names 0 (s.heap.objs.size + 1) [] [] rfl ▸ hnd) hm), x.above n c hm⟩
  exact wpAny_mono (h s.heap.objs.size h₁ tk cells ⟨x.toInCall.ns, hk₁, Nat.le_refl _⟩ NC Y) (fun fl s' hl => hl) fun _ _ y => y.elim
end
noncomputable def sgT (n k : Int) (acc : Str) : Str :=
  ((acc ++ pick (decide (3 < (n.fdiv (2 ^ k.toNat)).fmod 8)) (Str.ofString "r") (Str.ofString "-")) ++ pick ((((n.fdiv (2 ^ k.toNat)).fmod 8).fdiv 2).fmod 2 == 1) (Str.ofString "w") (Str.ofString "-")) ++
    Txt.item (pick ((n.fdiv (2 ^ (9 + k.fdiv 3).toNat)).fmod 2 == 1) (pick (decide (0 < k)) (Str.ofString "Ss") (Str.ofString "Tt")) (Str.ofString "-x")) (((n.fdiv (2 ^ k.toNat)).fmod 8).fmod 2)
noncomputable def sg (n : Int) : Str := sgT n 0 (sgT n 3 (sgT n 6 (Txt.item (Str.ofString "?pc?d?b?-?l?s???") (n.fdiv 4096))))
noncomputable abbrev Ext (h h' : Heap) : Prop := ∀ b o, h.get? b = some o → h'.get? b = some o
end Mine

end
section
open PySem PySem.W PySem.Calls PyProof.Rows
set_option Elab.async false
set_option maxRecDepth 100000
set_option maxHeartbeats 1000000
namespace Mine
namespace F
theorem plainAttrs_frozenset : PlainAttrs "frozenset" :=
  ⟨⟨"object.__getattribute__", by rw [typeLookup_type, builtinLookup_eq_fast]; kernel_rfl, by decide +kernel⟩, by rw [typeLookup_type, builtinLookup_eq_fast]; kernel_rfl⟩
theorem slot_fs_isdisjoint : Slot "frozenset" "isdisjoint" "frozenset.isdisjoint" :=
  .of (owner := "frozenset") (n := "isdisjoint") (by rw [typeLookup_type, builtinLookup_eq_fast]; kernel_rfl) (by decide +kernel) (by decide +kernel) (by decide +kernel)
    (by first | exact .inl (by decide +kernel) | exact .inr (by decide +kernel)) (by rw [isSubtype_type]; kernel_rfl)
theorem type_fs_isdisjoint : typeOf (.builtin "frozenset.isdisjoint") = pure (.type "method_descriptor") := by show builtinType _ = _; rw [builtinType_eq_fast]; kernel_rfl
theorem entry_fs_isdisjoint : entryFor table "frozenset.isdisjoint" = some Builtin.«frozenset.isdisjoint» := entryFor_of_tree (by kernel_rfl)
theorem entry_fs_isdisjoint_loop : entryFor table "frozenset.isdisjoint.loop" = some Builtin.«frozenset.isdisjoint.loop» := entryFor_of_tree (by kernel_rfl)
theorem plain_fs_isdisjoint_loop : plainId "frozenset.isdisjoint.loop" = true := by decide +kernel
theorem args_fs_isdisjoint (a b : Value) : argsOk "frozenset.isdisjoint" ⟨[a, b], []⟩ := by unfold argsOk; kernel_rfl
theorem slot_fs_issuperset : Slot "frozenset" "issuperset" "frozenset.issuperset" :=
  .of (owner := "frozenset") (n := "issuperset") (by rw [typeLookup_type, builtinLookup_eq_fast]; kernel_rfl) (by decide +kernel) (by decide +kernel) (by decide +kernel)
    (by first | exact .inl (by decide +kernel) | exact .inr (by decide +kernel)) (by rw [isSubtype_type]; kernel_rfl)
theorem type_fs_issuperset : typeOf (.builtin "frozenset.issuperset") = pure (.type "method_descriptor") := by show builtinType _ = _; rw [builtinType_eq_fast]; kernel_rfl
theorem entry_fs_issuperset : entryFor table "frozenset.issuperset" = some Builtin.«frozenset.issuperset» := entryFor_of_tree (by kernel_rfl)
theorem entry_fs_issuperset_loop : entryFor table "frozenset.issuperset.loop" = some Builtin.«frozenset.issuperset.loop» := entryFor_of_tree (by kernel_rfl)
theorem plain_fs_issuperset_loop : plainId "frozenset.issuperset.loop" = true := by decide +kernel
theorem args_fs_issuperset (a b : Value) : argsOk "frozenset.issuperset" ⟨[a, b], []⟩ := by unfold argsOk; kernel_rfl
theorem sub_str_set : isSubtype (.type "str") (.type "set") = pure false := by rw [isSubtype_type]; kernel_rfl
theorem sub_str_frozenset : isSubtype (.type "str") (.type "frozenset") = pure false := by rw [isSubtype_type]; kernel_rfl
end F

noncomputable def FSet (prog : Program) (w : World) (h : Heap) (a : Addr) (S : Str → Bool) : Prop :=
  ∃ o es ep t, h.get? a = some o ∧ o.cls = .type "frozenset" ∧ o.dict = none ∧ o.data = .set es ep t ∧ ElemsOf (strKind prog w) es.toList ∧
    (∀ k, S k = true ↔ ∃ e ∈ es.toList, (strKind prog w).is k e.2 = true) ∧ es.size < scanBound ∧ t.fits es.size = true
theorem FSet.keeps {prog : Program} {w : World} {h h' : Heap} {a : Addr} {S : Str → Bool} (x : FSet prog w h a S) (k : Ext h h') : FSet prog w h' a S := by
  obtain ⟨o, es, ep, t, ho, r⟩ := x; exact ⟨o, es, ep, t, k _ _ ho, r⟩
theorem FSet.typeIs {prog : Program} {w : World} {s : Shared} {a : Addr} {S : Str → Bool} (x : FSet prog w s.heap a S) : s.TypeIs (.ref a) "frozenset" :=
  let ⟨o, _, _, _, ho, hc, _⟩ := x; ⟨o, ho, hc⟩
theorem FSet.noDict {prog : Program} {w : World} {s : Shared} {a : Addr} {S : Str → Bool} (x : FSet prog w s.heap a S) : ∀ b, Value.ref a = .ref b → ∃ ob, s.heap.get? b = some ob ∧ ob.dict = none :=
  fun b e => by injection e with e; subst e; exact let ⟨o, _, _, _, ho, _, hd, _⟩ := x; ⟨o, ho, hd⟩

section
variable {prog : Program} {w : World} {A : Around} {E : Value → Shared → Prop} {s : Shared} {a : Addr} {S : Str → Bool}

theorem setFind_F {k : Str} {x : Value} {Q : Option Nat → Shared → Prop} (hkey : (strKind prog w).is k x = true) (hsc : x.scannable = true) (hS : FSet prog w s.heap a S)
    (h : ∀ r : Option Nat, r.isSome = S k → Q r s) : wpAny (model prog w) A (setFind a x ((strKind prog w).hash k)) Q E s := by
  obtain ⟨o, es, ep, t, ho, hc, hdd, hd, hel, hS', hb, hf⟩ := hS
  unfold setFind setFindIn
  refine wpAny_bind (wpAny_setState_of ho hd hf ?_)
  have hbs : byScan x es = true := by
    unfold byScan
    simp only [hsc, Bool.true_and, Bool.and_eq_true, decide_eq_true_eq]
    refine ⟨hb, ?_⟩
    rw [← Array.all_toList, List.all_eq_true]
    exact fun e he => (hel e he).2
  dsimp only
  rw [if_pos hbs]
  refine wpAny_bind (wpAny_rule (wpAny_bind (wpAny_setScan_of hkey ho hd hf hel ?_)))
  cases hr : es.toList.findIdx? (fun e => (strKind prog w).is k e.2) with
  | none =>
    refine wpAny_pure (h _ ?_)
    cases hk : S k with
    | false => rfl
    | true =>
      obtain ⟨e, he, hek⟩ := (hS' k).mp hk
      rw [List.findIdx?_eq_none_iff] at hr
      have := hr e he
      rw [hek] at this; cases this
  | some j =>
    refine wpAny_pure (h _ ?_)
    obtain ⟨hj, hp, _⟩ := List.findIdx?_eq_some_iff_getElem.mp hr
    rw [(hS' k).mpr ⟨_, List.getElem_mem hj, hp⟩]; rfl

theorem setContains_F {x : Str} {t : Tok} {Q : Bool → Shared → Prop} (hS : FSet prog w s.heap a S)
    (h : ∀ tk, Q (S x) { s with toks := tk }) : wpAny (model prog w) A (setContains a (.str x t)) Q E s := by
  unfold setContains
  refine wpAny_holding (wpAny_bind ((strKind prog w).pyHash (k := x) (strKind_is prog w x t) ?_))
  refine wpAny_bind (setFind_F (s := { s with toks := s.toks + 1 }) (strKind_is prog w x t) rfl hS fun r hr => wpAny_pure ?_)
  rw [hr]; exact h _

theorem isdisjoint_loop {I : Addr} {fp wr : List Addr} {n : Nat} {P : Nat → Value → Prop} {St : Nat → Heap → Prop} {R : Result → Shared → Prop} (W : Walks prog w A.in1 I fp wr n P St) (haw : a ∉ fp)
    (hP : ∀ i v, P i v → ∃ x t, v = .str x t ∧ S x = false) :
    ∀ (k i : Nat) (s : Shared), n - i = k → i ≤ n → St i s.heap → FSet prog w s.heap a S →
      (∀ h' tk, (∀ b o, b ∉ wr → s.heap.get? b = some o → h'.get? b = some o) → R (.ok (.ret (.bool true))) { s with heap := h', toks := tk }) →
      codeAny (model prog w) A (.builtin "frozenset.isdisjoint.loop" ⟨[.ref a, .ref I], []⟩) R s := by
  have hSw : a ∉ wr := fun h => haw (W.sub _ h)
  have keep : ∀ {h h' : Heap}, (∀ b o, b ∉ wr → h.get? b = some o → h'.get? b = some o) → FSet prog w h a S → FSet prog w h' a S := fun k ⟨o, es, ep, t, ho, r⟩ => ⟨o, es, ep, t, k _ _ hSw ho, r⟩
  intro k
  induction k with
  | zero =>
    intro i s hk hi hst hS hR
    have hin : i = n := by omega
    subst hin
    refine codeAny_builtin F.entry_fs_isdisjoint_loop ?_
    rw [Around.under_plainId F.plain_fs_isdisjoint_loop _]
    show wpAny _ A.in1 (pyNext (.ref I) >>= _) _ _ s
    refine wpAny_bind (W.done s _ _ hst fun h' tk hm => ?_)
    show wpAny _ A.in1 (ret (Value.bool true)) _ _ _
    exact wpAny_pure (hR h' tk hm)
  | succ k ih =>
    intro i s hk hi hst hS hR
    have hlt : i < n := by omega
    refine codeAny_builtin F.entry_fs_isdisjoint_loop ?_
    rw [Around.under_plainId F.plain_fs_isdisjoint_loop _]
    show wpAny _ A.in1 (pyNext (.ref I) >>= _) _ _ s
    refine wpAny_bind (W.item i s _ _ hlt hst fun v h' tk hPv hst' hm => ?_)
    obtain ⟨x, t, rfl, hx⟩ := hP i v hPv
    show wpAny _ A.in1 (holding [Value.str x t] (setContains a (.str x t)) >>= _) _ _ _
    refine wpAny_bind (wpAny_holding (setContains_F (s := { s with heap := h', toks := tk }) (keep hm hS) fun tk' => ?_))
    rw [hx]
    refine wpAny_pure ⟨plainId_quiet F.plain_fs_isdisjoint_loop _, ih (i + 1) _ (by omega) hlt hst' (keep hm hS) fun h'' tk'' hm'' => ?_⟩
    exact hR h'' tk'' fun b o hb e => hm'' b o hb (hm b o hb e)

theorem issuperset_loop {I : Addr} {fp wr : List Addr} {n : Nat} {P : Nat → Value → Prop} {St : Nat → Heap → Prop} {R : Result → Shared → Prop} (W : Walks prog w A.in1 I fp wr n P St) (haw : a ∉ fp)
    (hP : ∀ i v, P i v → ∃ x t, v = .str x t ∧ S x = true) :
    ∀ (k i : Nat) (s : Shared), n - i = k → i ≤ n → St i s.heap → FSet prog w s.heap a S →
      (∀ h' tk, (∀ b o, b ∉ wr → s.heap.get? b = some o → h'.get? b = some o) → R (.ok (.ret (.bool true))) { s with heap := h', toks := tk }) →
      codeAny (model prog w) A (.builtin "frozenset.issuperset.loop" ⟨[.ref a, .ref I], []⟩) R s := by
  have hSw : a ∉ wr := fun h => haw (W.sub _ h)
  have keep : ∀ {h h' : Heap}, (∀ b o, b ∉ wr → h.get? b = some o → h'.get? b = some o) → FSet prog w h a S → FSet prog w h' a S := fun k ⟨o, es, ep, t, ho, r⟩ => ⟨o, es, ep, t, k _ _ hSw ho, r⟩
  intro k
  induction k with
  | zero =>
    intro i s hk hi hst hS hR
    have hin : i = n := by omega
    subst hin
    refine codeAny_builtin F.entry_fs_issuperset_loop ?_
    rw [Around.under_plainId F.plain_fs_issuperset_loop _]
    show wpAny _ A.in1 (pyNext (.ref I) >>= _) _ _ s
    refine wpAny_bind (W.done s _ _ hst fun h' tk hm => ?_)
    show wpAny _ A.in1 (ret (Value.bool true)) _ _ _
    exact wpAny_pure (hR h' tk hm)
  | succ k ih =>
    intro i s hk hi hst hS hR
    have hlt : i < n := by omega
    refine codeAny_builtin F.entry_fs_issuperset_loop ?_
    rw [Around.under_plainId F.plain_fs_issuperset_loop _]
    show wpAny _ A.in1 (pyNext (.ref I) >>= _) _ _ s
    refine wpAny_bind (W.item i s _ _ hlt hst fun v h' tk hPv hst' hm => ?_)
    obtain ⟨x, t, rfl, hx⟩ := hP i v hPv
    show wpAny _ A.in1 (holding [Value.str x t] (setContains a (.str x t)) >>= _) _ _ _
    refine wpAny_bind (wpAny_holding (setContains_F (s := { s with heap := h', toks := tk }) (keep hm hS) fun tk' => ?_))
    rw [hx]
    refine wpAny_pure ⟨plainId_quiet F.plain_fs_issuperset_loop _, ih (i + 1) _ (by omega) hlt hst' (keep hm hS) fun h'' tk'' hm'' => ?_⟩
    exact hR h'' tk'' fun b o hb e => hm'' b o hb (hm b o hb e)

theorem call_isdisjoint {x : Str} {tk : Tok} {Q : Value → Shared → Prop} (hh : A.handled = none) (hS : FSet prog w s.heap a S) (hx : ∀ c ∈ x.cps.toList, S ⟨#[c]⟩ = false)
    (h : ∀ h' tk, Ext s.heap h' → Q (.bool true) { s with heap := h', toks := tk }) :
    wpAny (model prog w) A (call (.builtin "frozenset.isdisjoint") [.ref a, .str x tk]) Q E s := by
  refine wpAny_call (codeAny_call_builtin F.slot_fs_isdisjoint.plain F.entry_fs_isdisjoint (F.slot_fs_isdisjoint.check _ _ _ _ _ _ _ _ hS.typeIs (F.args_fs_isdisjoint _ _) ?_))
  unfold Builtin.«frozenset.isdisjoint» Builtin.Frozenset.oneOther
  simp only [List.isEmpty_nil, bind_assoc]
  unfold Builtin.Frozenset.addrOf
  refine wpAny_bind (wpAny_pure ?_)
  try dsimp only
  refine wpAny_bind (wpAny_pure ?_)
  try dsimp only
  have e1 : (Value.str x tk == Value.ref a) = false := beq_eq_false_iff_ne.mpr (by intro h; cases h)
  rw [e1]
  simp only [Bool.false_eq_true, ↓reduceIte]
  refine wpAny_bind (wpAny_typeOf (typeIs_str s x tk) ?_)
  have e2 : (Value.type "str" == Value.type "set" || Value.type "str" == Value.type "frozenset") = false := by decide
  rw [e2]
  simp only [Bool.false_eq_true, ↓reduceIte]
  refine wpAny_bind (wpAny_pyIter_str fun o St W st0 => ?_)
  have hlt : a < s.heap.objs.size := let ⟨o, _, _, _, ho, _⟩ := hS; Heap.lt_size ho
  refine wpAny_pure ⟨Code.quiet_builtin _ (by decide +kernel), isdisjoint_loop (W A.in1 hh) (fun hm => absurd (List.mem_singleton.mp hm) (Nat.ne_of_lt hlt)) (fun i v ⟨c, u, hc, e⟩ => ⟨_, u, e, hx c ?_⟩) _ 0 _ rfl (Nat.zero_le _) st0 (hS.keeps fun b o' e => Heap.get?_push_of_some _ e) fun h' tk' hm => ?_⟩
  · rw [← Array.getElem?_toList] at hc; exact List.mem_of_getElem? hc
  · exact h h' tk' fun b o' e => hm b o' (fun hb => absurd (List.mem_singleton.mp hb) (Nat.ne_of_lt (Heap.lt_size e))) (Heap.get?_push_of_some _ e)

theorem call_issuperset {x : Str} {tk : Tok} {Q : Value → Shared → Prop} (hh : A.handled = none) (hS : FSet prog w s.heap a S) (hx : ∀ c ∈ x.cps.toList, S ⟨#[c]⟩ = true)
    (h : ∀ h' tk, Ext s.heap h' → Q (.bool true) { s with heap := h', toks := tk }) :
    wpAny (model prog w) A (call (.builtin "frozenset.issuperset") [.ref a, .str x tk]) Q E s := by
  refine wpAny_call (codeAny_call_builtin F.slot_fs_issuperset.plain F.entry_fs_issuperset (F.slot_fs_issuperset.check _ _ _ _ _ _ _ _ hS.typeIs (F.args_fs_issuperset _ _) ?_))
  unfold Builtin.«frozenset.issuperset» Builtin.Frozenset.oneOther
  simp only [List.isEmpty_nil, bind_assoc]
  unfold Builtin.Frozenset.addrOf
  refine wpAny_bind (wpAny_pure ?_)
  try dsimp only
  refine wpAny_bind (wpAny_pure ?_)
  try dsimp only
  have e1 := F.sub_str_set
  have e2 := F.sub_str_frozenset
  refine wpAny_bind (m := Builtin.Frozenset.isAnySet _) ?_
  unfold Builtin.Frozenset.isAnySet
  refine wpAny_bind (wpAny_isInstance (typeIs_str s x tk) F.sub_str_set ?_)
  try dsimp only
  refine wpAny_isInstance (typeIs_str s x tk) F.sub_str_frozenset ?_
  simp only [Bool.false_eq_true, ↓reduceIte]
  refine wpAny_bind (wpAny_pyIter_str fun o St W st0 => ?_)
  have hlt : a < s.heap.objs.size := let ⟨o, _, _, _, ho, _⟩ := hS; Heap.lt_size ho
  refine wpAny_pure ⟨Code.quiet_builtin _ (by decide +kernel), issuperset_loop (W A.in1 hh) (fun hm => absurd (List.mem_singleton.mp hm) (Nat.ne_of_lt hlt)) (fun i v ⟨c, u, hc, e⟩ => ⟨_, u, e, hx c ?_⟩) _ 0 _ rfl (Nat.zero_le _) st0 (hS.keeps fun b o' e => Heap.get?_push_of_some _ e) fun h' tk' hm => ?_⟩
  · rw [← Array.getElem?_toList] at hc; exact List.mem_of_getElem? hc
  · exact h h' tk' fun b o' e => hm b o' (fun hb => absurd (List.mem_singleton.mp hb) (Nat.ne_of_lt (Heap.lt_size e))) (Heap.get?_push_of_some _ e)

end
end Mine

end
section
open PySem PySem.W PySem.Calls PyProof.Rows
set_option Elab.async false
set_option maxRecDepth 100000
set_option maxHeartbeats 1000000
namespace Mine
namespace F
theorem kind_isn : builtinKind "issubclass.nested" = none := by decide +kernel
theorem plain_isn : plainId "issubclass.nested" = true := by decide +kernel
theorem args_isn (a b c : Value) : argsOk "issubclass.nested" ⟨[a, b, c], []⟩ := by unfold argsOk; kernel_rfl
end F
section
variable {prog : Program} {w : World} {A : Around} {E : Value → Shared → Prop} {s : Shared} {a : Addr} {S : Str → Bool}
theorem isn_str {k : Value} {dep : Int} {tk : Tok} {Q : Fin → Shared → Prop} (hk : k = .int dep tk) (hq : Q (.done (.ret (.bool true))) s) :
    wpAny (model prog w) A (Builtin.«issubclass.nested» ⟨[.type "str", .type "str", k], []⟩) Q E s := by
  subst hk
  have hself : isSubtype (.type "str") (.type "str") = pure true := by rw [isSubtype_type]; kernel_rfl
  repeat (any_goals (first | assumption | (rw [if_pos rfl]) | (rw [hself]) | wp_step))
theorem call_issubclass_str {t : Addr} {Q : Value → Shared → Prop} (ht : IsTup s.heap t #[.type "str", .type "bytes"]) (h : Q (.bool true) s) :
    wpAny (model prog w) A (call (.builtin "issubclass") [.type "str", .ref t]) Q E s := by
  have hT : s.TypeIs (.ref t) "tuple" := let ⟨o, ho, hc, _⟩ := ht; ⟨o, ho, hc⟩
  have hsub : isSubtype (.type "tuple") (.type "tuple") = pure true := by rw [isSubtype_type]; kernel_rfl
  refine call_issubclass (S := fun _ R s' => s' = s ∧ R (.ok (.ret (.bool true))) s) (fun prog w A R s' hs => issubclass_outer ?_) ⟨rfl, h⟩
  obtain ⟨rfl, hs⟩ := hs
  obtain ⟨o, ho, hc, n, hd⟩ := ht
  wp_walk using wpAny_load ho
  rw [hd]
  refine wpAny_pure ?_
  simp only [Option.getD_some]
  rw [← Array.forIn_toList]
  simp only [List.forIn_cons]
  refine wpAny_bind (wpAny_bind (wpAny_bind ?_))
  refine call_function_entry F.kind_isn F.plain_isn PySem.F.entry_issubclass_nested (F.args_isn _ _ _) (isn_str (k := rawInt (0 + 1)) rfl ⟨_, rfl, ?_⟩)
  wp_walk
  exact hs

namespace F
theorem mro_fs : mroOf (.type "frozenset") = pure [.type "frozenset", .type "object"] := by rw [mroOf_type]; kernel_rfl
theorem lookup_fs_new : typeLookup (.type "frozenset") "__new__" = pure (some (.builtin "frozenset.__new__")) := by rw [typeLookup_type, builtinLookup_eq_fast]; kernel_rfl
theorem slot_fs_init : Slot "frozenset" "__init__" "object.__init__" :=
  .of (owner := "object") (n := "__init__") (by rw [typeLookup_type, builtinLookup_eq_fast]; kernel_rfl) (by decide +kernel) (by decide +kernel) (by decide +kernel)
    (by first | exact .inl (by decide +kernel) | exact .inr (by decide +kernel)) (by rw [isSubtype_type]; kernel_rfl)
theorem called_fs : TypeCalled "frozenset" "frozenset.__new__" "object.__init__" :=
  ⟨by decide +kernel, by decide +kernel, ⟨_, _, mro_fs⟩, madeBy_type mro_fs lookup_fs_new (by decide +kernel), by decide +kernel, by rw [isSubtype_type]; kernel_rfl, slot_fs_init⟩
theorem typeCall_fs_0 : checkTypeCall "frozenset" ⟨[], []⟩ = pure () := by kernel_rfl
theorem newCall_fs_0 : checkBuiltinCall "frozenset.__new__" ⟨[.type "frozenset"], []⟩ = pure () := by kernel_rfl
theorem entry_fs_new : entryFor table "frozenset.__new__" = some Builtin.«frozenset.__new__» := entryFor_of_tree (by kernel_rfl)
theorem args_oi_1 (a : Value) : argsOk "object.__init__" ⟨[a], []⟩ := by unfold argsOk; kernel_rfl
theorem sub_fs_self : isSubtype (.type "frozenset") (.type "frozenset") = pure true := by rw [isSubtype_type]; kernel_rfl
theorem init_fs_lookup : typeLookup (.type "frozenset") "__init__" = pure (some (.builtin "object.__init__")) := slot_fs_init.lookup
end F
theorem meets_fs_new : Meets (Builtin.«frozenset.__new__» ⟨[.type "frozenset"], []⟩) (fun _ R s => ∀ led : Bool, R (.ok (.ret (.ref s.heap.objs.size))) { s with heap := s.heap.push { cls := .type "frozenset", dict := none, data := .set #[] 0 (.fresh 0 0 led) } }) :=
  .of_wp fun prog w A R s h => by
    have hsub := F.sub_fs_self
    have hinit := F.init_fs_lookup
    obtain ⟨hp, g, d, tk, os⟩ := s
    unfold Builtin.«frozenset.__new__» Builtin.Frozenset.newClass
    wp_walk
    refine wpAny_askSetting (wpAny_pure ?_)
    dsimp only
    simp only [newObj]
    refine wpAny_bind (wpAny_alloc (wpAny_pure ?_))
    exact wpAny_pure ⟨_, rfl, h _⟩

theorem call_fs_0 {Q : Value → Shared → Prop} (h : ∀ h' : Heap, Ext s.heap h' → FSet prog w h' s.heap.objs.size (fun _ => false) → h'.objs.size = s.heap.objs.size + 1 →
      (∃ o, h' = s.heap.push o) → Q (.ref s.heap.objs.size) { s with heap := h' }) :
    wpAny (model prog w) A (call (.type "frozenset") []) Q E s := by
  refine callType_new F.called_fs (by decide) F.typeCall_fs_0 F.newCall_fs_0 (fun obj => F.args_oi_1 obj) F.entry_fs_new meets_fs_new fun led => ?_
  refine ⟨⟨_, Heap.get?_push_size _ rfl, rfl⟩, h _ (fun b o e => Heap.get?_push_of_some _ e) ?_ (Heap.size_push ..) ⟨_, rfl⟩⟩
  refine ⟨_, #[], 0, _, Heap.get?_push_size _ rfl, rfl, rfl, rfl, fun e he => (nomatch he), fun k => ⟨fun h => (nomatch h), fun ⟨e, he, _⟩ => (nomatch he)⟩, ?_, ?_⟩
  · exact Nat.le_of_ble_eq_true rfl
  · show SetTable.fits (.fresh 0 0 led) 0 = true
    cases led <;> rfl

namespace F
theorem mro_map : mroOf (.type "map") = pure [.type "map", .type "object"] := by rw [mroOf_type]; kernel_rfl
theorem lookup_map_new : typeLookup (.type "map") "__new__" = pure (some (.builtin "map.__new__")) := by rw [typeLookup_type, builtinLookup_eq_fast]; kernel_rfl
theorem slot_map_init : Slot "map" "__init__" "object.__init__" :=
  .of (owner := "object") (n := "__init__") (by rw [typeLookup_type, builtinLookup_eq_fast]; kernel_rfl) (by decide +kernel) (by decide +kernel) (by decide +kernel)
    (by first | exact .inl (by decide +kernel) | exact .inr (by decide +kernel)) (by rw [isSubtype_type]; kernel_rfl)
theorem slot_map_next : Slot "map" "__next__" "map.__next__" :=
  .of (owner := "map") (n := "__next__") (by rw [typeLookup_type, builtinLookup_eq_fast]; kernel_rfl) (by decide +kernel) (by decide +kernel) (by decide +kernel)
    (by first | exact .inl (by decide +kernel) | exact .inr (by decide +kernel)) (by rw [isSubtype_type]; kernel_rfl)
theorem slot_map_iter : Slot "map" "__iter__" "map.__iter__" :=
  .of (owner := "map") (n := "__iter__") (by rw [typeLookup_type, builtinLookup_eq_fast]; kernel_rfl) (by decide +kernel) (by decide +kernel) (by decide +kernel)
    (by first | exact .inl (by decide +kernel) | exact .inr (by decide +kernel)) (by rw [isSubtype_type]; kernel_rfl)
theorem called_map : TypeCalled "map" "map.__new__" "object.__init__" :=
  ⟨by decide +kernel, by decide +kernel, ⟨_, _, mro_map⟩, madeBy_type mro_map lookup_map_new (by decide +kernel), by decide +kernel, by rw [isSubtype_type]; kernel_rfl, slot_map_init⟩
theorem typeCall_map_2 (a b : Value) : checkTypeCall "map" ⟨[a, b], []⟩ = pure () := by kernel_rfl
theorem newCall_map_2 (a b : Value) : checkBuiltinCall "map.__new__" ⟨[.type "map", a, b], []⟩ = pure () := by kernel_rfl
theorem entry_map_new : entryFor table "map.__new__" = some Builtin.«map.__new__» := entryFor_of_tree (by kernel_rfl)
theorem entry_map_next : entryFor table "map.__next__" = some Builtin.«map.__next__» := entryFor_of_tree (by kernel_rfl)
theorem entry_map_iter : entryFor table "map.__iter__" = some Builtin.«dict_keyiterator.__iter__» :=
  entryFor_alias (id' := "dict_keyiterator.__iter__") (by kernel_rfl) rfl (by decide +kernel) (by kernel_rfl)
theorem args_map_next (a : Value) : argsOk "map.__next__" ⟨[a], []⟩ := by unfold argsOk; kernel_rfl
theorem args_map_iter (a : Value) : argsOk "map.__iter__" ⟨[a], []⟩ := by unfold argsOk; kernel_rfl
theorem args_oi_3 (a b c : Value) : argsOk "object.__init__" ⟨[a, b, c], []⟩ := by unfold argsOk; kernel_rfl
theorem sub_map_self : isSubtype (.type "map") (.type "map") = pure true := by rw [isSubtype_type]; kernel_rfl
theorem map_no_len : typeLookup (.type "map") "__len__" = pure none := by rw [typeLookup_type, builtinLookup_eq_fast]; kernel_rfl
theorem map_no_hint : typeLookup (.type "map") "__length_hint__" = pure none := by rw [typeLookup_type, builtinLookup_eq_fast]; kernel_rfl
end F
noncomputable def mapHeap (h : Heap) (l : Addr) (f : Value) : Heap :=
  ((h.push { cls := .type "list_iterator", data := .fields #[.ref l, .int 0 0] }).push { cls := .type "tuple", data := .seq #[.ref h.objs.size] }).push { cls := .type "map", data := .fields #[.ref (h.objs.size + 1), f] }
theorem meets_map_new (l : Addr) (f : Value) (items : Array Value) : Meets (Builtin.«map.__new__» ⟨[.type "map", f, .ref l], []⟩)
    (fun _ R s => s.heap.IsList l items ∧ R (.ok (.ret (.ref (s.heap.objs.size + 2)))) { s with heap := mapHeap s.heap l f }) :=
  .of_wp fun prog w A R s h => by
    have hsub := F.sub_map_self
    obtain ⟨hp, g, d, tk, os⟩ := s
    obtain ⟨hl, h⟩ := h
    unfold Builtin.«map.__new__» Builtin.SmallTypes.newClass Builtin.SmallTypes.refuseKeywords Builtin.SmallTypes.iterAll
    wp_walk using wpAny_pyIter_list hl
    refine ⟨_, rfl, ?_⟩
    simpa [mapHeap, Heap.size_push] using h
end
end Mine

end
section
open PySem PySem.W PySem.Calls PyProof.Rows
set_option Elab.async false
set_option maxRecDepth 100000
set_option maxHeartbeats 1000000
namespace Mine
section
variable {prog : Program} {w : World} {A : Around} {E : Value → Shared → Prop} {s : Shared}
noncomputable def IsMap (h : Heap) (M T I : Addr) (f : Value) : Prop :=
  h.get? M = some { cls := .type "map", data := .fields #[.ref T, f] } ∧ h.get? T = some { cls := .type "tuple", data := .seq #[.ref I] }
theorem IsMap.typeIs {M T I : Addr} {f : Value} (x : IsMap s.heap M T I f) : s.TypeIs (.ref M) "map" := ⟨_, x.1, rfl⟩
theorem IsMap.keeps {h h' : Heap} {M T I : Addr} {f : Value} (x : IsMap h M T I f) (k : ∀ b ∈ [M, T], ∀ o, h.get? b = some o → h'.get? b = some o) : IsMap h' M T I f :=
  ⟨k _ (by simp) _ x.1, k _ (by simp) _ x.2⟩

theorem map_next_item {M T I l : Addr} {f v : Value} {items : Array Value} {i : Nat} {Q : Option Value → Shared → Prop} (hm : IsMap s.heap M T I f) (hI : s.heap.IsListIter I l i) (hl : s.heap.IsList l items) (hv : items[i]? = some v)
    (hT : T ≠ I) (hM : M ≠ I)
    (hc : ∀ h', h'.IsListIter I l (i + 1) → Heap.SameBut I s.heap h' → wpAny (model prog w) A.in1 (call f [v]) (fun r s' => Q (some r) s') (fun _ _ => False) { s with heap := h' }) :
    wpAny (model prog w) A (pyNext (.ref M)) Q E s := by
  unfold pyNext
  refine wpAny_bind (wpAny_attempt (wpAny_callSpecial?_slot (name := Str.ofString "__next__") hm.typeIs F.slot_map_next
    (wpAny_call_entry F.slot_map_next hm.typeIs F.entry_map_next ?_ (F.args_map_next _))))
  unfold Builtin.«map.__next__»
  obtain ⟨h1, h2⟩ := hm
  show wpAny _ _ (field (.ref M) 0 >>= _) _ _ s
  refine wpAny_bind (wpAny_field h1 rfl (x := .ref T) rfl ?_)
  refine wpAny_bind (m := seqItems? (.ref T)) ?_
  unfold seqItems?
  refine wpAny_bind (wpAny_load h2 (wpAny_pure ?_))
  dsimp only
  rw [← Array.forIn_toList]
  simp only [List.forIn_cons, List.forIn_nil]
  refine wpAny_bind (wpAny_bind (wpAny_bind (wpAny_holding (wpAny_nextOf_list_item hI hl hv fun h' hit' hs' => ?_))))
  refine wpAny_pure (wpAny_pure ?_)
  have h1' : h'.get? M = some { cls := .type "map", data := .fields #[.ref T, f] } := (hs'.2 M hM).trans h1
  refine wpAny_bind (wpAny_field (s := { s with heap := h' }) h1' rfl (x := f) rfl ?_)
  refine wpAny_bind (wpAny_holding (wpAny_mono (hc h' hit' hs') (fun r s' hq => ?_) fun _ _ h => h.elim))
  refine wpAny_bind (wpAny_letGo ?_)
  exact wpAny_pure ⟨_, rfl, wpAny_pure hq⟩

theorem map_next_end {M T I l : Addr} {f : Value} {items : Array Value} {i : Nat} {Q : Option Value → Shared → Prop} (hh : A.handled = none) (hm : IsMap s.heap M T I f) (hI : s.heap.IsListIter I l i) (hl : s.heap.IsList l items) (hv : items[i]? = none)
    (hc : ∀ h', Heap.ExtBut I s.heap h' → Q none { s with heap := h' }) :
    wpAny (model prog w) A (pyNext (.ref M)) Q E s := by
  unfold pyNext
  refine wpAny_bind (wpAny_attempt (wpAny_callSpecial?_slot (name := Str.ofString "__next__") hm.typeIs F.slot_map_next
    (wpAny_call_entry F.slot_map_next hm.typeIs F.entry_map_next ?_ (F.args_map_next _))))
  unfold Builtin.«map.__next__»
  obtain ⟨h1, h2⟩ := hm
  show wpAny _ _ (field (.ref M) 0 >>= _) _ _ s
  refine wpAny_bind (wpAny_field h1 rfl (x := .ref T) rfl ?_)
  refine wpAny_bind (m := seqItems? (.ref T)) ?_
  unfold seqItems?
  refine wpAny_bind (wpAny_load h2 (wpAny_pure ?_))
  dsimp only
  rw [← Array.forIn_toList]
  simp only [List.forIn_cons, List.forIn_nil]
  refine wpAny_bind (wpAny_bind (wpAny_bind (wpAny_holding (wpAny_nextOf_list_end (A := A.in1) hh hI hl hv fun h' e he hx => ?_))))
  obtain ⟨o, ho, hoc⟩ := hx
  refine wpAny_bind (wpAny_isInstance (T := "StopIteration") (b := true) (s := { s with heap := h' }) ⟨o, ho, hoc⟩ isSubtype_stop ?_)
  exact wpAny_pure (hc _ he)
end
end Mine

end
section
open PySem PySem.W PySem.Calls PyProof.Rows
set_option Elab.async false
set_option maxRecDepth 100000
set_option maxHeartbeats 1000000
namespace Mine
section
variable {prog : Program} {w : World} {A : Around} {E : Value → Shared → Prop} {s : Shared}

theorem walks_map {B : Heap} {N : Nat} (hh : A.handled = none) (hB : ∀ b o, B.get? b = some o → b < N) {M T I l : Addr} {f : Value} {items : Array Value} (hMI : M ≠ I) (hTI : T ≠ I) (hlI : l ≠ I) (hBI : B.get? I = none)
    (hM : M < N) (hT : T < N) (hI : I < N) (hl : l < N)
    (hcall : ∀ (s' : Shared) (v : Value) (Q : Value → Shared → Prop), (∃ i : Nat, items[i]? = some v) → Ext B s'.heap → (∀ h' tk, Ext s'.heap h' → Q v { s' with heap := h', toks := tk }) →
      wpAny (model prog w) A.in1 (call f [v]) Q (fun _ _ => False) s') :
    Walks prog w A M (List.range N) [I] items.size (fun i v => items[i]? = some v) (fun i h => IsMap h M T I f ∧ h.IsListIter I l i ∧ h.IsList l items ∧ Ext B h) where
  sub := fun b hb => by rw [List.mem_singleton.mp hb]; exact List.mem_range.mpr hI
  frame := fun i h h' st hk => by
    obtain ⟨a, b, c, d⟩ := st
    exact ⟨a.keeps fun x hx o e => hk x (by rcases List.mem_cons.mp hx with rfl | hx; exact List.mem_range.mpr hM; rw [List.mem_singleton.mp hx]; exact List.mem_range.mpr hT) o e,
      b.at fun o e => hk I (List.mem_range.mpr hI) o e, c.at fun o e => hk l (List.mem_range.mpr hl) o e, fun x o e => hk x (List.mem_range.mpr (hB x o e)) o (d x o e)⟩
  item := fun i s Q E hi st hQ => by
    obtain ⟨a, b, c, d⟩ := st
    have hv : items[i]? = some items[i] := by simp [hi]
    refine map_next_item a b c hv hTI hMI fun h' hit' hs' => ?_
    have d' : Ext B h' := fun x o e => (hs'.2 x (fun q => by rw [q, hBI] at e; cases e)).trans (d x o e)
    refine hcall { s with heap := h' } items[i] _ ⟨i, hv⟩ d' fun h'' tk k => ?_
    refine hQ _ h'' tk hv ⟨(a.keeps fun x hx o e => (hs'.2 x (fun q => by
        rcases List.mem_cons.mp hx with r | hx
        · exact hMI (r.symm.trans q)
        · exact hTI ((List.mem_singleton.mp hx).symm.trans q))).trans e).keeps fun x _ o e => k x o e, hit'.at fun o e => k _ _ e,
      (c.at fun o e => (hs'.2 l hlI).trans e).at fun o e => k _ _ e, fun x o e => k _ _ (d' x o e)⟩ fun x o hx e => k _ _ ((hs'.2 x fun q => hx (by rw [q]; exact List.mem_singleton.mpr rfl)).trans e)
  done := fun s Q E st hQ => by
    obtain ⟨a, b, c, d⟩ := st
    refine map_next_end hh a b c (by simp) fun h' he => ?_
    have := hQ h' s.toks fun x o hx e => he x o (fun q => hx (by rw [q]; exact List.mem_singleton.mpr rfl)) e
    exact this
  self := fun i s Q E st hQ => by
    obtain ⟨a, b, c, d⟩ := st
    refine wpAny_pyIter_slot a.typeIs F.slot_map_iter (wpAny_call_entry F.slot_map_iter a.typeIs F.entry_map_iter ?_ (F.args_map_iter _))
    show wpAny _ _ (ret (.ref M)) _ _ s
    exact wpAny_pure ⟨_, rfl, "map", _, a.typeIs, F.slot_map_next.lookup, hQ⟩
end

section
variable {prog : Program} {w : World} {A : Around} {E : Value → Shared → Prop} {s : Shared} {I : Addr} {fp wr : List Addr} {G : Array GenState → Array GenState → Prop} {n : Nat} {P : Nat → Value → Prop} {St : Nat → Shared → Prop}

theorem collect_map {Q : List Value → Shared → Prop} (W : WalksS prog w A.in1 I fp wr G n P St) (hT : ∀ i s, St i s → s.TypeIs (.ref I) "map") (hst : St 0 s) (hfp : ∀ b ∈ fp, b < s.heap.objs.size) (hI : I ∈ fp)
    (hQ : ∀ s' acc, Moved wr G s s' → ItemsOf P acc n → Q acc.toList s') (hn : n ≤ sizeLine) : wpAny (model prog w) A (collect (.ref I)) Q E s := by
  have hSf : s.heap.objs.size ∉ fp := fun hm => Nat.lt_irrefl _ (hfp _ hm)
  have hSI : s.heap.objs.size ≠ I := fun e => hSf (e ▸ hI)
  unfold collect
  refine wpAny_bind (wpAny_runValue (codeAny_builtin PySem.F.entry_proto_collect ?_))
  rw [Around.under_plainId PySem.F.plain_proto_collect _]
  show wpAny _ A.in1 (newList [] >>= fun l => again (.builtin "list.__iadd__" ⟨[l, .ref I], []⟩)) _ _ s
  refine wpAny_bind (wpAny_newObj_type ?_)
  refine wpAny_pure ⟨plainId_quiet PySem.F.plain_list_iadd _, codeAny_builtin PySem.F.entry_list_iadd ?_⟩
  rw [Around.under_plainId PySem.F.plain_list_iadd _]
  have hst₁ := W.frame 0 s (s.heap.push { cls := .type "list", data := .seq ([] : List Value).toArray }) s.toks hst (Nat.le_refl _) fun b _ o e => Heap.get?_push_of_some _ e
  show wpAny _ A.in1 (Builtin.List.listExtendWith (.ref s.heap.objs.size) (.ref I) (.ref s.heap.objs.size)) _ _ _
  unfold Builtin.List.listExtendWith
  refine wpAny_bind (wpAny_typeOf (hT 0 _ hst₁) ?_)
  have h1 : Builtin.List.listSameRef (.ref s.heap.objs.size) (.ref I) = false := by simp [Builtin.List.listSameRef, hSI]
  have h2 : (Value.type "map" == Value.type "list") = false := by decide
  have h3 : (Value.type "map" == Value.type "tuple") = false := by decide
  simp only [h1, h2, h3, Bool.or_false, Bool.false_eq_true, if_false]
  refine wpAny_bind (W.self 0 _ _ _ hst₁ ?_)
  refine wpAny_bind (wpAny_holding ?_)
  unfold Builtin.List.listLengthHint
  refine wpAny_bind (wpAny_specialOf (hT 0 _ hst₁) F.map_no_len ?_)
  show wpAny _ A.in1 (specialOf (Value.ref I) (Str.ofString "__length_hint__") >>= _) _ _ _
  refine wpAny_bind (wpAny_specialOf (hT 0 _ hst₁) F.map_no_hint ?_)
  refine wpAny_pure ?_
  show wpAny _ A.in1 (rule "list.extend.makes-room" >>= fun _ => Builtin.List.listTouch (.ref s.heap.objs.size) >>= fun _ =>
    again (.builtin "list.extend.loop" ⟨[.ref s.heap.objs.size, .ref I, .ref s.heap.objs.size], []⟩)) _ _ _
  have new : (s.heap.push { cls := .type "list", data := .seq ([] : List Value).toArray }).get? s.heap.objs.size = some { cls := .type "list", data := .seq ([] : List Value).toArray } := Heap.get?_push_size _ rfl
  refine wpAny_bind (wpAny_rule (wpAny_bind ?_))
  show wpAny _ A.in1 (updateSeq s.heap.objs.size (·.push .none) >>= fun _ => updateSeq s.heap.objs.size (·.pop)) _ _ _
  refine wpAny_bind (wpAny_updateSeq new rfl ?_)
  have new' := Heap.get?_update_self (Obj.mapSeq (·.push Value.none)) new rfl
  refine wpAny_updateSeq new' rfl ?_
  have new'' := Heap.get?_update_self (Obj.mapSeq (·.pop)) new' rfl
  have keeps : ∀ b o, b ≠ s.heap.objs.size → (s.heap.push { cls := .type "list", data := .seq ([] : List Value).toArray }).get? b = some o →
      (((s.heap.push { cls := .type "list", data := .seq ([] : List Value).toArray }).update s.heap.objs.size (Obj.mapSeq (·.push Value.none))).update s.heap.objs.size (Obj.mapSeq (·.pop))).get? b = some o := by
    intro b o hb e
    rw [Heap.get?_update_other _ _ (Ne.symm hb), Heap.get?_update_other _ _ (Ne.symm hb)]
    exact e
  have st' := W.frame 0 _ _ s.toks hst₁ (Nat.le_refl _) fun b hb o e => keeps b o (fun h => hSf (h ▸ hb)) e
  refine wpAny_pure ⟨plainId_quiet PySem.F.plain_extend_loop _, codeAny_extend_loopS W hn _ hSf _ n 0 _ _ _ rfl (Nat.zero_le _) st' new'' (ItemsOf.nil P) fun s' acc' c' hm hS' hacc => ?_⟩
  show wpAny _ A (load s.heap.objs.size >>= _) _ _ s'
  refine wpAny_bind (wpAny_load hS' (wpAny_pure (hQ s' acc' ?_ hacc)))
  have m0 : Moved (s.heap.objs.size :: wr) G { s with heap := s.heap.push { cls := .type "list", data := .seq ([] : List Value).toArray } } s' :=
    Moved.trans W.gtrans ((Moved.refl W.grefl).then_heap (Nat.le_refl _) fun b o hb e => keeps b o (fun h => hb (h ▸ List.mem_cons_self)) e) hm
  exact Moved.drop_new (o := { cls := .type "list", data := .seq ([] : List Value).toArray }) (tk := s.toks) m0 (Nat.le_refl _)

theorem call_tuple_map {Q : Value → Shared → Prop} (W : WalksS prog w A.in1.in1.in1 I fp wr G n P St) (hT : ∀ i s, St i s → s.TypeIs (.ref I) "map") (hst : St 0 s) (hfp : ∀ b ∈ fp, b < s.heap.objs.size) (hI : I ∈ fp)
    (hQ : ∀ s' acc, Moved wr G s s' → ItemsOf P acc n → Q (.ref s'.heap.objs.size) { s' with heap := s'.heap.push { cls := .type "tuple", data := .seq acc } }) (hsz : n ≤ sizeLine) :
    wpAny (model prog w) A (call (.type "tuple") [.ref I]) Q E s := by
  refine callType_codes (Q₁ := fun obj s₁ => s₁.TypeIs obj "tuple" ∧ Q obj s₁) PySem.F.called_tuple (PySem.F.typeCall_tuple_1 _) PySem.F.entry_object_init ?_ fun obj s₁ h₁ => 
    ⟨h₁.1, PySem.F.args_object_init_2 obj _, object_init_meets PySem.F.called_tuple.init.lookup PySem.F.called_tuple.made (by decide) prog w A.in1 _ s₁ ⟨h₁.1, rfl, h₁.2⟩⟩
  refine codeAny_of_tree ?_
  show wpAny _ A.in1.in1 (do checkBuiltinCall "tuple.__new__" ⟨[.type "tuple", .ref I], []⟩; again (.builtin "tuple.__new__" ⟨[.type "tuple", .ref I], []⟩)) _ _ s
  refine wpAny_bind (wpAny_of_eq (PySem.F.newCall_tuple_1 _) (wpAny_pure ⟨plainId_quiet PySem.F.plain_tuple_new _, codeAny_builtin PySem.F.entry_tuple_new ?_⟩))
  rw [Around.under_plainId PySem.F.plain_tuple_new _]
  have hsub := sub_tuple_self
  have hinit := init_tuple_lookup
  have hmh := madeHere_tuple
  have hTI := hT 0 s hst
  wp_walk using wpAny_typeOf hTI, collect_map (hn := hsz) W hT hst hfp hI
  intro s' acc hm hacc
  refine wpAny_bind (wpAny_pure ?_)
  have e : acc.toList.toArray = acc := by simp
  rw [e]
  show wpAny _ _ (Builtin.Tuple.tupleExact acc >>= fun v => ret v) _ _ _
  unfold Builtin.Tuple.tupleExact
  refine wpAny_bind (wpAny_newObj_type ?_ (by show acc.size ≤ sizeLine; rw [hacc.1]; exact hsz))
  exact wpAny_pure ⟨⟨_, Heap.get?_push_size _ rfl, rfl⟩, hQ s' acc hm hacc⟩
end

section
variable {prog : Program} {w : World} {A : Around} {E : Value → Shared → Prop} {s : Shared}
theorem tuple_of_map {l : Addr} {f : Value} {items : Array Value} {Q : Value → Shared → Prop} (hh : A.handled = none) (hl : s.heap.IsList l items) (hn : items.size ≤ sizeLine)
    (hcall : ∀ (s' : Shared) (v : Value) (Q : Value → Shared → Prop), (∃ i : Nat, items[i]? = some v) → Ext s.heap s'.heap → (∀ h' tk, Ext s'.heap h' → Q v { s' with heap := h', toks := tk }) →
      wpAny (model prog w) A.in1.in1.in1.in1 (call f [v]) Q (fun _ _ => False) s')
    (h : ∀ t h' tk, Ext s.heap h' → s.heap.objs.size ≤ t → h'.get? t = some { cls := .type "tuple", data := .seq items } → Q (.ref t) { s with heap := h', toks := tk }) :
    wpAny (model prog w) A (call (.type "map") [f, .ref l]) (fun v s₁ => wpAny (model prog w) A (call (.type "tuple") [v]) Q E s₁) E s := by
  obtain ⟨hp, g, d, tk, os⟩ := s
  refine callType_new F.called_map (by decide) (F.typeCall_map_2 _ _) (F.newCall_map_2 _ _) (fun obj => F.args_oi_3 obj _ _) F.entry_map_new (meets_map_new l f items) ⟨hl, ?_⟩
  have z1 : (hp.push { cls := .type "list_iterator", data := .fields #[.ref l, .int 0 0] }).objs.size = hp.objs.size + 1 := Heap.size_push ..
  have z2 : ((hp.push { cls := .type "list_iterator", data := .fields #[.ref l, .int 0 0] }).push { cls := .type "tuple", data := .seq #[.ref hp.objs.size] }).objs.size = hp.objs.size + 2 := by rw [Heap.size_push, z1]
  have gI : (mapHeap hp l f).get? hp.objs.size = some { cls := .type "list_iterator", data := .fields #[.ref l, .int 0 0] } := Heap.get?_push_of_some _ (Heap.get?_push_of_some _ (Heap.get?_push_size _ rfl))
  have gT : (mapHeap hp l f).get? (hp.objs.size + 1) = some { cls := .type "tuple", data := .seq #[.ref hp.objs.size] } := by
    have := Heap.get?_push_size (hp.push { cls := .type "list_iterator", data := .fields #[.ref l, .int 0 0] }) (o := { cls := .type "tuple", data := .seq #[.ref hp.objs.size] }) rfl
    rw [z1] at this; exact Heap.get?_push_of_some _ this
  have gM : (mapHeap hp l f).get? (hp.objs.size + 2) = some { cls := .type "map", data := .fields #[.ref (hp.objs.size + 1), f] } := by
    have := Heap.get?_push_size ((hp.push { cls := .type "list_iterator", data := .fields #[.ref l, .int 0 0] }).push { cls := .type "tuple", data := .seq #[.ref hp.objs.size] }) (o := { cls := .type "map", data := .fields #[.ref (hp.objs.size + 1), f] }) rfl
    rw [z2] at this; exact this
  have k0 : Ext hp (mapHeap hp l f) := fun b o e => Heap.get?_push_of_some _ (Heap.get?_push_of_some _ (Heap.get?_push_of_some _ e))
  have zM : (mapHeap hp l f).objs.size = hp.objs.size + 3 := by unfold mapHeap; rw [Heap.size_push, z2]
  have hlt : l < hp.objs.size := let ⟨o, ho, _⟩ := hl; Heap.lt_size ho
  refine ⟨⟨_, gM, rfl⟩, ?_⟩
  have W := walks_map (prog := prog) (w := w) (A := A.in1.in1.in1) (B := hp) (N := hp.objs.size + 3) (M := hp.objs.size + 2) (T := hp.objs.size + 1) (I := hp.objs.size) (l := l) (f := f) (items := items) hh
    (fun b o e => Nat.lt_of_lt_of_le (Heap.lt_size e) (Nat.le_add_right _ _)) (Nat.ne_of_gt (Nat.lt_add_of_pos_right (by decide))) (Nat.ne_of_gt (Nat.lt_succ_self _)) (Nat.ne_of_lt hlt)
    (by cases q : hp.get? hp.objs.size with | none => rfl | some o => exact absurd (Heap.lt_size q) (Nat.lt_irrefl _))
    (Nat.lt_succ_self _) (Nat.lt_succ_of_lt (Nat.lt_succ_self _)) (Nat.lt_add_of_pos_right (by decide)) (Nat.lt_of_lt_of_le hlt (Nat.le_add_right _ _)) hcall
  refine call_tuple_map W.toS (fun i s st => st.1.typeIs) ⟨⟨gM, gT⟩, ⟨_, gI, rfl, rfl⟩, hl.at fun o e => k0 _ _ e, k0⟩ (fun b hb => by show b < (mapHeap hp l f).objs.size; rw [zM]; exact List.mem_range.mp hb) (List.mem_range.mpr (Nat.lt_succ_self _)) (fun s' acc hm hacc => ?_) hn
  obtain ⟨hp', g', d', tk', os'⟩ := s'
  obtain ⟨m1, m2, m3, m4, m5⟩ := hm
  dsimp only at m1 m2 m3 m4
  subst m2 m3 m4
  have ea : acc = items := by
    refine Array.ext_getElem? fun i => ?_
    by_cases hi : i < acc.size
    · rw [Array.getElem?_eq_getElem hi]
      exact (hacc.2 i _ (Array.getElem?_eq_getElem hi)).symm
    · rw [Array.getElem?_eq_none (by omega), Array.getElem?_eq_none (by rw [← hacc.1]; omega)]
  subst ea
  have k1 : Ext hp hp' := fun b o e => m1 b o (fun hb => absurd (List.mem_singleton.mp hb) (Nat.ne_of_lt (Heap.lt_size e))) (k0 _ _ e)
  have sz : hp.objs.size ≤ hp'.objs.size := by
    have := Heap.lt_size (m1 _ _ (fun hb => absurd (List.mem_singleton.mp hb) (Nat.ne_of_gt (Nat.lt_add_of_pos_right (by decide)))) gM)
    exact Nat.le_of_lt (Nat.lt_of_le_of_lt (Nat.le_add_right _ _) this)
  exact h _ _ tk' (fun b o e => Heap.get?_push_of_some _ (k1 b o e)) sz (Heap.get?_push_size _ rfl)
end
end Mine

end
section
open PySem PySem.W PySem.Calls PyProof.Rows
set_option Elab.async false
set_option maxRecDepth 100000
set_option maxHeartbeats 1000000
namespace Mine
section
variable {prog : Program} {w : World} {A : Around} {E : Value → Shared → Prop} {s : Shared} {h₀ : Heap} {L : Addr} {m : Str → Option Value} {news : List (Addr × Obj)}
theorem gives_index_from (x y : Str) (t u v : Tok) {k : Nat} {rest : List Nat} (h : Builtin.Str.occurrences x y 0 x.length 1 = k :: rest) :
    Gives (Builtin.«str.index» ⟨[.str x t, .str y u, .int 0 v], []⟩) (.int k) := by
  show Gives (match Builtin.Str.occurrences x y (fromIndex x.length 0) (min x.length x.length) 1 with | i :: _ => retInt i | [] => (do rule "str.index.not-found"; raiseError "ValueError" "substring not found")) _
  have e : fromIndex x.length 0 = 0 := rfl
  rw [Nat.min_self, e, h]
  exact .of_eq rfl
theorem index3 {x y : Str} {t u v : Tok} {k : Nat} {rest : List Nat} {Q : Value → Shared → Prop} (ho : Builtin.Str.occurrences x y 0 x.length 1 = k :: rest)
    (h : ∀ t tk, Q (.int (k : Nat) t) { s with toks := tk }) : wpAny (model prog w) A (call (.builtin "str.index") [.str x t, .str y u, .int 0 v]) Q E s :=
  call_gives PySem.F.slot_str_index (typeIs_str _ _ _) PySem.F.entry_str_index (PySem.F.args_str_index_3 _ _ _) (gives_index_from x y t u v ho) (h _ _)

theorem fs_isdisjoint_method {a : Addr} {S : Str → Bool} {pl : Sem Bool} {Q : Value × List Value → Shared → Prop} (F : Fr h₀ L s.heap m) (hS : FSet prog w h₀ a S) (h : Q (.builtin "frozenset.isdisjoint", [.ref a]) s) :
    wpAny (model prog w) A (getMethod (.ref a) "isdisjoint" pl) Q E s :=
  have hS' := hS.keeps F.keep
  getMethod_builtin hS'.typeIs Mine.F.plainAttrs_frozenset Mine.F.slot_fs_isdisjoint Mine.F.type_fs_isdisjoint hS'.noDict h
theorem fs_issuperset_method {a : Addr} {S : Str → Bool} {pl : Sem Bool} {Q : Value × List Value → Shared → Prop} (F : Fr h₀ L s.heap m) (hS : FSet prog w h₀ a S) (h : Q (.builtin "frozenset.issuperset", [.ref a]) s) :
    wpAny (model prog w) A (getMethod (.ref a) "issuperset" pl) Q E s :=
  have hS' := hS.keeps F.keep
  getMethod_builtin hS'.typeIs Mine.F.plainAttrs_frozenset Mine.F.slot_fs_issuperset Mine.F.type_fs_issuperset hS'.noDict h
theorem fs_isdisjoint {a : Addr} {x : Str} {tk : Tok} {Q : Value → Shared → Prop} (hh : A.handled = none) (F : Fr h₀ L s.heap m) (N : News h₀ L s.heap news) (hS : FSet prog w h₀ a (fun _ => false))
    (h : ∀ h' tk, Fr h₀ L h' m → News h₀ L h' news → Q (.bool true) { s with heap := h', toks := tk }) :
    wpAny (model prog w) A (call (.builtin "frozenset.isdisjoint") [.ref a, .str x tk]) Q E s :=
  call_isdisjoint hh (hS.keeps F.keep) (fun _ _ => rfl) fun h' tk k => h h' tk (F.keeps k) (N.grown k)
theorem fs_issuperset {a : Addr} {S : Str → Bool} {x : Str} {tk : Tok} {Q : Value → Shared → Prop} (hh : A.handled = none) (F : Fr h₀ L s.heap m) (N : News h₀ L s.heap news) (hS : FSet prog w h₀ a S)
    (hx : ∀ c ∈ x.cps.toList, S ⟨#[c]⟩ = true)
    (h : ∀ h' tk, Fr h₀ L h' m → News h₀ L h' news → Q (.bool true) { s with heap := h', toks := tk }) :
    wpAny (model prog w) A (call (.builtin "frozenset.issuperset") [.ref a, .str x tk]) Q E s :=
  call_issuperset hh (hS.keeps F.keep) hx fun h' tk k => h h' tk (F.keeps k) (N.grown k)
end
end Mine

end
section
open PySem PySem.W PySem.Calls PyProof.Rows
open AutoSeq1 (wpAny_loadPart')
set_option Elab.async false
set_option maxRecDepth 100000
set_option maxHeartbeats 2000000
set_option linter.unusedVariables false
namespace Mine
section
variable {prog : Program} {w : World} {A : Around} {E : Value → Shared → Prop} {s : Shared}
theorem nextOf_tuple_item {it t : Addr} {i : Nat} {items} {x : Value} {Q : Value → Shared → Prop} (hit : s.heap.IsTupleIter it t i)
    (ht : s.heap.IsTuple t items) (hx : items[i]? = some x) (hQ : ∀ h', h'.IsTupleIter it t (i + 1) → Heap.SameBut it s.heap h' → Q x { s with heap := h' }) :
    wpAny (model prog w) A (Builtin.SmallTypes.nextOf (.ref it)) Q E s := by
  obtain ⟨o, ho, hc, hd⟩ := id hit
  obtain ⟨ol, hol, _, nl, hdl⟩ := ht
  unfold Builtin.SmallTypes.nextOf
  refine wpAny_bind (wpAny_callSpecial?_slot (name := Str.ofString "__next__") hit.typeIs PySem.F.slot_tuple_iterator_next
    (wpAny_call_entry PySem.F.slot_tuple_iterator_next hit.typeIs PySem.F.entry_tuple_iterator_next ?_ (PySem.F.args_tuple_iterator_next_1 _)))
  show wpAny _ _ (field (.ref it) 0 >>= _) _ _ s
  refine wpAny_bind (wpAny_field ho hd (x := .ref t) rfl ?_)
  show wpAny _ _ (if (Value.ref t == Value.none) = true then _ else _) _ _ s
  rw [if_neg (show ¬ ((Value.ref t == Value.none) = true) from Bool.false_ne_true)]
  show wpAny _ _ (field (.ref it) 1 >>= _) _ _ s
  refine wpAny_bind (wpAny_field ho hd (x := .int i 0) rfl ?_)
  show wpAny _ _ (seqItems? (.ref t) >>= _) _ _ s
  refine wpAny_bind (wpAny_seqItems hol hdl ?_)
  simp only [Int.toNat_natCast, hx]
  refine wpAny_bind (wpAny_setField ho hd (by simp) (wpAny_pure ⟨x, rfl, wpAny_pure (hQ _ ?_ (Heap.SameBut.update ..))⟩))
  exact ⟨_, Heap.get?_update_self _ ho (Obj.isFreed_of_fields (Obj.data_mapFields hd _)), (Obj.cls_mapFields ..).trans hc, by
    rw [Obj.data_mapFields hd]; simp [rawInt]⟩
theorem nextOf_tuple_end {it t : Addr} {i : Nat} {items} {Q : Value → Shared → Prop} (hh : A.handled = none) (hit : s.heap.IsTupleIter it t i) (ht : s.heap.IsTuple t items) (hx : items[i]? = none)
    (hE : ∀ h' e, Heap.ExtBut it s.heap h' → (∃ o, h'.get? e = some o ∧ o.cls = .type "StopIteration") → E (.ref e) { s with heap := h' }) :
    wpAny (model prog w) A (Builtin.SmallTypes.nextOf (.ref it)) Q E s := by
  obtain ⟨o, ho, hc, hd⟩ := id hit
  obtain ⟨ol, hol, _, nl, hdl⟩ := ht
  unfold Builtin.SmallTypes.nextOf
  refine wpAny_bind (wpAny_callSpecial?_slot (name := Str.ofString "__next__") hit.typeIs PySem.F.slot_tuple_iterator_next
    (wpAny_call_entry PySem.F.slot_tuple_iterator_next hit.typeIs PySem.F.entry_tuple_iterator_next ?_ (PySem.F.args_tuple_iterator_next_1 _)))
  show wpAny _ _ (field (.ref it) 0 >>= _) _ _ s
  refine wpAny_bind (wpAny_field ho hd (x := .ref t) rfl ?_)
  show wpAny _ _ (if (Value.ref t == Value.none) = true then _ else _) _ _ s
  rw [if_neg (show ¬ ((Value.ref t == Value.none) = true) from Bool.false_ne_true)]
  show wpAny _ _ (field (.ref it) 1 >>= _) _ _ s
  refine wpAny_bind (wpAny_field ho hd (x := .int i 0) rfl ?_)
  show wpAny _ _ (seqItems? (.ref t) >>= _) _ _ s
  refine wpAny_bind (wpAny_seqItems hol hdl ?_)
  simp only [Int.toNat_natCast, hx]
  refine wpAny_bind (wpAny_rule (wpAny_bind (wpAny_setField ho hd (by simp) ?_)))
  show wpAny _ _ (newExc (.type "StopIteration") [] >>= _) _ _ _
  refine wpAny_bind ?_
  simp only [newExc, newTuple]
  refine wpAny_bind (wpAny_newObj_type ?_ (by size_fits))
  refine wpAny_bind (m := firstArgMember _ _) (wpAny_of_eq (a := Value.none) (by first | rfl | (simp only [firstArgMember]; rfl)) ?_)
  refine wpAny_newObj_type ?_ (by size_fits)
  simp only [raiseNew]
  refine wpAny_bind (wpAny_handled ?_)
  first | rw [show A.in1.handled = none from hh] | rw [hh]
  refine wpAny_bind (wpAny_pure (wpAny_throw ?_))
  exact hE _ _ (((Heap.SameBut.update ..).extBut.push _).push _) ⟨_, Heap.get?_push_size _ rfl, rfl⟩
end
theorem Draws_tuple {prog : Program} {w : World} {A : Around} (hh : A.handled = none) (it l : Addr) (hne : l ≠ it) (items : Array Value) :
    Draws prog w A it [it, l] items.size (fun i v => items[i]? = some v) (fun i h => h.IsTupleIter it l i ∧ h.IsTuple l items) where
  live := fun _ _ st => let ⟨o, ho, _⟩ := st.1; ⟨o, ho⟩
  frame := fun _ _ _ st hk => ⟨st.1.at fun o e => hk it (by simp) o e, st.2.at fun o e => hk l (by simp) o e⟩
  item := fun i s Q E hi st hQ => by
    refine nextOf_tuple_item st.1 st.2 (x := items[i]) (by simp [hi]) fun h' hit' hs' => ?_
    exact hQ _ h' s.toks (by simp [hi]) ⟨hit', st.2.extBut hs'.extBut hne⟩ hs'
  done := fun s Q E st hE => nextOf_tuple_end hh st.1 st.2 (by simp) hE
theorem stack_bool {M : Model} {A : Around} {E E' : Value → Shared → Prop} {s : Shared} {f : List (Code × Pos) → Bool} {Q : Bool → Shared → Prop} (h : ∀ b, Q b s) : wpAny M A stack (fun st s' => wpAny M A (pure (f st)) Q E' s') E s :=
  wpAny_stack_any fun st => wpAny_pure (h _)
theorem meets_enumerate_newT (l : Addr) (items : Array Value) (n : Nat) (dct : Option Addr) (sl : Array (Option Value)) :
    Meets (Builtin.«enumerate.__new__» ⟨[.type "enumerate", .ref l], []⟩) (fun _ R s => s.heap.get? l = some { cls := .type "tuple", dict := dct, data := .seq items n, slots := sl } ∧
      R (.ok (.ret (.ref (s.heap.push { cls := .type "tuple_iterator", data := .fields #[.ref l, .int 0 0] }).objs.size)))
        { s with heap := (s.heap.push { cls := .type "tuple_iterator", data := .fields #[.ref l, .int 0 0] }).push { cls := .type "enumerate", data := .fields #[.none, .bool false, .ref s.heap.objs.size, rawInt 0, .none, .none] } }) :=
  .of_wp fun prog w A R s h => by
    obtain ⟨hp, g, d, tk, os⟩ := s; obtain ⟨hl, h⟩ := h
    have hsub := sub_enumerate
    have hL : Heap.IsTuple (Shared.heap ⟨hp, g, d, tk, os⟩) l items := ⟨_, hl, rfl, n, rfl⟩
    wp_walk using wpAny_loadPart' hl
    refine stack_bool (f := fun st => _) fun b => ?_
    cases b
    · wp_walk using wpAny_loadPart' hl, wpAny_pyIter_tuple hL
      exact ⟨_, rfl, h⟩
    · wp_walk using wpAny_loadPart' hl, wpAny_pyIter_tuple hL
      exact ⟨_, rfl, h⟩
section
variable {prog : Program} {w : World} {A : Around} {E : Value → Shared → Prop} {s : Shared}
theorem call_enumerate_tuple {l : Addr} {items : Array Value} {Q : Value → Shared → Prop} (hL : s.heap.IsTuple l items)
    (h : ∀ h', IsEnum h' (s.heap.objs.size + 1) s.heap.objs.size 0 .none → h'.IsTupleIter s.heap.objs.size l 0 → h'.objs.size = s.heap.objs.size + 2 →
      (∀ b o, s.heap.get? b = some o → h'.get? b = some o) → Q (.ref (s.heap.objs.size + 1)) { s with heap := h' }) :
    wpAny (model prog w) A (call (.type "enumerate") [.ref l]) Q E s := by
  obtain ⟨⟨c, dct, dt, sl⟩, hl, hc, n, hd⟩ := hL
  replace hc : c = .type "tuple" := hc
  replace hd : dt = .seq items n := hd
  subst hc hd
  refine callType_new PySem.F.called_enumerate (by decide) (PySem.F.typeCall_enumerate_1 _) (PySem.F.newCall_enumerate_1 _) (fun obj => PySem.F.args_object_init_2 obj _) PySem.F.entry_enumerate_new
    (meets_enumerate_newT l items n dct sl) ⟨hl, ?_⟩
  have hz : (s.heap.push { cls := .type "tuple_iterator", data := .fields #[.ref l, .int 0 0] }).objs.size = s.heap.objs.size + 1 := Heap.size_push ..
  show _ ∧ _
  rw [hz]
  have he : IsEnum ((s.heap.push { cls := .type "tuple_iterator", data := .fields #[.ref l, .int 0 0] }).push
      { cls := .type "enumerate", data := .fields #[.none, .bool false, .ref s.heap.objs.size, rawInt 0, .none, .none] }) (s.heap.objs.size + 1) s.heap.objs.size 0 .none := by
    have := Heap.get?_push_size (s.heap.push { cls := .type "tuple_iterator", data := .fields #[.ref l, .int 0 0] })
      (o := { cls := .type "enumerate", data := .fields #[.none, .bool false, .ref s.heap.objs.size, rawInt 0, .none, .none] }) rfl
    rw [hz] at this; exact this
  refine ⟨⟨_, he, rfl⟩, h _ he ⟨_, Heap.get?_push_of_some _ (Heap.get?_push_size _ rfl), rfl, rfl⟩ (by rw [Heap.size_push, hz]) fun b o x => Heap.get?_push_of_some _ (Heap.get?_push_of_some _ x)⟩
end
section
variable {prog : Program} {w : World} {A : Around} {E : Value → Shared → Prop} {s : Shared} {env : Env} {h₀ : Heap} {target : Expr} {body orelse : List Stmt} {Q : Flow → Shared → Prop}
noncomputable def EndT (h₀ : Heap) (L : Addr) (wr : List Addr) (own : List (Addr × Obj)) (Jn Jb : (Str → Option Value) → List (Addr × Obj) → Prop) (s₁ : Shared) (f : Flow) (s₂ : Shared) : Prop :=
  ∃ h' tk m' news', s₂ = { s₁ with heap := h', toks := tk } ∧ Fr h₀ L h' m' ∧ (∀ p ∈ news', p.1 ∉ wr) ∧
    match f with | .next | .cont => News h₀ L h' (own ++ news') ∧ Jn m' news' | .brk => News h₀ L h' news' ∧ Jb m' news' | .ret _ => False
theorem forE_loop {R : Result → Shared → Prop} {I : Addr} {fp wr : List Addr} {n : Nat} {P Md : Nat → Value → Heap → Prop} {St : Nat → Heap → Prop} {m : Str → Option Value} {news : List (Addr × Obj)} (W : KTurns prog w A target I fp wr n P Md St)
    (hLf : env.locals ∉ fp) (hwr : ∀ b ∈ wr, h₀.get? b = none) (hnw : ∀ p ∈ news, p.1 ∉ wr) (hst : St 0 s.heap) (F : Fr h₀ env.locals s.heap m) (N : News h₀ env.locals s.heap news)
    (J : Nat → (Str → Option Value) → List (Addr × Obj) → Prop) (Jb : (Str → Option Value) → List (Addr × Obj) → Prop) (h0 : J 0 m news)
    (step : ∀ i v m₁ news₁ h₁ tk₁ own, i < n → P i v h₁ → J i m₁ news₁ → (∀ p ∈ news₁, p.1 ∉ wr) → (∀ p ∈ own, p.1 ∈ fp) → St (i + 1) h₁ → Fr h₀ env.locals h₁ m₁ → News h₀ env.locals h₁ (own ++ news₁) →
      wpAny (model prog w) A (assign target env v) (fun _ s₂ => wpAny (model prog w) A (execs body env) (EndT h₀ env.locals wr own (J (i + 1)) Jb { s with heap := h₁, toks := tk₁ }) (notedBy (model prog w) A env fun e s' => R (.error e) s') s₂) (notedBy (model prog w) A env fun e s' => R (.error e) s') { s with heap := h₁, toks := tk₁ })
    (done : ∀ h' tk m' news', Fr h₀ env.locals h' m' → News h₀ env.locals h' news' → J n m' news' →
      wpAny (model prog w) A (execs orelse env) (fun f s₃ => R (.ok f) s₃) (notedBy (model prog w) A env fun e s' => R (.error e) s') { s with heap := h', toks := tk })
    (hb : ∀ h' tk m' news', Fr h₀ env.locals h' m' → News h₀ env.locals h' news' → Jb m' news' → R (.ok .next) { s with heap := h', toks := tk }) :
    codeAny (model prog w) A (.forLoop target (.ref I) body orelse env) R s := by
  have hLw : env.locals ∉ wr := fun h => hLf (W.sub _ h)
  have old : ∀ b o, h₀.get? b = some o → b ∉ wr := fun b o e hb => by rw [hwr b hb] at e; cases e
  refine codeAny_forLoop_any
    (fun k s' => ∃ h' tk m' news' i, s' = { s with heap := h', toks := tk } ∧ St i h' ∧ Fr h₀ env.locals h' m' ∧ News h₀ env.locals h' news' ∧ (∀ p ∈ news', p.1 ∉ wr) ∧ J i m' news' ∧ i ≤ n ∧ k = n + 1 - i) ?_ (n + 1)
    ⟨s.heap, s.toks, m, news, 0, rfl, hst, F, N, hnw, h0, Nat.zero_le _, rfl⟩
  rintro k s' ⟨h', tk, m', news', i, rfl, hst', F', N', hnw', hJ, hi, rfl⟩
  have next : ∀ h₁ : Heap, (∀ b o, b ∉ wr → h'.get? b = some o → h₁.get? b = some o) → Fr h₀ env.locals h₁ m' ∧ News h₀ env.locals h₁ news' := fun h₁ hk₁ =>
    ⟨⟨F'.ns.at' fun o e => hk₁ _ o hLw e, fun b o e => hk₁ b o (old b o e) (F'.keep b o e), F'.above⟩, fun p hp => ⟨hk₁ _ _ (hnw' p hp) (N' p hp).1, (N' p hp).2⟩⟩
  by_cases hlt : i < n
  · refine W.item i _ _ _ hlt hst' fun v h₁ tk₁ hMd hk₁ => ?_
    refine W.go i v _ _ _ hMd fun h₂ hP hst₂ hk₂ => ?_
    obtain ⟨F₂, N₂⟩ := next h₂ fun b o hb x => hk₂ b o hb (hk₁ b o hb x)
    have Nown : News h₀ env.locals h₂ (PyProof.Rows.ownOf h₀ fp h₂) := news_ownOf hLf
    refine wpAny_mono (step i v m' news' h₂ tk₁ (PyProof.Rows.ownOf h₀ fp h₂) hlt hP hJ hnw' ownOf_sub hst₂ F₂ (Nown.append N₂)) (fun _ s₂ h₂' => wpAny_mono h₂' (fun f s₃ h₃ => ?_) fun _ _ e => e) fun _ _ e => e
    obtain ⟨h₃', tk₃, m₂, news₂, rfl, F₃, ha₃, hJ₃⟩ := h₃
    have again : News h₀ env.locals h₃' (PyProof.Rows.ownOf h₀ fp h₂ ++ news₂) → J (i + 1) m₂ news₂ → ∃ k', k' < n + 1 - i ∧ ∃ h' tk m' news' j, ({ s with heap := h₃', toks := tk₃ } : Shared) = { s with heap := h', toks := tk } ∧ St j h' ∧ Fr h₀ env.locals h' m' ∧ News h₀ env.locals h' news' ∧ (∀ p ∈ news', p.1 ∉ wr) ∧ J j m' news' ∧ j ≤ n ∧ k' = n + 1 - j := fun N₃ hJ₃ => by
      refine ⟨n + 1 - (i + 1), by omega, h₃', tk₃, m₂, news₂, i + 1, rfl, ?_, F₃, N₃.right, ha₃, hJ₃, hlt, rfl⟩
      refine W.frame _ _ _ hst₂ fun b hb o e => ?_
      cases hn : h₀.get? b with
      | some o₀ =>
        have : o₀ = o := by have q := F₂.keep b o₀ hn; rw [e] at q; exact (Option.some.inj q).symm
        exact this ▸ F₃.keep b o₀ hn
      | none => exact (N₃ _ (List.mem_append_left _ (mem_ownOf hb hn e))).1
    cases f with
    | ret v => exact hJ₃.elim
    | brk => exact hb _ _ _ _ F₃ hJ₃.1 hJ₃.2
    | cont => exact again hJ₃.1 hJ₃.2
    | next => exact again hJ₃.1 hJ₃.2
  · have hin : i = n := by omega
    subst hin
    refine W.done _ _ _ hst' fun h₁ tk₁ hk₁ => ?_
    obtain ⟨F₁, N₁⟩ := next h₁ hk₁
    exact done h₁ tk₁ m' news' F₁ N₁ hJ
noncomputable def LoopE (prog : Program) (w : World) (A : Around) (h₀ : Heap) (env : Env) (target : Expr) (body orelse : List Stmt) (Q : Flow → Shared → Prop) (E : Value → Shared → Prop) (it : Value) (s₂ : Shared) : Prop :=
  ∃ (I : Addr) (fp wr : List Addr) (n : Nat) (P Md : Nat → Value → Heap → Prop) (St : Nat → Heap → Prop) (m : Str → Option Value) (news : List (Addr × Obj)) (J : Nat → (Str → Option Value) → List (Addr × Obj) → Prop) (Jb : (Str → Option Value) → List (Addr × Obj) → Prop),
    it = .ref I ∧ KTurns prog w A target I fp wr n P Md St ∧ env.locals ∉ fp ∧ (∀ b ∈ wr, h₀.get? b = none) ∧ (∀ p ∈ news, p.1 ∉ wr) ∧ St 0 s₂.heap ∧ Fr h₀ env.locals s₂.heap m ∧ News h₀ env.locals s₂.heap news ∧ J 0 m news ∧
    (∀ i v m₁ news₁ h₁ tk₁ own, i < n → P i v h₁ → J i m₁ news₁ → (∀ p ∈ news₁, p.1 ∉ wr) → (∀ p ∈ own, p.1 ∈ fp) → St (i + 1) h₁ → Fr h₀ env.locals h₁ m₁ → News h₀ env.locals h₁ (own ++ news₁) →
      wpAny (model prog w) A (assign target env v) (fun _ s₃ => wpAny (model prog w) A (execs body env) (EndT h₀ env.locals wr own (J (i + 1)) Jb { s₂ with heap := h₁, toks := tk₁ }) E s₃) E { s₂ with heap := h₁, toks := tk₁ }) ∧
    (∀ h' tk m' news', Fr h₀ env.locals h' m' → News h₀ env.locals h' news' → J n m' news' → wpAny (model prog w) A (execs orelse env) Q E { s₂ with heap := h', toks := tk }) ∧
    ∀ h' tk m' news', Fr h₀ env.locals h' m' → News h₀ env.locals h' news' → Jb m' news' → Q .next { s₂ with heap := h', toks := tk }
theorem For_E {iter : Expr} {pos : Pos} {m : Str → Option Value} (_F : Fr h₀ env.locals s.heap m)
    (h : wpAny (model prog w) A (eval iter env) (fun xv s₁ => wpAny (model prog w) A (pyIter xv) (fun it s₂ => LoopE prog w A h₀ env target body orelse Q E it s₂) E s₁) E s)
    (hs : ∀ x, foldedSetIterable iter env x = pure x := by intro _; rfl)
    (hE : PassesOwn (model prog w) A env E := by passes_own) :
    wpAny (model prog w) A (exec (.For target iter body orelse pos) env) Q E s := by
  refine wpAny_For (wpAny_mono h (fun xv s₁ h₁ => wpAny_mono h₁ (fun it s₂ h₂ => ?_) fun _ _ e => e) fun _ _ e => e) hs
  obtain ⟨I, fp, wr, n, P, Md, St, m, news, J, Jb, rfl, W, hLf, hwr, hnw, hst, F, N, h0, step, done, hb⟩ := h₂
  exact forE_loop (R := fun r s' => match r with | .ok f => Q f s' | .error e => cameBackBy (model prog w) A env E e s') W hLf hwr hnw hst F N J Jb h0
    (fun i v m₁ news₁ h₁ tk₁ own a b c d e st F₁ N₁ => wpAny_mono (step i v m₁ news₁ h₁ tk₁ own a b c d e st F₁ N₁) (fun _ _ x => wpAny_passesOwn hE x) hE)
    (fun h' tk m' news' a b c => wpAny_passesOwn hE (done h' tk m' news' a b c)) hb
noncomputable def Stop (P : Prop) : Prop := P
theorem Stop.mk {P : Prop} (h : Stop P) : P := h
theorem Stop.on {P : Prop} (h : P) : Stop P := h
noncomputable def EndWh (h₀ : Heap) (L : Addr) (s : Shared) (J : Nat → (Str → Option Value) → List (Addr × Obj) → Prop) (n : Nat) (Q : Flow → Shared → Prop) (f : Flow) (s₃ : Shared) : Prop :=
  match f with
  | .next | .cont => ∃ h' tk m₂ news₂ n', s₃ = { s with heap := h', toks := tk } ∧ Fr h₀ L h' m₂ ∧ News h₀ L h' news₂ ∧ n' < n ∧ J n' m₂ news₂
  | .brk => Q .next s₃
  | .ret v => Q (.ret v) s₃
theorem While_E {test : Expr} {pos : Pos} {m : Str → Option Value} {news : List (Addr × Obj)} {L : Addr} (J : Nat → (Str → Option Value) → List (Addr × Obj) → Prop) {n₀ : Nat} (F : Fr h₀ L s.heap m) (N : News h₀ L s.heap news) (hJ : J n₀ m news)
    (turn : ∀ n m₁ news₁ h₁ tk₁, Fr h₀ L h₁ m₁ → News h₀ L h₁ news₁ → J n m₁ news₁ →
      wpAny (model prog w) A (isTrue test env (eval test env)) (fun b s₂ => if b = true then wpAny (model prog w) A (execs body env) (EndWh h₀ L s J n Q) E s₂ else Q .next s₂) E { s with heap := h₁, toks := tk₁ })
    (hE : PassesOwn (model prog w) A env E := by passes_own) :
    wpAny (model prog w) A (exec (.While test body [] pos) env) Q E s := by
  refine wpAny_While (codeAny_whileLoop (fun n s' => ∃ h₁ tk₁ m₁ news₁, s' = { s with heap := h₁, toks := tk₁ } ∧ Fr h₀ L h₁ m₁ ∧ News h₀ L h₁ news₁ ∧ J n m₁ news₁) ?_ n₀ ⟨s.heap, s.toks, m, news, rfl, F, N, hJ⟩)
  rintro n s' ⟨h₁, tk₁, m₁, news₁, rfl, F₁, N₁, J₁⟩
  refine wpAny_mono (turn n m₁ news₁ h₁ tk₁ F₁ N₁ J₁) (fun b s₂ h₂ => ?_) hE
  cases b with
  | false =>
    simp only [Bool.false_eq_true, if_false] at h₂ ⊢
    exact wpAny_execs_nil h₂
  | true =>
    simp only [if_true] at h₂ ⊢
    refine wpAny_mono h₂ (fun f s₃ h₃ => ?_) hE
    cases f with
    | next => obtain ⟨h', tk, m₂, news₂, n', rfl, F₂, N₂, hn, J₂⟩ := h₃; exact ⟨n', hn, h', tk, m₂, news₂, rfl, F₂, N₂, J₂⟩
    | cont => obtain ⟨h', tk, m₂, news₂, n', rfl, F₂, N₂, hn, J₂⟩ := h₃; exact ⟨n', hn, h', tk, m₂, news₂, rfl, F₂, N₂, J₂⟩
    | brk => exact h₃
    | ret v => exact h₃
end
end Mine

end
section
open PySem PySem.W PySem.Calls PyProof.Rows
set_option Elab.async false
set_option maxRecDepth 100000
set_option maxHeartbeats 2000000
set_option linter.unusedVariables false
namespace Mine
section
variable {prog : Program} {w : World} {A : Around} {E : Value → Shared → Prop} {s : Shared} {env : Env} {h₀ : Heap} {target : Expr} {body orelse : List Stmt} {Q : Flow → Shared → Prop}
noncomputable def EndW (h₀ : Heap) (L : Addr) (s₁ : Shared) (its : List (Addr × Obj)) (Jn Jb : (Str → Option Value) → List (Addr × Obj) → Prop) (f : Flow) (s₂ : Shared) : Prop :=
  ∃ h' tk m' news', s₂ = { s₁ with heap := h', toks := tk } ∧ Fr h₀ L h' m' ∧ News h₀ L h' (its ++ news') ∧ (∀ p ∈ news', ∀ q ∈ its, p.1 ≠ q.1) ∧
    match f with | .next | .cont => Jn m' news' | .brk => Jb m' news' | .ret _ => False
theorem EndW.of {L : Addr} {its : List (Addr × Obj)} {Jn Jb : (Str → Option Value) → List (Addr × Obj) → Prop} {s₁ : Shared} {h' : Heap} {tk : Nat} {m' : Str → Option Value} {all : List (Addr × Obj)} {f : Flow}
    (F : Fr h₀ L h' m') (N : News h₀ L h' all) (news' : List (Addr × Obj)) (hI : SubL its all) (sub : SubL news' all) (off : OffW its news')
    (r : match f with | .next | .cont => Jn m' news' | .brk => Jb m' news' | .ret _ => False) : EndW h₀ L s₁ its Jn Jb f { s₁ with heap := h', toks := tk } := by
  obtain ⟨h'', tk', m'', n'', e, F', N', o, r'⟩ := UnrEndW.intro (rest := fun a b => a = m' ∧ b = news') (s₁ := s₁) (tk := tk) F N news' hI sub off ⟨rfl, rfl⟩
  obtain ⟨rfl, rfl⟩ := r'
  exact ⟨h'', tk', _, _, e, F', N', o, r⟩
theorem EndW.of2 {L : Addr} {a b p : Addr × Obj} {Jn Jb : (Str → Option Value) → List (Addr × Obj) → Prop} {s₁ : Shared} {h' : Heap} {tk : Nat} {m' : Str → Option Value} {f : Flow}
    (F : Fr h₀ L h' m') (N : News h₀ L h' [a, b, p]) (h1 : p.1 ≠ a.1) (h2 : p.1 ≠ b.1)
    (r : match f with | .next | .cont => Jn m' [p] | .brk => Jb m' [p] | .ret _ => False) : EndW h₀ L s₁ [a, b] Jn Jb f { s₁ with heap := h', toks := tk } :=
  EndW.of F N [p] ⟨by simp, by simp, trivial⟩ ⟨by simp, trivial⟩ ⟨⟨.inl h1, .inl h2, trivial⟩, trivial⟩ r
theorem loop_core {I : Addr} {fp wr : List Addr} {n : Nat} {P Md : Nat → Value → Heap → Prop} {St : Nat → Heap → Prop} {ws : List (Addr × String)} {keep : List (Addr × Obj)} {m₀ : Str → Option Value} {news : List (Addr × Obj)} {hp : Heap} {tk0 : Nat}
    (W : KTurns prog w A target I fp wr n P Md St)
    (hobj : ∀ i h, St i h → ∃ its, Objs ws its ∧ ∀ p ∈ its, h.get? p.1 = some p.2)
    (hws : ∀ b ∈ ws.map (·.1), b ∈ fp ∧ h₀.get? b = none) (hwr : ∀ b ∈ wr, b ∈ ws.map (·.1))
    (hfp : ∀ b ∈ fp, h₀.get? b = none → b ∈ ws.map (·.1) ∨ ∃ o, (b, o) ∈ keep) (hL : env.locals ∉ fp) (hnw : ∀ p ∈ news, p.1 ∉ wr) (hst : St 0 hp)
    (F : Fr h₀ env.locals hp m₀) (N : News h₀ env.locals hp news) (hk : SubL keep news)
    (J : Nat → (Str → Option Value) → List (Addr × Obj) → Prop) (Jb : (Str → Option Value) → List (Addr × Obj) → Prop) (h0 : J 0 m₀ news)
    (step : ∀ i v h tk m₁ news₁, i < n → P i v h → J i m₁ news₁ → SubL keep news₁ → Fr h₀ env.locals h m₁ → AllObj ws (fun its => News h₀ env.locals h (its ++ news₁) →
      wpAny (model prog w) A (assign target env v) (fun _ s₂ => wpAny (model prog w) A (execs body env) (EndW h₀ env.locals { s with heap := h, toks := tk } its (fun m' n' => SubL keep n' ∧ J (i + 1) m' n') Jb) E s₂) E { s with heap := h, toks := tk }))
    (done : ∀ h' tk m' news', Fr h₀ env.locals h' m' → News h₀ env.locals h' news' → J n m' news' → wpAny (model prog w) A (execs orelse env) Q E { s with heap := h', toks := tk })
    (hb : ∀ h' tk m' news', Fr h₀ env.locals h' m' → News h₀ env.locals h' news' → Jb m' news' → Q .next { s with heap := h', toks := tk }) :
    LoopE prog w A h₀ env target body orelse Q E (.ref I) { s with heap := hp, toks := tk0 } := by
  let J' : Nat → (Str → Option Value) → List (Addr × Obj) → Prop := fun i m₁ news₁ => SubL keep news₁ ∧ J i m₁ news₁
  refine ⟨I, fp, wr, n, P, Md, St, m₀, news, J', Jb, rfl, W, hL, fun b hb => (hws b (hwr b hb)).2, hnw, hst, F, N, ⟨hk, h0⟩, ?_, fun h' tk m' news' F' N' hJ => done h' tk m' news' F' N' hJ.2, hb⟩
  intro i v m₁ news₁ h₁ tk₁ own hin hPi hJ hoff hown hst₁ F₁ N₁
  obtain ⟨hk₁, hJ⟩ := hJ
  obtain ⟨its, hits, hval⟩ := hobj (i + 1) h₁ hst₁
  have hmap := hits.map
  have N₂ : News h₀ env.locals h₁ (its ++ news₁) := fun p hp => by
    rcases List.mem_append.mp hp with hp | hp
    · have h1 : p.1 ∈ ws.map (·.1) := by rw [← hmap]; exact List.mem_map.mpr ⟨p, hp, rfl⟩
      exact ⟨hval p hp, fun q => hL (q ▸ (hws _ h1).1), (hws _ h1).2⟩
    · exact N₁ _ (List.mem_append_right _ hp)
  refine wpAny_mono ((step i v h₁ tk₁ m₁ news₁ hin hPi hJ hk₁ F₁).at hits N₂) (fun _ s₂ h₂ => wpAny_mono h₂ (fun f s₃ p => ?_) fun _ _ e => e) fun _ _ e => e
  obtain ⟨h', tk, m', news', e, F', N', ho, r⟩ := p
  subst e
  have hoff' : ∀ p ∈ news', p.1 ∉ wr := by
    intro p hp hI
    have h4 : p.1 ∈ its.map (·.1) := by rw [hmap]; exact hwr _ hI
    obtain ⟨q, hq, hqe⟩ := List.mem_map.mp h4
    exact ho p hp q hq hqe.symm
  have hown' : SubL keep news' → News h₀ env.locals h' (own ++ news') := by
    intro hk'
    rintro ⟨pa, po⟩ hp
    rcases List.mem_append.mp hp with hp | hp
    · have h2 : h₁.get? pa = some po := (N₁ _ (List.mem_append_left _ hp)).1
      rcases hfp pa (hown _ hp) (N₁ _ (List.mem_append_left _ hp)).2.2 with h3 | ⟨o, h3⟩
      · have h4 : pa ∈ its.map (·.1) := by rw [hmap]; exact h3
        obtain ⟨⟨qa, qo⟩, hq, hqe⟩ := List.mem_map.mp h4
        have hqe' : qa = pa := hqe
        subst hqe'
        have h5 : h₁.get? qa = some qo := hval _ hq
        have h6 : qo = po := Option.some.inj (h5.symm.trans h2)
        subst h6
        exact N' _ (List.mem_append_left _ hq)
      · have h4 : h₁.get? pa = some o := (N₁ _ (List.mem_append_right _ (hk₁.mem _ h3))).1
        have h6 : o = po := Option.some.inj (h4.symm.trans h2)
        subst h6
        exact N' _ (List.mem_append_right _ (hk'.mem _ h3))
    · exact N' _ (List.mem_append_right _ hp)
  cases f with
  | ret v => exact r.elim
  | brk => exact ⟨h', tk, m', news', rfl, F', hoff', N'.right, r⟩
  | next => exact ⟨h', tk, m', news', rfl, F', hoff', hown' r.1, r⟩
  | cont => exact ⟨h', tk, m', news', rfl, F', hoff', hown' r.1, r⟩
theorem src_enumT {elts : List Expr} {k : Nat} {pos : Pos} {l : Addr} {items : Array Value} {m₀ : Str → Option Value} {news : List (Addr × Obj)} (J : Nat → (Str → Option Value) → List (Addr × Obj) → Prop) (Jb : (Str → Option Value) → List (Addr × Obj) → Prop)
    (hh : A.handled = none) (F : Fr h₀ env.locals s.heap m₀) (N : News h₀ env.locals s.heap news) (hl : h₀.IsTuple l items) (h0 : J 0 m₀ news)
    (step : ∀ I : Addr, (∀ p ∈ news, p.1 < I) → ∀ i x t T h tk m₁ news₁, items[i]? = some x → IsTup h T #[.int (i : Nat) t, x] → J i m₁ news₁ → Fr h₀ env.locals h m₁ → AllObj [(I + 1, "enumerate"), (I, "tuple_iterator")] (fun its => News h₀ env.locals h (its ++ news₁) →
      wpAny (model prog w) A (assign (.Tuple elts k pos) env (.ref T)) (fun _ s₂ => wpAny (model prog w) A (execs body env) (EndW h₀ env.locals { s with heap := h, toks := tk } its (fun m' n' => J (i + 1) m' n') Jb) E s₂) E { s with heap := h, toks := tk }))
    (done : ∀ h' tk m' news', Fr h₀ env.locals h' m' → News h₀ env.locals h' news' → J items.size m' news' → wpAny (model prog w) A (execs orelse env) Q E { s with heap := h', toks := tk })
    (hb : ∀ h' tk m' news', Fr h₀ env.locals h' m' → News h₀ env.locals h' news' → Jb m' news' → Q .next { s with heap := h', toks := tk }) :
    wpAny (model prog w) A (call (.type "enumerate") [.ref l]) (fun xv s₁ => wpAny (model prog w) A (pyIter xv) (fun it s₂ => LoopE prog w A h₀ env (.Tuple elts k pos) body orelse Q E it s₂) E s₁) E s := by
  have hl' : s.heap.IsTuple l items := hl.at fun o e => F.keep l o e
  obtain ⟨ol, hol, _⟩ := id hl'
  obtain ⟨ol0, hol0, _⟩ := id hl
  have hlt : l < s.heap.objs.size := Heap.lt_size hol
  have hLs : env.locals < s.heap.objs.size := F.ns.lt
  have hlL : l < env.locals := Nat.lt_of_lt_of_le (Heap.lt_size hol0) F.above
  refine call_enumerate_tuple hl' fun h' hE hI hsz hk => ?_
  refine wpAny_pyIter_enum hE ?_
  refine loop_core (tk0 := s.toks) (keep := []) (ws := [(s.heap.objs.size + 1, "enumerate"), (s.heap.objs.size, "tuple_iterator")]) (KTurns.ofWalksU (WalksT.enumerateD (Draws_tuple (A := A.in1) hh s.heap.objs.size l (Nat.ne_of_lt hlt) items) (s.heap.objs.size + 1) (Nat.succ_ne_self _) (fun hm => by rcases List.mem_cons.mp hm with e | hm; exact Nat.succ_ne_self _ e; exact (ktu_ne 1 hlt) (List.mem_singleton.mp hm).symm) (by simp)).toU) ?_ ?_ ?_ ?_ ?_ ?_ ?_ (F.keeps hk) (N.grown hk) trivial J Jb h0 ?_ done hb
  · rintro i h ⟨⟨old, he⟩, ⟨oi, hoi, hic, _⟩, _⟩
    have he' : ∃ oe : Obj, h.get? (s.heap.objs.size + 1) = some oe ∧ oe.cls = .type "enumerate" := ⟨_, he, rfl⟩
    obtain ⟨oe, h1, h2⟩ := he'
    refine ⟨[(s.heap.objs.size + 1, oe), (s.heap.objs.size, oi)], ⟨⟨rfl, h2⟩, ⟨rfl, hic⟩, trivial⟩, fun p hp => ?_⟩
    rcases List.mem_cons.mp hp with rfl | hp
    · exact h1
    · rw [List.mem_singleton.mp hp]; exact hoi
  · intro b hb
    have hb' : b = s.heap.objs.size + 1 ∨ b = s.heap.objs.size := by simpa using hb
    rcases hb' with rfl | rfl
    · exact ⟨by simp, ktu_new F (Nat.le_add_right _ _)⟩
    · exact ⟨by simp, ktu_new F (Nat.le_refl _)⟩
  · intro b hb
    simpa using hb
  · intro b hb hn
    have hb' : b = s.heap.objs.size + 1 ∨ b = s.heap.objs.size ∨ b = l := by simpa using hb
    rcases hb' with rfl | rfl | rfl
    · exact .inl (by simp)
    · exact .inl (by simp)
    · rw [hol0] at hn; cases hn
  · intro hI'
    have hb' : env.locals = s.heap.objs.size + 1 ∨ env.locals = s.heap.objs.size ∨ env.locals = l := by simpa using hI'
    rcases hb' with e | e | e
    · exact ktu_ne 1 hLs e
    · exact Nat.ne_of_lt hLs e
    · exact Nat.ne_of_lt hlL e.symm
  · intro p hp hI'
    have hb' : p.1 = s.heap.objs.size + 1 ∨ p.1 = s.heap.objs.size := by simpa using hI'
    have hlp := Heap.lt_size (N p hp).1
    rcases hb' with e | e
    · exact ktu_ne 1 hlp e
    · exact Nat.ne_of_lt hlp e
  · exact ⟨⟨.none, hE⟩, hI, hl'.at fun o e => hk l o e⟩
  · rintro i v h tk m₁ news₁ hi ⟨T, vals, rfl, ⟨t, x, hx, rfl⟩, hT⟩ hJ _ F₁
    refine ?_
    have st := step s.heap.objs.size (fun p hp => Heap.lt_size (N p hp).1) i x t T h tk m₁ news₁ hx hT hJ F₁
    refine AllObj.cons fun oe he => AllObj.cons fun oi hi' => AllObj.nil fun N₁ => ?_
    have := st.at (its := [(s.heap.objs.size + 1, oe), (s.heap.objs.size, oi)]) ⟨⟨rfl, he⟩, ⟨rfl, hi'⟩, trivial⟩ N₁
    refine wpAny_mono this (fun _ s₂ h₂ => wpAny_mono h₂ (fun f s₃ p => ?_) fun _ _ e => e) fun _ _ e => e
    obtain ⟨h', tk, m', news', e, F', N', ho, r⟩ := p
    refine ⟨h', tk, m', news', e, F', N', ho, ?_⟩
    cases f with
    | next => exact ⟨trivial, r⟩
    | cont => exact ⟨trivial, r⟩
    | brk => exact r
    | ret v => exact r
theorem src_tup {l : Addr} {items : Array Value} {m₀ : Str → Option Value} {news : List (Addr × Obj)} (J : Nat → (Str → Option Value) → List (Addr × Obj) → Prop) (Jb : (Str → Option Value) → List (Addr × Obj) → Prop)
    (hh : A.handled = none) (F : Fr h₀ env.locals s.heap m₀) (N : News h₀ env.locals s.heap news) (hl : h₀.IsTuple l items) (h0 : J 0 m₀ news)
    (step : ∀ I : Addr, (∀ p ∈ news, p.1 < I) → ∀ i x h tk m₁ news₁, items[i]? = some x → J i m₁ news₁ → Fr h₀ env.locals h m₁ → AllObj [(I, "tuple_iterator")] (fun its => News h₀ env.locals h (its ++ news₁) →
      wpAny (model prog w) A (assign target env x) (fun _ s₂ => wpAny (model prog w) A (execs body env) (EndW h₀ env.locals { s with heap := h, toks := tk } its (fun m' n' => J (i + 1) m' n') Jb) E s₂) E { s with heap := h, toks := tk }))
    (done : ∀ h' tk m' news', Fr h₀ env.locals h' m' → News h₀ env.locals h' news' → J items.size m' news' → wpAny (model prog w) A (execs orelse env) Q E { s with heap := h', toks := tk })
    (hb : ∀ h' tk m' news', Fr h₀ env.locals h' m' → News h₀ env.locals h' news' → Jb m' news' → Q .next { s with heap := h', toks := tk }) :
    wpAny (model prog w) A (pyIter (.ref l)) (fun it s₂ => LoopE prog w A h₀ env target body orelse Q E it s₂) E s := by
  have hl' : s.heap.IsTuple l items := hl.at fun o e => F.keep l o e
  obtain ⟨ol, hol, _⟩ := id hl'
  obtain ⟨ol0, hol0, _⟩ := id hl
  have hlt : l < s.heap.objs.size := Heap.lt_size hol
  have hLs : env.locals < s.heap.objs.size := F.ns.lt
  have hlL : l < env.locals := Nat.lt_of_lt_of_le (Heap.lt_size hol0) F.above
  refine wpAny_pyIter_tuple hl' ?_
  refine loop_core (tk0 := s.toks) (keep := []) (ws := [(s.heap.objs.size, "tuple_iterator")]) (KTurns.ofWalks (Walks.tuple hh s.heap.objs.size l (Nat.ne_of_lt hlt) items) fun i v s Q E st q => letGo_tupleiter st.1 q) ?_ ?_ ?_ ?_ ?_ ?_ ?_ (F.push _) (fun p hp => ⟨Heap.get?_push_of_some _ (N p hp).1, (N p hp).2⟩) trivial J Jb h0 ?_ done hb
  · intro i h st
    obtain ⟨it, hit, hic, _⟩ := st.1
    exact ⟨[(s.heap.objs.size, it)], ⟨⟨rfl, hic⟩, trivial⟩, fun p hp => by rw [List.mem_singleton.mp hp]; exact hit⟩
  · intro b hb
    have hb' : b = s.heap.objs.size := by simpa using hb
    rw [hb']
    exact ⟨List.mem_cons_self .., next_is_new F⟩
  · intro b hb
    simpa using hb
  · intro b hb hn
    have hb' : b = s.heap.objs.size ∨ b = l := by simpa using hb
    rcases hb' with rfl | rfl
    · exact .inl (by simp)
    · rw [hol0] at hn; cases hn
  · intro hI'
    have hb' : env.locals = s.heap.objs.size ∨ env.locals = l := by simpa using hI'
    rcases hb' with e | e
    · exact Nat.ne_of_lt hLs e
    · exact Nat.ne_of_lt hlL e.symm
  · intro p hp hI'
    have hb' : p.1 = s.heap.objs.size := by simpa using hI'
    have hlp := Heap.lt_size (N p hp).1
    exact Nat.ne_of_lt hlp hb'
  · exact ⟨⟨_, Heap.get?_push_size _ rfl, rfl, rfl⟩, hl'.at fun o e => Heap.get?_push_of_some _ e⟩
  · rintro i v h tk m₁ news₁ hi hx hJ _ F₁
    have st := step s.heap.objs.size (fun p hp => Heap.lt_size (N p hp).1) i v h tk m₁ news₁ hx hJ F₁
    refine AllObj.cons fun oi hi' => AllObj.nil fun N₁ => ?_
    have := st.at (its := [(s.heap.objs.size, oi)]) ⟨⟨rfl, hi'⟩, trivial⟩ N₁
    refine wpAny_mono this (fun _ s₂ h₂ => wpAny_mono h₂ (fun f s₃ p => ?_) fun _ _ e => e) fun _ _ e => e
    obtain ⟨h', tk, m', news', e, F', N', ho, r⟩ := p
    refine ⟨h', tk, m', news', e, F', N', ho, ?_⟩
    cases f with
    | next => exact ⟨trivial, r⟩
    | cont => exact ⟨trivial, r⟩
    | brk => exact r
    | ret v => exact r
end
end Mine

end
section
open PySem PySem.W PySem.Calls PyProof.Rows
set_option Elab.async false
set_option maxRecDepth 100000
set_option maxHeartbeats 2000000
set_option linter.unusedVariables false
namespace Mine
section
variable {prog : Program} {w : World} {A : Around} {E : Value → Shared → Prop} {s : Shared} {env : Env} {h₀ : Heap} {target : Expr} {body orelse : List Stmt} {Q : Flow → Shared → Prop}
theorem isTup_of {h₀ h : Heap} {L l : Addr} {items : Array Value} {n : Nat} {news : List (Addr × Obj)} (N : News h₀ L h news) (e : (l, ({ cls := .type "tuple", data := .seq items n } : Obj)) ∈ news) : h.IsTuple l items := ⟨_, (N _ e).1, rfl, n, rfl⟩
theorem isList_of {h₀ h : Heap} {L l : Addr} {items : Array Value} {n : Nat} {news : List (Addr × Obj)} (N : News h₀ L h news) (e : (l, ({ cls := .type "list", data := .seq items n } : Obj)) ∈ news) : h.IsList l items := ⟨_, (N _ e).1, rfl, n, rfl⟩
theorem src_tupleN {l : Addr} {o : Obj} {items : Array Value} {m₀ : Str → Option Value} {news : List (Addr × Obj)} (J : Nat → (Str → Option Value) → List (Addr × Obj) → Prop) (Jb : (Str → Option Value) → List (Addr × Obj) → Prop)
    (hh : A.handled = none) (F : Fr h₀ env.locals s.heap m₀) (N : News h₀ env.locals s.heap news) (hm : (l, o) ∈ news) (hl : s.heap.IsTuple l items) (h0 : J 0 m₀ news) (hJk : ∀ i m n, J i m n → (l, o) ∈ n)
    (step : ∀ I : Addr, (∀ p ∈ news, p.1 < I) → ∀ i x h tk m₁ news₁, items[i]? = some x → J i m₁ news₁ → Fr h₀ env.locals h m₁ → AllObj [(I, "tuple_iterator")] (fun its => News h₀ env.locals h (its ++ news₁) →
      wpAny (model prog w) A (assign target env x) (fun _ s₂ => wpAny (model prog w) A (execs body env) (EndW h₀ env.locals { s with heap := h, toks := tk } its (fun m' n' => J (i + 1) m' n') Jb) E s₂) E { s with heap := h, toks := tk }))
    (done : ∀ h' tk m' news', Fr h₀ env.locals h' m' → News h₀ env.locals h' news' → J items.size m' news' → wpAny (model prog w) A (execs orelse env) Q E { s with heap := h', toks := tk })
    (hb : ∀ h' tk m' news', Fr h₀ env.locals h' m' → News h₀ env.locals h' news' → Jb m' news' → Q .next { s with heap := h', toks := tk }) :
    wpAny (model prog w) A (pyIter (.ref l)) (fun it s₂ => LoopE prog w A h₀ env target body orelse Q E it s₂) E s := by
  obtain ⟨ol, hol, _⟩ := id hl
  have hlt : l < s.heap.objs.size := Heap.lt_size hol
  have hLs : env.locals < s.heap.objs.size := F.ns.lt
  have hlL : l ≠ env.locals := (N _ hm).2.1
  refine wpAny_pyIter_tuple hl ?_
  refine loop_core (tk0 := s.toks) (keep := [(l, o)]) (ws := [(s.heap.objs.size, "tuple_iterator")]) (KTurns.ofWalks (Walks.tuple hh s.heap.objs.size l (Nat.ne_of_lt hlt) items) fun i v s Q E st q => letGo_tupleiter st.1 q) ?_ ?_ ?_ ?_ ?_ ?_ ?_ (F.push _) (fun p hp => ⟨Heap.get?_push_of_some _ (N p hp).1, (N p hp).2⟩) ⟨hm, trivial⟩ J Jb h0 ?_ done hb
  · intro i h st
    obtain ⟨it, hit, hic, _⟩ := st.1
    exact ⟨[(s.heap.objs.size, it)], ⟨⟨rfl, hic⟩, trivial⟩, fun p hp => by rw [List.mem_singleton.mp hp]; exact hit⟩
  · intro b hb
    have hb' : b = s.heap.objs.size := by simpa using hb
    rw [hb']
    exact ⟨List.mem_cons_self .., next_is_new F⟩
  · intro b hb
    simpa using hb
  · intro b hb hn
    have hb' : b = s.heap.objs.size ∨ b = l := by simpa using hb
    rcases hb' with rfl | rfl
    · exact .inl (by simp)
    · exact .inr ⟨o, List.mem_singleton.mpr rfl⟩
  · intro hI'
    have hb' : env.locals = s.heap.objs.size ∨ env.locals = l := by simpa using hI'
    rcases hb' with e | e
    · exact Nat.ne_of_lt hLs e
    · exact hlL e.symm
  · intro p hp hI'
    have hb' : p.1 = s.heap.objs.size := by simpa using hI'
    have hlp := Heap.lt_size (N p hp).1
    exact Nat.ne_of_lt hlp hb'
  · exact ⟨⟨_, Heap.get?_push_size _ rfl, rfl, rfl⟩, hl.at fun o e => Heap.get?_push_of_some _ e⟩
  · rintro i v h tk m₁ news₁ hi hx hJ _ F₁
    have st := step s.heap.objs.size (fun p hp => Heap.lt_size (N p hp).1) i v h tk m₁ news₁ hx hJ F₁
    refine AllObj.cons fun oi hi' => AllObj.nil fun N₁ => ?_
    have := st.at (its := [(s.heap.objs.size, oi)]) ⟨⟨rfl, hi'⟩, trivial⟩ N₁
    refine wpAny_mono this (fun _ s₂ h₂ => wpAny_mono h₂ (fun f s₃ p => ?_) fun _ _ e => e) fun _ _ e => e
    obtain ⟨h', tk, m', news', e, F', N', ho, r⟩ := p
    refine ⟨h', tk, m', news', e, F', N', ho, ?_⟩
    cases f with
    | next => exact ⟨⟨hJk _ _ _ r, trivial⟩, r⟩
    | cont => exact ⟨⟨hJk _ _ _ r, trivial⟩, r⟩
    | brk => exact r
    | ret v => exact r
theorem src_listN {l : Addr} {o : Obj} {items : Array Value} {m₀ : Str → Option Value} {news : List (Addr × Obj)} (J : Nat → (Str → Option Value) → List (Addr × Obj) → Prop) (Jb : (Str → Option Value) → List (Addr × Obj) → Prop)
    (hh : A.handled = none) (F : Fr h₀ env.locals s.heap m₀) (N : News h₀ env.locals s.heap news) (hm : (l, o) ∈ news) (hl : s.heap.IsList l items) (h0 : J 0 m₀ news) (hJk : ∀ i m n, J i m n → (l, o) ∈ n)
    (step : ∀ I : Addr, (∀ p ∈ news, p.1 < I) → ∀ i x h tk m₁ news₁, items[i]? = some x → J i m₁ news₁ → Fr h₀ env.locals h m₁ → AllObj [(I, "list_iterator")] (fun its => News h₀ env.locals h (its ++ news₁) →
      wpAny (model prog w) A (assign target env x) (fun _ s₂ => wpAny (model prog w) A (execs body env) (EndW h₀ env.locals { s with heap := h, toks := tk } its (fun m' n' => J (i + 1) m' n') Jb) E s₂) E { s with heap := h, toks := tk }))
    (done : ∀ h' tk m' news', Fr h₀ env.locals h' m' → News h₀ env.locals h' news' → J items.size m' news' → wpAny (model prog w) A (execs orelse env) Q E { s with heap := h', toks := tk })
    (hb : ∀ h' tk m' news', Fr h₀ env.locals h' m' → News h₀ env.locals h' news' → Jb m' news' → Q .next { s with heap := h', toks := tk }) :
    wpAny (model prog w) A (pyIter (.ref l)) (fun it s₂ => LoopE prog w A h₀ env target body orelse Q E it s₂) E s := by
  obtain ⟨ol, hol, _⟩ := id hl
  have hlt : l < s.heap.objs.size := Heap.lt_size hol
  have hLs : env.locals < s.heap.objs.size := F.ns.lt
  have hlL : l ≠ env.locals := (N _ hm).2.1
  refine wpAny_pyIter_list hl ?_
  refine loop_core (tk0 := s.toks) (keep := [(l, o)]) (ws := [(s.heap.objs.size, "list_iterator")]) (KTurns.ofWalks (Walks.list hh s.heap.objs.size l (Nat.ne_of_lt hlt) items) fun i v s Q E st q => letGo_listiter st.1 q) ?_ ?_ ?_ ?_ ?_ ?_ ?_ (F.push _) (fun p hp => ⟨Heap.get?_push_of_some _ (N p hp).1, (N p hp).2⟩) ⟨hm, trivial⟩ J Jb h0 ?_ done hb
  · intro i h st
    obtain ⟨it, hit, hic, _⟩ := st.1
    exact ⟨[(s.heap.objs.size, it)], ⟨⟨rfl, hic⟩, trivial⟩, fun p hp => by rw [List.mem_singleton.mp hp]; exact hit⟩
  · intro b hb
    have hb' : b = s.heap.objs.size := by simpa using hb
    rw [hb']
    exact ⟨List.mem_cons_self .., next_is_new F⟩
  · intro b hb
    simpa using hb
  · intro b hb hn
    have hb' : b = s.heap.objs.size ∨ b = l := by simpa using hb
    rcases hb' with rfl | rfl
    · exact .inl (by simp)
    · exact .inr ⟨o, List.mem_singleton.mpr rfl⟩
  · intro hI'
    have hb' : env.locals = s.heap.objs.size ∨ env.locals = l := by simpa using hI'
    rcases hb' with e | e
    · exact Nat.ne_of_lt hLs e
    · exact hlL e.symm
  · intro p hp hI'
    have hb' : p.1 = s.heap.objs.size := by simpa using hI'
    have hlp := Heap.lt_size (N p hp).1
    exact Nat.ne_of_lt hlp hb'
  · exact ⟨⟨_, Heap.get?_push_size _ rfl, rfl, rfl⟩, hl.at fun o e => Heap.get?_push_of_some _ e⟩
  · rintro i v h tk m₁ news₁ hi hx hJ _ F₁
    have st := step s.heap.objs.size (fun p hp => Heap.lt_size (N p hp).1) i v h tk m₁ news₁ hx hJ F₁
    refine AllObj.cons fun oi hi' => AllObj.nil fun N₁ => ?_
    have := st.at (its := [(s.heap.objs.size, oi)]) ⟨⟨rfl, hi'⟩, trivial⟩ N₁
    refine wpAny_mono this (fun _ s₂ h₂ => wpAny_mono h₂ (fun f s₃ p => ?_) fun _ _ e => e) fun _ _ e => e
    obtain ⟨h', tk, m', news', e, F', N', ho, r⟩ := p
    refine ⟨h', tk, m', news', e, F', N', ho, ?_⟩
    cases f with
    | next => exact ⟨⟨hJk _ _ _ r, trivial⟩, r⟩
    | cont => exact ⟨⟨hJk _ _ _ r, trivial⟩, r⟩
    | brk => exact r
    | ret v => exact r
theorem src_range {r : Addr} {a b c : Int} {t u v : Tok} {n : Nat} {y : Str} {py : Pos} {m₀ : Str → Option Value} {news : List (Addr × Obj)} (J : Nat → (Str → Option Value) → List (Addr × Obj) → Prop) (Jb : (Str → Option Value) → List (Addr × Obj) → Prop)
    (hh : A.handled = none) (F : Fr h₀ env.locals s.heap m₀) (N : News h₀ env.locals s.heap news) (hr : IsRange s.heap r a b c t u v) (hsm : Builtin.Range.small a b c = true) (hn : Builtin.Range.rangeSize a b c = (n : Int)) (h0 : J 0 m₀ news)
    (step : ∀ I : Addr, (∀ p ∈ news, p.1 < I) → ∀ i x h tk m₁ news₁, i < n → (∃ t, x = .int (a + (i : Nat) * c) t) → J i m₁ news₁ → Fr h₀ env.locals h m₁ → AllObj [(I, "range_iterator")] (fun its => News h₀ env.locals h (its ++ news₁) →
      wpAny (model prog w) A (assign (.Name y py) env x) (fun _ s₂ => wpAny (model prog w) A (execs body env) (EndW h₀ env.locals { s with heap := h, toks := tk } its (fun m' n' => J (i + 1) m' n') Jb) E s₂) E { s with heap := h, toks := tk }))
    (done : ∀ h' tk m' news', Fr h₀ env.locals h' m' → News h₀ env.locals h' news' → J n m' news' → wpAny (model prog w) A (execs orelse env) Q E { s with heap := h', toks := tk })
    (hb : ∀ h' tk m' news', Fr h₀ env.locals h' m' → News h₀ env.locals h' news' → Jb m' news' → Q .next { s with heap := h', toks := tk }) :
    wpAny (model prog w) A (pyIter (.ref r)) (fun it s₂ => LoopE prog w A h₀ env (.Name y py) body orelse Q E it s₂) E s := by
  have hLs : env.locals < s.heap.objs.size := F.ns.lt
  refine wpAny_pyIter_range hr hsm ?_
  refine loop_core (tk0 := s.toks) (keep := []) (ws := [(s.heap.objs.size, "range_iterator")]) (KTurns.ofWalks (Walks.range hh s.heap.objs.size a c n) fun i v s Q E st q => by unfold letOwnedTupleGo; exact wpAny_pure q) ?_ ?_ ?_ ?_ ?_ ?_ ?_ (F.push _) (fun p hp => ⟨Heap.get?_push_of_some _ (N p hp).1, (N p hp).2⟩) trivial J Jb h0 ?_ done hb
  · intro i h st
    exact ⟨[(s.heap.objs.size, _)], ⟨⟨rfl, rfl⟩, trivial⟩, fun p hp => by rw [List.mem_singleton.mp hp]; exact st⟩
  · intro b hb
    have hb' : b = s.heap.objs.size := by simpa using hb
    rw [hb']
    exact ⟨List.mem_cons_self .., next_is_new F⟩
  · intro b hb
    simpa using hb
  · intro b hb hn
    have hb' : b = s.heap.objs.size := by simpa using hb
    exact .inl (by simp [hb'])
  · intro hI'
    have hb' : env.locals = s.heap.objs.size := by simpa using hI'
    exact Nat.ne_of_lt hLs hb'
  · intro p hp hI'
    have hb' : p.1 = s.heap.objs.size := by simpa using hI'
    have hlp := Heap.lt_size (N p hp).1
    exact Nat.ne_of_lt hlp hb'
  · show IsRangeIter _ _ _ _ _
    have : (a + ((0 : Nat) : Int) * c) = a := by simp
    rw [this, ← hn]
    have : Builtin.Range.rangeSize a b c - ((0 : Nat) : Int) = Builtin.Range.rangeSize a b c := by simp
    rw [this]
    exact Heap.get?_push_size _ rfl
  · rintro i v h tk m₁ news₁ hi hx hJ _ F₁
    have st := step s.heap.objs.size (fun p hp => Heap.lt_size (N p hp).1) i v h tk m₁ news₁ hi hx hJ F₁
    refine AllObj.cons fun oi hi' => AllObj.nil fun N₁ => ?_
    have := st.at (its := [(s.heap.objs.size, oi)]) ⟨⟨rfl, hi'⟩, trivial⟩ N₁
    refine wpAny_mono this (fun _ s₂ h₂ => wpAny_mono h₂ (fun f s₃ p => ?_) fun _ _ e => e) fun _ _ e => e
    obtain ⟨h', tk, m', news', e, F', N', ho, r⟩ := p
    refine ⟨h', tk, m', news', e, F', N', ho, ?_⟩
    cases f with
    | next => exact ⟨trivial, r⟩
    | cont => exact ⟨trivial, r⟩
    | brk => exact r
    | ret v => exact r
theorem src_enumN {elts : List Expr} {k : Nat} {pos : Pos} {l : Addr} {o : Obj} {items : Array Value} {m₀ : Str → Option Value} {news : List (Addr × Obj)} (J : Nat → (Str → Option Value) → List (Addr × Obj) → Prop) (Jb : (Str → Option Value) → List (Addr × Obj) → Prop)
    (hh : A.handled = none) (F : Fr h₀ env.locals s.heap m₀) (N : News h₀ env.locals s.heap news) (hm : (l, o) ∈ news) (hl : s.heap.IsList l items) (h0 : J 0 m₀ news) (hJk : ∀ i m n, J i m n → (l, o) ∈ n)
    (step : ∀ I : Addr, (∀ p ∈ news, p.1 < I) → ∀ i x t T h tk m₁ news₁, items[i]? = some x → IsTup h T #[.int (i : Nat) t, x] → J i m₁ news₁ → Fr h₀ env.locals h m₁ → AllObj [(I + 1, "enumerate"), (I, "list_iterator")] (fun its => News h₀ env.locals h (its ++ news₁) →
      wpAny (model prog w) A (assign (.Tuple elts k pos) env (.ref T)) (fun _ s₂ => wpAny (model prog w) A (execs body env) (EndW h₀ env.locals { s with heap := h, toks := tk } its (fun m' n' => J (i + 1) m' n') Jb) E s₂) E { s with heap := h, toks := tk }))
    (done : ∀ h' tk m' news', Fr h₀ env.locals h' m' → News h₀ env.locals h' news' → J items.size m' news' → wpAny (model prog w) A (execs orelse env) Q E { s with heap := h', toks := tk })
    (hb : ∀ h' tk m' news', Fr h₀ env.locals h' m' → News h₀ env.locals h' news' → Jb m' news' → Q .next { s with heap := h', toks := tk }) :
    wpAny (model prog w) A (call (.type "enumerate") [.ref l]) (fun xv s₁ => wpAny (model prog w) A (pyIter xv) (fun it s₂ => LoopE prog w A h₀ env (.Tuple elts k pos) body orelse Q E it s₂) E s₁) E s := by
  obtain ⟨ol, hol, _⟩ := id hl
  have hlt : l < s.heap.objs.size := Heap.lt_size hol
  have hLs : env.locals < s.heap.objs.size := F.ns.lt
  have hlL : l ≠ env.locals := (N _ hm).2.1
  refine call_enumerate_list hl fun h' hE hI hsz hk => ?_
  refine wpAny_pyIter_enum hE ?_
  refine loop_core (tk0 := s.toks) (keep := [(l, o)]) (ws := [(s.heap.objs.size + 1, "enumerate"), (s.heap.objs.size, "list_iterator")]) (KTurns.ofWalksU (WalksT.enumerateD (Draws.list (A := A.in1) hh s.heap.objs.size l (Nat.ne_of_lt hlt) items) (s.heap.objs.size + 1) (Nat.succ_ne_self _) (fun hm => by rcases List.mem_cons.mp hm with e | hm; exact Nat.succ_ne_self _ e; exact (ktu_ne 1 hlt) (List.mem_singleton.mp hm).symm) (by simp)).toU) ?_ ?_ ?_ ?_ ?_ ?_ ?_ (F.keeps hk) (N.grown hk) ⟨hm, trivial⟩ J Jb h0 ?_ done hb
  · rintro i h ⟨⟨old, he⟩, ⟨oi, hoi, hic, _⟩, _⟩
    have he' : ∃ oe : Obj, h.get? (s.heap.objs.size + 1) = some oe ∧ oe.cls = .type "enumerate" := ⟨_, he, rfl⟩
    obtain ⟨oe, h1, h2⟩ := he'
    refine ⟨[(s.heap.objs.size + 1, oe), (s.heap.objs.size, oi)], ⟨⟨rfl, h2⟩, ⟨rfl, hic⟩, trivial⟩, fun p hp => ?_⟩
    rcases List.mem_cons.mp hp with rfl | hp
    · exact h1
    · rw [List.mem_singleton.mp hp]; exact hoi
  · intro b hb
    have hb' : b = s.heap.objs.size + 1 ∨ b = s.heap.objs.size := by simpa using hb
    rcases hb' with rfl | rfl
    · exact ⟨by simp, ktu_new F (Nat.le_add_right _ _)⟩
    · exact ⟨by simp, ktu_new F (Nat.le_refl _)⟩
  · intro b hb
    simpa using hb
  · intro b hb hn
    have hb' : b = s.heap.objs.size + 1 ∨ b = s.heap.objs.size ∨ b = l := by simpa using hb
    rcases hb' with rfl | rfl | rfl
    · exact .inl (by simp)
    · exact .inl (by simp)
    · exact .inr ⟨o, List.mem_singleton.mpr rfl⟩
  · intro hI'
    have hb' : env.locals = s.heap.objs.size + 1 ∨ env.locals = s.heap.objs.size ∨ env.locals = l := by simpa using hI'
    rcases hb' with e | e | e
    · exact ktu_ne 1 hLs e
    · exact Nat.ne_of_lt hLs e
    · exact hlL e.symm
  · intro p hp hI'
    have hb' : p.1 = s.heap.objs.size + 1 ∨ p.1 = s.heap.objs.size := by simpa using hI'
    have hlp := Heap.lt_size (N p hp).1
    rcases hb' with e | e
    · exact ktu_ne 1 hlp e
    · exact Nat.ne_of_lt hlp e
  · exact ⟨⟨.none, hE⟩, hI, hl.at fun o e => hk l o e⟩
  · rintro i v h tk m₁ news₁ hi ⟨T, vals, rfl, ⟨t, x, hx, rfl⟩, hT⟩ hJ _ F₁
    have st := step s.heap.objs.size (fun p hp => Heap.lt_size (N p hp).1) i x t T h tk m₁ news₁ hx hT hJ F₁
    refine AllObj.cons fun oe he => AllObj.cons fun oi hi' => AllObj.nil fun N₁ => ?_
    have := st.at (its := [(s.heap.objs.size + 1, oe), (s.heap.objs.size, oi)]) ⟨⟨rfl, he⟩, ⟨rfl, hi'⟩, trivial⟩ N₁
    refine wpAny_mono this (fun _ s₂ h₂ => wpAny_mono h₂ (fun f s₃ p => ?_) fun _ _ e => e) fun _ _ e => e
    obtain ⟨h', tk, m', news', e, F', N', ho, r⟩ := p
    refine ⟨h', tk, m', news', e, F', N', ho, ?_⟩
    cases f with
    | next => exact ⟨⟨hJk _ _ _ r, trivial⟩, r⟩
    | cont => exact ⟨⟨hJk _ _ _ r, trivial⟩, r⟩
    | brk => exact r
    | ret v => exact r
end
end Mine

end
section
open PySem PySem.W PySem.Calls PyProof.Rows
set_option Elab.async false
set_option maxRecDepth 100000
set_option maxHeartbeats 2000000
set_option linter.unusedVariables false
namespace Mine
noncomputable def tabs : List (List (Int × Str)) := [[(40960, "l"), (49152, "s"), (32768, "-"), (24576, "b"), (16384, "d"), (8192, "c"), (4096, "p")], [(256, "r")], [(128, "w")], [(2112, "s"), (2048, "S"), (64, "x")],
  [(32, "r")], [(16, "w")], [(1032, "s"), (1024, "S"), (8, "x")], [(4, "r")], [(2, "w")], [(513, "t"), (512, "T"), (1, "x")]]
noncomputable def chkE (K : Frag) (e : Addr) (b : Int) (c : Str) : Bool := match K.lookup e with
  | some o => o.cls == .type "tuple" && (match o.data with | .seq its _ => (match its.toList with | [.int b' _, .str c' _] => b' == b && c' == c | _ => false) | _ => false)
  | none => false
noncomputable def chkL (K : Frag) : List Value → List (Int × Str) → Bool
  | [], [] => true
  | .ref e :: r, p :: q => chkE K e p.1 p.2 && chkL K r q
  | _, _ => false
noncomputable def chkT (K : Frag) (T : Addr) (ent : List (Int × Str)) : Bool := match K.lookup T with
  | some o => o.cls == .type "tuple" && (match o.data with | .seq its _ => chkL K its.toList ent | _ => false)
  | none => false
noncomputable def chkTs (K : Frag) : List Value → List (List (Int × Str)) → Bool
  | [], [] => true
  | .ref T :: r, p :: q => chkT K T p && chkTs K r q
  | _, _ => false
noncomputable def chkAll (K : Frag) (T : Addr) : Bool := match K.lookup T with
  | some o => o.cls == .type "tuple" && (match o.data with | .seq its _ => chkTs K its.toList tabs | _ => false)
  | none => false
theorem chk_all (P : Params) : chkAll (H.KR P) 160 = true := by kernel_rfl
noncomputable def EntOk (h : Heap) (T : Addr) (ent : List (Int × Str)) : Prop := ∃ its, h.IsTuple T its ∧ its.size = ent.length ∧
  ∀ (j : Nat) (x : Value), its[j]? = some x → ∃ e b c tb tc, ent[j]? = some (b, c) ∧ x = .ref e ∧ h.IsTuple e #[.int b tb, .str c tc]
theorem chkE_ok {K : Frag} {h : Heap} (X : K.In h) {e : Addr} {b : Int} {c : Str} (q : chkE K e b c = true) : ∃ tb tc, h.IsTuple e #[.int b tb, .str c tc] := by
  unfold chkE at q
  split at q
  · rename_i o ho
    obtain ⟨q1, q2⟩ := Bool.and_eq_true_iff.mp q
    split at q2
    · rename_i its n hd
      split at q2
      · rename_i b' t c' t' hl
        obtain ⟨q3, q4⟩ := Bool.and_eq_true_iff.mp q2
        refine ⟨t, t', o, X _ _ ho, beq_iff_eq.mp q1, n, ?_⟩
        rw [hd]
        have : its = #[.int b' t, .str c' t'] := by rw [← hl]
        rw [this, beq_iff_eq.mp q3, beq_iff_eq.mp q4]
      · cases q2
    · cases q2
  · cases q
theorem chkL_ok {K : Frag} {h : Heap} (X : K.In h) : ∀ {l : List Value} {ent : List (Int × Str)}, chkL K l ent = true → l.length = ent.length ∧
    ∀ (j : Nat) (x : Value), l[j]? = some x → ∃ e b c tb tc, ent[j]? = some (b, c) ∧ x = .ref e ∧ h.IsTuple e #[.int b tb, .str c tc]
  | [], [], _ => ⟨rfl, fun j x hx => by simp at hx⟩
  | .ref e :: r, p :: q, hq => by
    obtain ⟨q1, q2⟩ := Bool.and_eq_true_iff.mp hq
    obtain ⟨tb, tc, h1⟩ := chkE_ok X q1
    obtain ⟨h2, h3⟩ := chkL_ok X q2
    refine ⟨by simp [h2], fun j x hx => ?_⟩
    cases j with
    | zero => simp at hx; exact ⟨e, p.1, p.2, tb, tc, by simp, hx.symm, h1⟩
    | succ j => obtain ⟨e', b, c, tb', tc', r1, r2, r3⟩ := h3 j x (by simpa using hx); exact ⟨e', b, c, tb', tc', by simpa using r1, r2, r3⟩
theorem chkT_ok {K : Frag} {h : Heap} (X : K.In h) {T : Addr} {ent : List (Int × Str)} (q : chkT K T ent = true) : EntOk h T ent := by
  unfold chkT at q
  split at q
  · rename_i o ho
    obtain ⟨q1, q2⟩ := Bool.and_eq_true_iff.mp q
    split at q2
    · rename_i its n hd
      obtain ⟨h1, h2⟩ := chkL_ok X q2
      exact ⟨its, ⟨o, X _ _ ho, beq_iff_eq.mp q1, n, hd⟩, by simpa using h1, fun j x hx => h2 j x (by simpa using hx)⟩
    · cases q2
  · cases q
theorem chkTs_ok {K : Frag} {h : Heap} (X : K.In h) : ∀ {l : List Value} {ts : List (List (Int × Str))}, chkTs K l ts = true → l.length = ts.length ∧
    ∀ (j : Nat) (x : Value), l[j]? = some x → ∃ T ent, ts[j]? = some ent ∧ x = .ref T ∧ EntOk h T ent
  | [], [], _ => ⟨rfl, fun j x hx => by simp at hx⟩
  | .ref e :: r, p :: q, hq => by
    obtain ⟨q1, q2⟩ := Bool.and_eq_true_iff.mp hq
    have h1 := chkT_ok X q1
    obtain ⟨h2, h3⟩ := chkTs_ok X q2
    refine ⟨by simp [h2], fun j x hx => ?_⟩
    cases j with
    | zero => simp at hx; exact ⟨e, p, by simp, hx.symm, h1⟩
    | succ j => obtain ⟨T, ent, r1, r2, r3⟩ := h3 j x (by simpa using hx); exact ⟨T, ent, by simpa using r1, r2, r3⟩
theorem tabs_at {w : World} {h : Heap} (X : Frag.In (H.KR w.params) h) : ∃ its, h.IsTuple 160 its ∧ its.size = 10 ∧ ∀ (j : Nat) (x : Value), its[j]? = some x → ∃ T ent, tabs[j]? = some ent ∧ x = .ref T ∧ EntOk h T ent := by
  have q := chk_all w.params
  unfold chkAll at q
  split at q
  · rename_i o ho
    obtain ⟨q1, q2⟩ := Bool.and_eq_true_iff.mp q
    split at q2
    · rename_i its n hd
      obtain ⟨h1, h2⟩ := chkTs_ok X q2
      exact ⟨its, ⟨o, X _ _ ho, beq_iff_eq.mp q1, n, hd⟩, by simpa [tabs] using h1, fun j x hx => h2 j x (by simpa using hx)⟩
    · cases q2
  · cases q
noncomputable def hits (n : Int) (i : Nat) (b : Int) : Bool := if i = 0 then Builtin.bitAnd n 61440 == b else Builtin.bitAnd n b == b
noncomputable def dflt (i : Nat) : Str := if i = 0 then Str.ofString "?" else Str.ofString "-"
noncomputable def colOf (n : Int) (i : Nat) : List (Int × Str) → Str
  | [] => dflt i
  | (b, c) :: r => if hits n i b then c else colOf n i r
noncomputable def cols (n : Int) (i : Nat) : List Str := ((tabs.take i).zipIdx).map fun p => colOf n p.2 p.1
noncomputable def fm (n : Int) : Str := Txt.join (Str.ofString "") (cols n 10)
noncomputable abbrev fmM (P : Addr) (n : Int) (tk : Tok) (vi vt vb vc : Option Value) : Str → Option Value := fun y => if y = Str.ofString "char" then vc else if y = Str.ofString "bit" then vb else if y = Str.ofString "table" then vt else
  if y = Str.ofString "index" then vi else if y = Str.ofString "perm" then some (.ref P) else if y = Str.ofString "mode" then some (.int n tk) else none
theorem Fr.as {h₀ h : Heap} {L : Addr} {m m' : Str → Option Value} (F : Fr h₀ L h m) (e : ∀ y, m y = m' y) : Fr h₀ L h m' := by
  have : m = m' := funext e
  exact this ▸ F
theorem lookup_one {y a : Str} {v : Value} : List.lookup y [(a, v)] = if y = a then some v else none := by
  unfold List.lookup
  by_cases h : y = a
  · subst h; simp
  · simp [h, List.lookup, beq_eq_false_iff_ne.mpr h]

section
variable {h₀ h : Heap} {L P : Addr} {n : Int} {tk : Tok} {vi vt vb vc u v : Option Value}
theorem fm_start (F : Fr h₀ L h (fun y => if y = Str.ofString "perm" then some (.ref P) else if y = Str.ofString "mode" then some (.int n tk) else none)) : Fr h₀ L h (fmM P n tk none none none none) := Fr.as F (by (intro y; (by_cases h1 : y = Str.ofString "char"); · (subst h1; kernel_rfl)); (by_cases h2 : y = Str.ofString "bit"; · (subst h2; kernel_rfl)); (by_cases h3 : y = Str.ofString "table"; · (subst h3; kernel_rfl)); (by_cases h4 : y = Str.ofString "index"; · (subst h4; kernel_rfl)); (by_cases h5 : y = Str.ofString "perm"; · (subst h5; kernel_rfl)); (by_cases h6 : y = Str.ofString "mode"; · (subst h6; kernel_rfl)); simp only [fmM, h1, h2, h3, h4, h5, h6, if_false])
theorem fm_it (F : Fr h₀ L h (fun y => if y = Str.ofString "table" then v else if y = Str.ofString "index" then u else fmM P n tk vi vt vb vc y)) : Fr h₀ L h (fmM P n tk u v vb vc) := Fr.as F (by (intro y; (by_cases h1 : y = Str.ofString "char"); · (subst h1; kernel_rfl)); (by_cases h2 : y = Str.ofString "bit"; · (subst h2; kernel_rfl)); (by_cases h3 : y = Str.ofString "table"; · (subst h3; kernel_rfl)); (by_cases h4 : y = Str.ofString "index"; · (subst h4; kernel_rfl)); (by_cases h5 : y = Str.ofString "perm"; · (subst h5; kernel_rfl)); (by_cases h6 : y = Str.ofString "mode"; · (subst h6; kernel_rfl)); simp only [fmM, h1, h2, h3, h4, h5, h6, if_false])
theorem fm_bc (F : Fr h₀ L h (fun y => if y = Str.ofString "char" then v else if y = Str.ofString "bit" then u else fmM P n tk vi vt vb vc y)) : Fr h₀ L h (fmM P n tk vi vt u v) := Fr.as F (by (intro y; (by_cases h1 : y = Str.ofString "char"); · (subst h1; kernel_rfl)); (by_cases h2 : y = Str.ofString "bit"; · (subst h2; kernel_rfl)); (by_cases h3 : y = Str.ofString "table"; · (subst h3; kernel_rfl)); (by_cases h4 : y = Str.ofString "index"; · (subst h4; kernel_rfl)); (by_cases h5 : y = Str.ofString "perm"; · (subst h5; kernel_rfl)); (by_cases h6 : y = Str.ofString "mode"; · (subst h6; kernel_rfl)); simp only [fmM, h1, h2, h3, h4, h5, h6, if_false])
end
noncomputable def fmJ (P : Addr) (n : Int) (tk : Tok) (i : Nat) (m' : Str → Option Value) (news' : List (Addr × Obj)) : Prop :=
  (∃ vi vt vb vc, m' = fmM P n tk vi vt vb vc) ∧ ∃ vs ep, news' = [(P, listOf vs ep)] ∧ StrsAre vs.toList (cols n i)
theorem fmJ0 {P : Addr} {n : Int} {tk : Tok} : fmJ P n tk 0 (fmM P n tk none none none none) [(P, listOf #[] 0)] := ⟨⟨_, _, _, _, rfl⟩, _, _, rfl, .nil⟩
noncomputable def fmI (P : Addr) (n : Int) (tk : Tok) (i : Nat) (vi vt : Option Value) (ent : List (Int × Str)) (vs : Array Value) (ep : Nat) (r : List (Addr × Obj)) (j : Nat) (m' : Str → Option Value) (news' : List (Addr × Obj)) : Prop :=
  (∃ vb vc, m' = fmM P n tk vi vt vb vc) ∧ news' = r ++ [(P, listOf vs ep)] ∧ ∀ p ∈ ent.take j, hits n i p.1 = false
noncomputable def fmB (P : Addr) (n : Int) (tk : Tok) (i : Nat) (vi vt : Option Value) (ent : List (Int × Str)) (vs : Array Value) (r : List (Addr × Obj)) (m' : Str → Option Value) (news' : List (Addr × Obj)) : Prop :=
  (∃ vb vc, m' = fmM P n tk vi vt vb vc) ∧ ∃ t ep, news' = r ++ [(P, listOf (vs.push (.str (colOf n i ent) t)) ep)]
theorem StrsAre_len {l : List Value} {r : List Str} (h : StrsAre l r) : l.length = r.length := by
  induction h with
  | nil => rfl
  | cons _ _ _ ih => simp [ih]
theorem cols_size {vs : Array Value} {n : Int} {i : Nat} (h : StrsAre vs.toList (cols n i)) : vs.size ≤ 10 := by
  have := StrsAre_len h
  have h2 : (cols n i).length ≤ 10 := by
    unfold cols
    simp only [List.length_map, List.length_zipIdx, List.length_take]
    show min i 10 ≤ 10
    omega
  rw [Array.length_toList] at this
  omega
theorem cols_succ {n : Int} {i : Nat} {ent : List (Int × Str)} (h : tabs[i]? = some ent) : cols n (i + 1) = cols n i ++ [colOf n i ent] := by
  unfold cols
  rw [List.take_add_one, h]
  have hi : i < tabs.length := by rw [List.getElem?_eq_some_iff] at h; exact h.1
  simp [List.zipIdx_append, Nat.min_eq_left (Nat.le_of_lt hi)]
theorem colOf_hit {n : Int} {i : Nat} {b : Int} {c : Str} : ∀ {ent : List (Int × Str)} {j : Nat}, (∀ p ∈ ent.take j, hits n i p.1 = false) → ent[j]? = some (b, c) → hits n i b = true → colOf n i ent = c
  | [], j, _, h, _ => by simp at h
  | p :: r, 0, _, h, q => by
    have : p = (b, c) := by simpa using h
    subst this
    unfold colOf; rw [if_pos q]
  | p :: r, j + 1, h0, h, q => by
    unfold colOf
    rw [h0 p (by simp), if_neg (by simp)]
    exact colOf_hit (j := j) (fun x hx => h0 x (by simp [hx])) (by simpa using h) q
theorem colOf_none {n : Int} {i : Nat} : ∀ {ent : List (Int × Str)}, (∀ p ∈ ent, hits n i p.1 = false) → colOf n i ent = dflt i
  | [], _ => rfl
  | p :: r, h0 => by
    unfold colOf
    rw [h0 p (by simp), if_neg (by simp)]
    exact colOf_none fun x hx => h0 x (by simp [hx])
theorem no_succ {n : Int} {i : Nat} {ent : List (Int × Str)} {j : Nat} {b : Int} {c : Str} (h : ∀ p ∈ ent.take j, hits n i p.1 = false) (hj : ent[j]? = some (b, c)) (hb : hits n i b = false) : ∀ p ∈ ent.take (j + 1), hits n i p.1 = false := by
  intro p hp
  rw [List.take_add_one, hj] at hp
  rcases List.mem_append.mp hp with hp | hp
  · exact h p hp
  · have : p = (b, c) := by simpa using hp
    subst this; exact hb
theorem StrsAre_snoc {l : List Value} {r : List Str} (h : StrsAre l r) (c : Str) (t : Tok) : StrsAre (l ++ [.str c t]) (r ++ [c]) := by
  induction h with
  | nil => exact .cons c t .nil
  | cons y u _ ih => exact .cons y u ih
theorem fmJ_next {P : Addr} {n : Int} {tk : Tok} {i : Nat} {vi vt vb vc : Option Value} {vs : Array Value} {ep : Nat} {ent : List (Int × Str)} {t : Tok} {z : Str} (hz : colOf n i ent = z) (hvs : StrsAre vs.toList (cols n i)) (ht : tabs[i]? = some ent) :
    fmJ P n tk (i + 1) (fmM P n tk vi vt vb vc) [(P, listOf (vs.push (.str z t)) ep)] :=
  ⟨⟨_, _, _, _, rfl⟩, _, _, rfl, by rw [← hz]; rw [cols_succ ht, Array.toList_push]; exact StrsAre_snoc hvs _ _⟩
theorem hits0 {n : Int} {i : Nat} {b : Int} (hi : (i : Int) = 0) : hits n i b = (Builtin.bitAnd n 61440 == b) := by
  have : i = 0 := by omega
  subst this; rfl
theorem hits1 {n : Int} {i : Nat} {b : Int} (hi : (i : Int) ≠ 0) : hits n i b = (Builtin.bitAnd n b == b) := by
  have : i ≠ 0 := by omega
  unfold hits; rw [if_neg this]
theorem dflt0 {i : Nat} (hi : (i : Int) = 0) : dflt i = Str.ofString "?" := by
  have : i = 0 := by omega
  subst this; rfl
theorem dflt1 {i : Nat} (hi : (i : Int) ≠ 0) : dflt i = Str.ofString "-" := by
  have : i ≠ 0 := by omega
  unfold dflt; rw [if_neg this]
theorem cols_weight (n : Int) : ((cols n 10).map (·.length)).sum + (cols n 10).length ≤ 1048576 := by
  have h : ∀ i ent, tabs[i]? = some ent → (colOf n i ent).length = 1 := by
    have hd : ∀ i, (dflt i).length = 1 := fun i => by unfold dflt; split <;> decide +kernel
    have key : ∀ i (ent : List (Int × Str)), (∀ p ∈ ent, p.2.length = 1) → (colOf n i ent).length = 1 := by
      intro i ent
      induction ent with
      | nil => intro _; exact hd i
      | cons p r ih =>
        intro hp
        unfold colOf
        split
        · exact hp p (.head _)
        · exact ih fun q hq => hp q (.tail _ hq)
    have all : ∀ ent ∈ tabs, ∀ p ∈ ent, p.2.length = 1 := by decide +kernel
    intro i ent he
    exact key i ent (all ent (List.mem_of_getElem? he))
  have h2 : ∀ x ∈ cols n 10, x.length = 1 := by
    intro x hx
    unfold cols at hx
    obtain ⟨p, hp, rfl⟩ := List.mem_map.mp hx
    refine h p.2 p.1 ?_
    have := List.mem_zipIdx_iff_getElem?.mp hp
    exact this
  have h3 : ∀ l : List Str, (∀ x ∈ l, x.length = 1) → (l.map (·.length)).sum = l.length := by
    intro l
    induction l with
    | nil => intro _; rfl
    | cons x r ih => intro hl; simp [hl x (.head _), ih fun y hy => hl y (.tail _ hy)]; omega
  have h4 : (cols n 10).length = 10 := by unfold cols; simp [tabs]
  rw [h3 _ h2, h4]; omega
end Mine

end
section
open PySem PySem.W PySem.Calls PyProof.Rows PyProof
set_option Elab.async false
set_option maxRecDepth 100000
set_option maxHeartbeats 2000000
set_option linter.unusedVariables false
namespace Mine
noncomputable def OccAt (l : List Nat) (i p m : Nat) : Prop := (l.drop i).take m = (l.drop p).take m
noncomputable def OldIs (l : List Nat) (p k : Nat) : Prop := p + k ≤ l.length ∧ (∀ j, j < k → ∃ i, i < p ∧ OccAt l i p (j + 1)) ∧ (p + k < l.length → ∀ i, i < p → ¬ OccAt l i p (k + 1))
noncomputable abbrev oldM (x : Str) (tk1 : Tok) (p : Nat) (tk2 : Tok) (vm vp : Option Value) : Str → Option Value := fun y => if y = Str.ofString "piece" then vp else if y = Str.ofString "much" then vm else
  if y = Str.ofString "place" then some (.int p tk2) else if y = Str.ofString "text" then some (.str x tk1) else none
noncomputable def oldJ (x : Str) (tk1 : Tok) (p : Nat) (tk2 : Tok) (n : Nat) (m' : Str → Option Value) (news' : List (Addr × Obj)) : Prop :=
  ∃ (k : Nat) (t : Tok) (vp : Option Value), m' = oldM x tk1 p tk2 (some (.int k t)) vp ∧ news' = [] ∧ n = x.length - p - k ∧ p + k ≤ x.length ∧ ∀ j, j < k → ∃ i, i < p ∧ OccAt x.cps.toList i p (j + 1)
theorem slice_list {x : Str} {p k : Nat} (h : p + k < x.length) {a b : Int} (ha : a = p) (hb : b = (p + k + 1 : Nat)) : (Txt.slice x (some a) (some b)).cps.toList = (x.cps.toList.drop p).take (k + 1) := by
  rw [eq_of_beq (slice_closesL (x := x) (i := a) (j := b) (by omega) (by omega) (by omega))]
  show (x.cps.toList.drop a.toNat).take (b - a).toNat = _
  rw [show a.toNat = p by omega, show (b - a).toNat = k + 1 by omega]
theorem at_iff {x y : Str} {i p k : Nat} (hy : y.cps.toList = (x.cps.toList.drop p).take (k + 1)) (h : p + k < x.length) (hi : i ≤ p) : StrLaws.At x y x.length i ↔ OccAt x.cps.toList i p (k + 1) := by
  have hl : y.length = k + 1 := by
    have e : y.cps.toList.length = k + 1 := by
      rw [hy, List.length_take, List.length_drop]
      have : x.cps.toList.length = x.length := by simp [Str.length]
      omega
    rw [← e]; simp [Str.length]
  unfold StrLaws.At OccAt
  rw [StrLaws.subAt_eq, hl, hy, beq_iff_eq]
  exact ⟨fun q => q.2, fun q => ⟨by omega, q⟩⟩
theorem oldJ0 {x : Str} {tk1 : Tok} {p : Nat} {tk2 : Tok} {t : Tok} (hp : p ≤ x.length) : oldJ x tk1 p tk2 (x.length - p) (oldM x tk1 p tk2 (some (.int 0 t)) none) [] :=
  ⟨0, t, none, rfl, rfl, by omega, by omega, fun j hj => by omega⟩
section
variable {h₀ h : Heap} {L : Addr} {x : Str} {tk1 tk2 : Tok} {p : Nat} {vm vp u v : Option Value}
theorem oldM_start (F : Fr h₀ L h (fun y => if y = Str.ofString "much" then vm else List.lookup y [(Str.ofString "place", Value.int p tk2), (Str.ofString "text", Value.str x tk1)])) : Fr h₀ L h (oldM x tk1 p tk2 vm none) := Fr.as F (by (intro y; (by_cases h1 : y = Str.ofString "piece"; · (subst h1; kernel_rfl)); (by_cases h2 : y = Str.ofString "much"; · (subst h2; kernel_rfl)); (by_cases h3 : y = Str.ofString "place"; · (subst h3; kernel_rfl)); (by_cases h4 : y = Str.ofString "text"; · (subst h4; kernel_rfl)); simp only [oldM, h1, h2, h3, h4, if_false, List.lookup, beq_eq_false_iff_ne.mpr h3, beq_eq_false_iff_ne.mpr h4]))
theorem oldM_next (F : Fr h₀ L h (fun y => if y = Str.ofString "much" then u else if y = Str.ofString "piece" then v else oldM x tk1 p tk2 vm vp y)) : Fr h₀ L h (oldM x tk1 p tk2 u v) := Fr.as F (by (intro y; (by_cases h1 : y = Str.ofString "piece"; · (subst h1; kernel_rfl)); (by_cases h2 : y = Str.ofString "much"; · (subst h2; kernel_rfl)); (by_cases h3 : y = Str.ofString "place"; · (subst h3; kernel_rfl)); (by_cases h4 : y = Str.ofString "text"; · (subst h4; kernel_rfl)); simp only [oldM, h1, h2, h3, h4, if_false, List.lookup, beq_eq_false_iff_ne.mpr h3, beq_eq_false_iff_ne.mpr h4]))
end
theorem occ_piece {x y : Str} {p k : Nat} (hy : y.cps.toList = (x.cps.toList.drop p).take (k + 1)) (h : p + k < x.length) :
    ∃ i r, Builtin.Str.occurrences x y 0 x.length 1 = i :: r ∧ i ≤ p ∧ OccAt x.cps.toList i p (k + 1) ∧ ∀ j, j < i → ¬ OccAt x.cps.toList j p (k + 1) := by
  have hp : StrLaws.At x y x.length p := (at_iff hy h (Nat.le_refl p)).mpr rfl
  rcases StrLaws.occ_head x y 1 (Nat.le_refl 1) with ⟨_, hn⟩ | ⟨i, r, e, hi, hn⟩
  · exact absurd hp (hn p)
  · have hip : i ≤ p := by
      rcases Nat.lt_or_ge p i with q | q
      · exact absurd hp (hn p q)
      · exact q
    exact ⟨i, r, e, hip, (at_iff hy h hip).mp hi, fun j hj q => hn j hj ((at_iff hy h (by omega)).mpr q)⟩
theorem old_end {x : Str} {p k : Nat} (hk : p + k ≤ x.length) (hall : ∀ j, j < k → ∃ i, i < p ∧ OccAt x.cps.toList i p (j + 1)) (h : p + k < x.length → ∀ i, i < p → ¬ OccAt x.cps.toList i p (k + 1)) : OldIs x.cps.toList p k := by
  have : x.cps.toList.length = x.length := by simp [Str.length]
  exact ⟨by omega, hall, fun q => h (by omega)⟩
theorem all_succ {x : Str} {p k i : Nat} (hall : ∀ j, j < k → ∃ i, i < p ∧ OccAt x.cps.toList i p (j + 1)) (hi : i < p) (ho : OccAt x.cps.toList i p (k + 1)) : ∀ j, j < k + 1 → ∃ i, i < p ∧ OccAt x.cps.toList i p (j + 1) := fun j hj => by
  rcases Nat.lt_or_ge j k with q | q
  · exact hall j q
  · have : j = k := by omega
    subst this; exact ⟨i, hi, ho⟩
end Mine

end
section
open PySem PySem.W PySem.Calls PyProof.Rows PyProof
set_option Elab.async false
set_option maxRecDepth 100000
set_option maxHeartbeats 2000000
set_option linter.unusedVariables false
namespace Mine
theorem fset168 {w : World} {h : Heap} (X : Frag.In (H.KR w.params) h) : FSet pw w h 168 (H.memAt 22) := by
  have ho : h.get? 168 = some (H.hexObj w.params) := X 168 _ (by kernel_rfl)
  have I := H.qAt_inv w 22 (Nat.le_refl _)
  have e : H.hexObj w.params = H.setO (H.qAt w 22).1 (H.qAt w 22).2.1 (H.qAt w 22).2.2 := by
    unfold H.hexObj H.qP
    rw [← H.qAt_P w 22]
  rw [e] at ho
  generalize H.qAt w 22 = qq at ho I
  exact ⟨_, _, _, _, ho, rfl, rfl, rfl, I.el, I.mem, by rw [I.size]; decide, I.fits⟩
end Mine

end
section
open PySem PySem.W PySem.Calls PyProof.Rows PyProof
set_option Elab.async false
set_option maxRecDepth 100000
set_option maxHeartbeats 2000000
set_option linter.unusedVariables false
namespace Mine
open NumText
noncomputable def hexc (d : Nat) : Nat := if d < 10 then 48 + d else 87 + d
theorem hexc_dig : ∀ d, d < 16 → digit? (hexc d) = some d := by decide
theorem hexc_blank : ∀ d, d < 16 → blank (hexc d) = false := by decide
theorem hexc_95 : ∀ d, d < 16 → (hexc d == 95) = false := by decide
theorem hexc_not0 : ∀ d, d < 16 → (hexc d != 0) = true := by decide
theorem hexc_small : ∀ d, d < 16 → hexc d < 128 := by decide
theorem hexc_sign : ∀ d, d < 16 → hexc d ≠ 45 ∧ hexc d ≠ 43 := by decide
theorem pre16 {t : List Nat} {a b : Nat} (ha : a < 16) (hb : b < 16) (r : List Nat) (ht : t = hexc a :: hexc b :: r) : ∀ p, prefix? t = some p → ((16 : Nat) == p) = false := by
  have h1 : ∀ b, b < 16 → (hexc b == 120 || hexc b == 88) = false ∧ (hexc b == 111 || hexc b == 79) = false := by decide
  subst ht
  intro p hp
  unfold prefix? at hp
  split at hp
  · rename_i c r' e
    have e2 : hexc b = c := by injection e with _ e; injection e
    rw [← e2, (h1 b hb).1, (h1 b hb).2] at hp
    simp only [Bool.false_eq_true, if_false] at hp
    split at hp
    · cases hp; decide
    · cases hp
  · cases hp
theorem sign_not {t : List Nat} {a : Nat} (ha : a < 16) (r : List Nat) (ht : t = hexc a :: r) : sign t = (false, t) := by
  subst ht
  unfold sign
  split
  · rename_i e; injection e with e; exact absurd e (hexc_sign a ha).1
  · rename_i e; injection e with e; exact absurd e (hexc_sign a ha).2
  · rfl
theorem read4 {a b c d : Nat} (ha : a < 16) (hb : b < 16) (hc : c < 16) (hd : d < 16) :
    (int_private% "readNumeral") 0 16 [hexc a, hexc b, hexc c, hexc d] = (int_private% "Numeral.value") ((((a * 16 + b) * 16 + c) * 16 + d : Nat) : Int) := by
  refine (readNumeral_eq 0 16 _).trans ?_
  have e1 : List.dropWhile blank [hexc a, hexc b, hexc c, hexc d] = [hexc a, hexc b, hexc c, hexc d] := by simp [List.dropWhile, hexc_blank a ha]
  rw [e1, sign_not ha _ rfl]
  have e2 : based 16 [hexc a, hexc b, hexc c, hexc d] = (16, false, [hexc a, hexc b, hexc c, hexc d]) := by
    unfold based
    split
    · rename_i p hp
      rw [pre16 ha hb _ rfl p hp]; rfl
    · rfl
  rw [e2]
  have e3 : (List.dropWhile blank [hexc a, hexc b, hexc c, hexc d].reverse).reverse = [hexc a, hexc b, hexc c, hexc d] := by simp [List.dropWhile, hexc_blank d hd]
  dsimp only
  rw [e3]
  have e4 : digits? 16 [hexc a, hexc b, hexc c, hexc d] = some #[a, b, c, d] := by
    unfold digits?
    simp [List.foldlM, NumText.step, hexc_95 _ ha, hexc_95 _ hb, hexc_95 _ hc, hexc_95 _ hd, hexc_dig _ ha, hexc_dig _ hb, hexc_dig _ hc, hexc_dig _ hd, ha, hb, hc, hd]
  rw [e4]
  unfold judge
  simp
theorem wp_text16 {M : Model} {A : Around} {E : Value → Shared → Prop} {s : Shared} {Q : Value → Shared → Prop} {v : Value} {text : List Nat} {n : Int}
    (hs : (text.takeWhile (· != 0)).length ≤ 640) (hr : (int_private% "readNumeral") 0 16 (text.takeWhile (· != 0)) = (int_private% "Numeral.value") n)
    (ha : ((text.takeWhile (· != 0)).length == text.length) = true) (h : Q (.int n s.toks) { s with toks := s.toks + 1 }) :
    wpAny M A ((int_private% "intFromText") v text 16) Q E s := by
  obtain ⟨hp, g, d, tk, os⟩ := s
  repeat (any_goals (first
    | assumption
    | (with_reducible refine wpAny_ite_true (decide_eq_true hs) ?_)
    | (with_reducible refine wpAny_ite_true (decide_eq_true ha) ?_)
    | wp_step))
  all_goals (try rw [hr])
  all_goals (try dsimp only)
  repeat (any_goals (first
    | assumption
    | (with_reducible refine wpAny_ite_true (decide_eq_true hs) ?_)
    | (with_reducible refine wpAny_ite_true (decide_eq_true ha) ?_)
    | wp_step))
noncomputable def hx4 (a b c d : Nat) : Str := ⟨#[hexc a, hexc b, hexc c, hexc d]⟩
set_option maxHeartbeats 4000000 in
theorem gives_hex4 {a b c d : Nat} {u v : Tok} (ha : a < 16) (hb : b < 16) (hc : c < 16) (hd : d < 16) :
    Gives (Builtin.«int.__new__» ⟨[.type "int", .str (hx4 a b c d) u, .int 16 v], []⟩) (.int ((((a * 16 + b) * 16 + c) * 16 + d : Nat) : Int)) :=
  .of_wp fun M A E s Q h => by
    obtain ⟨hp, g, dr, tk, os⟩ := s
    have f1 := PySem.F.conv_sub_int
    have f2 := PySem.F.madeHere_int
    have f6 : typeOf (.str (hx4 a b c d) u) = pure (.type "str") := rfl
    have e1 : ((hx4 a b c d).cps.all (· < 128)) = true := by simp [hx4, hexc_small _ ha, hexc_small _ hb, hexc_small _ hc, hexc_small _ hd]
    have e2 : (hx4 a b c d).cps.toList = [hexc a, hexc b, hexc c, hexc d] := rfl
    have e3 : [hexc a, hexc b, hexc c, hexc d].takeWhile (· != 0) = [hexc a, hexc b, hexc c, hexc d] := by simp [List.takeWhile, hexc_not0 _ ha, hexc_not0 _ hb, hexc_not0 _ hc, hexc_not0 _ hd]
    have hr := read4 ha hb hc hd
    have hk := KIN.Hid.mk (And.intro e3 hr)
    clear e3 hr
    repeat (any_goals (first
      | assumption
      | ((with_reducible show wpAny _ _ ((int_private% "intFromText") _ _ _) _ _ _); (try rw [if_pos e1]); (try rw [e2]); refine wp_text16 (by rw [hk.out.1]; decide) (by rw [hk.out.1]; exact hk.out.2) (by rw [hk.out.1]; rfl) ?_)
      | wp_step))
    rw [if_pos e1, e2, hk.out.1]
    refine wpAny_ite_true (decide_eq_true (show (4 : Nat) ≤ 640 by omega)) ?_
    repeat (any_goals (first | assumption | wp_step))
    rw [show Int.toNat 16 = 16 from rfl, hk.out.2]
    dsimp only
    repeat (any_goals (first | assumption | wp_step))
    all_goals first | exact ⟨_, rfl, h⟩ | skip
theorem typeCall_int_2 (a b : Value) : checkTypeCall "int" ⟨[a, b], []⟩ = pure () := by kernel_rfl
theorem newCall_int_2 (a b : Value) : checkBuiltinCall "int.__new__" ⟨[.type "int", a, b], []⟩ = pure () := by kernel_rfl
theorem call_hex4 {prog : Program} {w : World} {A : Around} {E : Value → Shared → Prop} {s : Shared} {Q : Value → Shared → Prop} {a b c d : Nat} {u v : Tok} (ha : a < 16) (hb : b < 16) (hc : c < 16) (hd : d < 16)
    (h : ∀ t tk, Q (.int ((((a * 16 + b) * 16 + c) * 16 + d : Nat) : Int) t) { s with toks := tk }) : wpAny (model prog w) A (call (.type "int") [.str (hx4 a b c d) u, .int 16 v]) Q E s :=
  callType_new PySem.F.called_int PySem.F.newNe_int (typeCall_int_2 _ _) (newCall_int_2 _ _) (fun obj => PySem.F.args_object_init_3 obj _ _) PySem.F.entry_int_new (gives_hex4 ha hb hc hd).meets
    (show (Made.int _).post _ s from ⟨rfl, h _ _⟩)
theorem hx4_mem {a b c d : Nat} (ha : a < 16) (hb : b < 16) (hc : c < 16) (hd : d < 16) : ∀ k ∈ (hx4 a b c d).cps.toList, H.memAt 22 ⟨#[k]⟩ = true := by
  have key : ∀ a, a < 16 → H.memAt 22 ⟨#[hexc a]⟩ = true := by decide +kernel
  intro k hk
  have : k = hexc a ∨ k = hexc b ∨ k = hexc c ∨ k = hexc d := by simpa [hx4] using hk
  rcases this with rfl | rfl | rfl | rfl
  · exact key a ha
  · exact key b hb
  · exact key c hc
  · exact key d hd
noncomputable def hxN (n : Nat) : Str := hx4 (n / 4096 % 16) (n / 256 % 16) (n / 16 % 16) (n % 16)
theorem hxN_val {n : Nat} (h : n < 65536) : ((n / 4096 % 16 * 16 + n / 256 % 16) * 16 + n / 16 % 16) * 16 + n % 16 = n := by omega
theorem hxN_len (n : Nat) : (hxN n).length = 4 := rfl
end Mine

end
section
open PySem PySem.W PySem.Calls PyProof.Rows PyProof
set_option Elab.async false
set_option maxRecDepth 100000
set_option maxHeartbeats 2000000
set_option linter.unusedVariables false
namespace Mine
open LCg
section
variable {prog : Program} {w : World} {A : Around} {s : Shared} {h₀ : Heap} {L : Addr} {m : Str → Option Value} {env : Env} {elt : Expr} {x : Str} {scope : Scope} {cl : List (Str × Addr)} {S : List (Addr × Obj) → Prop} {P : Nat → Value → Prop} {Fin : List Value → List (Addr × Obj) → Prop}
theorem comp_inv {n : Nat} (J : Nat → List Value → List (Addr × Obj) → Prop)
    (step : ∀ i v ys news I oI C oC D m₂ h tk (E' : Value → Shared → Prop), i < n → P i v → J i ys news → NsObj oC m₂ → m₂ x = some v → Fr h₀ L h m → News h₀ L h ((I, oI) :: (C, oC) :: (D, lst ys) :: news) → Off3 I C D news → ((@Ne Nat I C) ∧ (@Ne Nat I D) ∧ (@Ne Nat C D)) →
      wpAny (model prog w) A (eval elt (compEnvC scope cl C env)) (CompEnd h₀ L m { s with heap := h, toks := tk } I oI C oC D (lst ys) S (fun y news' => J (i + 1) (ys ++ [y]) news')) E' { s with heap := h, toks := tk })
    (fin : ∀ ys news, J n ys news → Fin ys news) : ∀ k i ys news, i + k = n → J i ys news → CompRest prog w A h₀ L m env elt x scope cl s S P Fin k i ys news
  | 0, i, ys, news, hk, hJ => by
    have : i = n := by omega
    subst this
    exact CompRest.zero (fin ys news hJ)
  | k + 1, i, ys, news, hk, hJ => CompRest.succ fun v I oI C oC D m₂ h tk E' hP hC hx F N off ne =>
    wpAny_mono (step i v ys news I oI C oC D m₂ h tk E' (by omega) hP hJ hC hx F N off ne) (fun y s' he => by
      obtain ⟨h', tk', news', e, F', N', off', hS, hJ'⟩ := he
      exact ⟨h', tk', news', e, F', N', off', hS, comp_inv J step fin k (i + 1) (ys ++ [y]) news' (by omega) hJ'⟩) fun _ _ q => q
end
noncomputable def digN (n k : Nat) : Str := ⟨#[hexc (n / 16 ^ (3 - k) % 16)]⟩
theorem dig_item : ∀ d : Nat, d < 16 → Txt.item (Str.ofString "0123456789abcdef") (d : Int) = ⟨#[hexc d]⟩ := by decide +kernel
theorem dig_eq {n k : Nat} {e : Nat} (h : e = 16 ^ (3 - k)) (he : 0 < e) {z : Int} (hz : z = ((n : Int).fdiv (e : Int)).fmod 16) : Txt.item (Str.ofString "0123456789abcdef") z = digN n k := by
  have e1 : ((n : Int).fdiv (e : Int)).fmod 16 = ((n / e % 16 : Nat) : Int) := by
    rw [Int.fdiv_eq_ediv_of_nonneg _ (by omega), Int.fmod_eq_emod_of_nonneg _ (by omega)]
    omega
  rw [hz, e1, dig_item (n / e % 16) (Nat.mod_lt _ (by decide)), h]
  rfl
theorem digs_join (n : Nat) : Txt.join (Str.ofString "") ((List.range 4).map (digN n)) = hxN n := by
  show Txt.join (Str.ofString "") [digN n 0, digN n 1, digN n 2, digN n 3] = _
  have e : Str.ofString "" = ⟨#[]⟩ := by decide +kernel
  rw [e]
  show Str.mk _ = Str.mk _
  congr 1
  simp [digN, hxN, hx4]
noncomputable def figJ (c : Addr) (o : Obj) (n i : Nat) (ys : List Value) (news : List (Addr × Obj)) : Prop := news = [(c, o)] ∧ StrsAre ys ((List.range i).map (digN n))
theorem figJ0 {c : Addr} {o : Obj} {n : Nat} : figJ c o n 0 [] [(c, o)] := ⟨rfl, .nil⟩
theorem figJ_next {c : Addr} {o : Obj} {n i : Nat} {ys : List Value} {z : Str} {t : Tok} (h : StrsAre ys ((List.range i).map (digN n))) (hz : z = digN n i) : figJ c o n (i + 1) (ys ++ [.str z t]) [(c, o)] :=
  ⟨rfl, by rw [List.range_succ, List.map_append, hz]; exact StrsAre_snoc h _ _⟩
theorem digs_weight (n : Nat) : (((List.range 4).map (digN n)).map (·.length)).sum + ((List.range 4).map (digN n)).length ≤ 1048576 := by
  show (1 + (1 + (1 + (1 + 0)))) + 4 ≤ 1048576
  omega
end Mine

end
section
open PySem PySem.W PySem.Calls PyProof.Rows PyProof
set_option Elab.async false
set_option maxRecDepth 100000
set_option maxHeartbeats 2000000
set_option linter.unusedVariables false
namespace Mine
theorem wp_peek1 {α : Type} {K : Frag} {M : Model} {A : Around} {E : Value → Shared → Prop} {Q : α → Shared → Prop} {s : Shared} {o : Obj} {r : Addr → α} (X : K.In s.heap)
    (q : Q (r s.heap.objs.size) { s with heap := s.heap.push o }) : ∀ (t : Sem α) (g : Addr → Option α), peek1 K ⟨M.prog, M.w.params⟩ t = some (o, g) → (∀ D, g D = some (r D)) → wpAny M A t Q E s := by
  intro t
  induction t with
  | rule _ k ih => intro g e hg Γ p hΓ; exact ih () g e hg Γ p hΓ
  | point _ k ih => intro g e hg Γ p hΓ; exact ih () g e hg Γ p hΓ
  | ask k ih => intro g e hg Γ p hΓ; exact ih _ g e hg Γ p hΓ
  | load a _ k ih =>
    intro g e hg Γ p hΓ
    simp only [peek1] at e
    split at e
    · rename_i ob ho; exact ⟨ob, X _ _ ho, ih ob g e hg Γ p hΓ⟩
    · cases e
  | alloc ob k _ =>
    intro g e hg
    have e : some (ob, fun D => peek K ⟨M.prog, M.w.params⟩ (k D)) = some (o, g) := e
    obtain ⟨e1, e2⟩ := Prod.mk.inj (Option.some.inj e)
    subst e1
    subst e2
    have X' : K.In (s.heap.push ob) := X.keeps fun b x hb => Heap.get?_push_of_some _ hb
    show wpAny M A (alloc ob >>= k) Q E s
    refine wpAny_bind (wpAny_alloc ?_)
    exact (Looks.of_peek (M := M) (h := s.heap.push ob) X' (hg s.heap.objs.size)).here (s := { s with heap := s.heap.push ob }) q
  | _ => intro g e; cases e
section
variable {prog : Program} {w : World} {A : Around} {R : Result → Shared → Prop} {s : Shared} {K : Frag} {p : Program} {loose : List Str} {mean : ExcName → Option Value} {mg mb : Str → Option Value}
  {name qual : Str} {params : Arguments} {body : List Stmt} {scope : Scope} {dV kV doc pm cdv ct oc : Value} {an od : Option Addr} {osl : Array (Option Value)} {f : Addr} {args : Args} {vs : List Value} {g₁ : Addr → Option (List (Str × Value))} {binds : Addr → List (Str × Value)}
theorem enterR (X : K.In s.heap) (T : Top p loose mean mg mb s.heap)
    (ho : K.lookup f = some ⟨oc, od, .func (fnOf name qual params body scope dV kV doc pm an cdv ct), osl⟩) (hcd : codeIn K cdv qual = true) (hroom : A.depth < recursionLimit)
    (hp : peek1 K ⟨prog, w.params⟩ (bindArgs (fnOf name qual params body scope dV kV doc pm an cdv ct) args) = some (({ cls := .type "tuple", data := .seq vs.toArray } : Obj), g₁))
    (hg : ∀ D, g₁ D = some (binds D)) (hloc : ∀ D, ∀ y ∈ binds D, scope.names.lookup y.1 = some .local)
    (hco : scope.isCoroutine = false) (hgen : scope.isGenerator = false) (hk : scope.kind = .function) (hcell : ∀ x ∈ scope.names, x.2 ≠ .cell)
    (h : ∀ D L' h₁ tk, Fr s.heap L' h₁ (fun y => (binds D).reverse.lookup y) → News s.heap L' h₁ [(D, ({ cls := .type "tuple", data := .seq vs.toArray } : Obj))] →
      wpAny (model prog w) (A.deeper (envOf qual scope L' f cdv)) (execs body (envOf qual scope L' f cdv))
        (fun fl s' => R (.ok (.ret (match fl with | .ret v => v | _ => .none))) s') (fun _ _ => False)
        { s with heap := h₁, toks := tk }) : codeAny (model prog w) A (.call (.ref f) args) R s := by
  refine codeAny_call_function (fd := fnOf name qual params body scope dV kV doc pm an cdv ct) (body := body) hroom (X _ _ ho) rfl hco hgen rfl (codeRec_of X hcd) ?_
  refine wp_peek1 (o := ({ cls := .type "tuple", data := .seq vs.toArray } : Obj)) X (r := binds) ?_ _ g₁ hp hg
  have up : ∀ b o, s.heap.get? b = some o → (s.heap.push ({ cls := .type "tuple", data := .seq vs.toArray } : Obj)).get? b = some o := fun b o e => Heap.get?_push_of_some _ e
  have hlim := T.nolimit.keeps up
  refine wpAny_newFunctionEnv hcell (hloc _) (fun h₁ hns hsb => ⟨hlim.fresh _ hsb, codeAny_func ?_⟩) hk
  have hz : (s.heap.push ({ cls := .type "tuple", data := .seq vs.toArray } : Obj)).objs.size = s.heap.objs.size + 1 := Heap.size_push ..
  have hk₁ : ∀ b o, (s.heap.push ({ cls := .type "tuple", data := .seq vs.toArray } : Obj)).get? b = some o → h₁.get? b = some o := fun b o e => hsb.extBut b o (Nat.ne_of_lt (Heap.lt_size e)) (Heap.get?_push_of_some _ e)
  refine wpAny_mono (h s.heap.objs.size (s.heap.push ({ cls := .type "tuple", data := .seq vs.toArray } : Obj)).objs.size h₁ _ ⟨hns, fun b o e => hk₁ b o (up b o e), ?_⟩ ?_) (fun fl s' hl => hl) fun _ _ y => y.elim
  · rw [hz]; exact Nat.le_succ _
  · intro q hq
    rw [List.mem_singleton.mp hq]
    refine ⟨hk₁ _ _ (Heap.get?_push_size _ rfl), ?_, ?_⟩
    · show s.heap.objs.size ≠ _
      rw [hz]; exact Nat.ne_of_lt (Nat.lt_succ_self _)
    · cases e : s.heap.get? s.heap.objs.size with
      | none => rfl
      | some o => exact absurd (Heap.lt_size e) (Nat.lt_irrefl _)
end
end Mine

end
section
open PySem PySem.W PySem.Calls PyProof.Rows
set_option Elab.async false
set_option maxRecDepth 100000
set_option maxHeartbeats 2000000
set_option linter.unusedVariables false
namespace Mine
section
variable {prog : Program} {w : World} {A : Around} {E : Value → Shared → Prop} {s : Shared}
theorem mapHeap_ext (hp : Heap) (l : Addr) (f : Value) : Ext hp (mapHeap hp l f) := fun b o e => Heap.get?_push_of_some _ (Heap.get?_push_of_some _ (Heap.get?_push_of_some _ e))
theorem map_make {l : Addr} {f : Value} {items : Array Value} {Q : Value → Shared → Prop} (hl : s.heap.IsList l items)
    (h : Q (.ref (s.heap.objs.size + 2)) { s with heap := mapHeap s.heap l f }) : wpAny (model prog w) A (call (.type "map") [f, .ref l]) Q E s := by
  obtain ⟨hp, g, d, tk, os⟩ := s
  refine callType_new F.called_map (by decide) (F.typeCall_map_2 _ _) (F.newCall_map_2 _ _) (fun obj => F.args_oi_3 obj _ _) F.entry_map_new (meets_map_new l f items) ⟨hl, ?_⟩
  have z1 : (hp.push { cls := .type "list_iterator", data := .fields #[.ref l, .int 0 0] }).objs.size = hp.objs.size + 1 := Heap.size_push ..
  have z2 : ((hp.push { cls := .type "list_iterator", data := .fields #[.ref l, .int 0 0] }).push { cls := .type "tuple", data := .seq #[.ref hp.objs.size] }).objs.size = hp.objs.size + 2 := by rw [Heap.size_push, z1]
  have gM : (mapHeap hp l f).get? (hp.objs.size + 2) = some { cls := .type "map", data := .fields #[.ref (hp.objs.size + 1), f] } := by
    have := Heap.get?_push_size ((hp.push { cls := .type "list_iterator", data := .fields #[.ref l, .int 0 0] }).push { cls := .type "tuple", data := .seq #[.ref hp.objs.size] }) (o := { cls := .type "map", data := .fields #[.ref (hp.objs.size + 1), f] }) rfl
    rw [z2] at this; exact this
  exact ⟨⟨_, gM, rfl⟩, h⟩
theorem tuple_of_mapH {hp : Heap} {l : Addr} {f : Value} {items : Array Value} {Q : Value → Shared → Prop} (hh : A.handled = none) (hs : s.heap = mapHeap hp l f) (hl : hp.IsList l items) (hn : items.size ≤ sizeLine)
    (hcall : ∀ (s' : Shared) (v : Value) (Q : Value → Shared → Prop), (∃ i : Nat, items[i]? = some v) → Ext hp s'.heap → (∀ h' tk, Ext s'.heap h' → Q v { s' with heap := h', toks := tk }) →
      wpAny (model prog w) A.in1.in1.in1.in1 (call f [v]) Q (fun _ _ => False) s')
    (h : ∀ t h' tk, Ext hp h' → hp.objs.size ≤ t → h'.get? t = some { cls := .type "tuple", data := .seq items } → Q (.ref t) { s with heap := h', toks := tk }) :
    wpAny (model prog w) A (call (.type "tuple") [.ref (hp.objs.size + 2)]) Q E s := by
  obtain ⟨hp0, g, d, tk, os⟩ := s
  dsimp only at hs
  subst hs
  have z1 : (hp.push { cls := .type "list_iterator", data := .fields #[.ref l, .int 0 0] }).objs.size = hp.objs.size + 1 := Heap.size_push ..
  have z2 : ((hp.push { cls := .type "list_iterator", data := .fields #[.ref l, .int 0 0] }).push { cls := .type "tuple", data := .seq #[.ref hp.objs.size] }).objs.size = hp.objs.size + 2 := by rw [Heap.size_push, z1]
  have gI : (mapHeap hp l f).get? hp.objs.size = some { cls := .type "list_iterator", data := .fields #[.ref l, .int 0 0] } := Heap.get?_push_of_some _ (Heap.get?_push_of_some _ (Heap.get?_push_size _ rfl))
  have gT : (mapHeap hp l f).get? (hp.objs.size + 1) = some { cls := .type "tuple", data := .seq #[.ref hp.objs.size] } := by
    have := Heap.get?_push_size (hp.push { cls := .type "list_iterator", data := .fields #[.ref l, .int 0 0] }) (o := { cls := .type "tuple", data := .seq #[.ref hp.objs.size] }) rfl
    rw [z1] at this; exact Heap.get?_push_of_some _ this
  have gM : (mapHeap hp l f).get? (hp.objs.size + 2) = some { cls := .type "map", data := .fields #[.ref (hp.objs.size + 1), f] } := by
    have := Heap.get?_push_size ((hp.push { cls := .type "list_iterator", data := .fields #[.ref l, .int 0 0] }).push { cls := .type "tuple", data := .seq #[.ref hp.objs.size] }) (o := { cls := .type "map", data := .fields #[.ref (hp.objs.size + 1), f] }) rfl
    rw [z2] at this; exact this
  have k0 : Ext hp (mapHeap hp l f) := fun b o e => Heap.get?_push_of_some _ (Heap.get?_push_of_some _ (Heap.get?_push_of_some _ e))
  have zM : (mapHeap hp l f).objs.size = hp.objs.size + 3 := by unfold mapHeap; rw [Heap.size_push, z2]
  have hlt : l < hp.objs.size := let ⟨o, ho, _⟩ := hl; Heap.lt_size ho
  have W := walks_map (prog := prog) (w := w) (A := A.in1.in1.in1) (B := hp) (N := hp.objs.size + 3) (M := hp.objs.size + 2) (T := hp.objs.size + 1) (I := hp.objs.size) (l := l) (f := f) (items := items) hh
    (fun b o e => Nat.lt_of_lt_of_le (Heap.lt_size e) (Nat.le_add_right _ _)) (Nat.ne_of_gt (Nat.lt_add_of_pos_right (by decide))) (Nat.ne_of_gt (Nat.lt_succ_self _)) (Nat.ne_of_lt hlt)
    (by cases q : hp.get? hp.objs.size with | none => rfl | some o => exact absurd (Heap.lt_size q) (Nat.lt_irrefl _))
    (Nat.lt_succ_self _) (Nat.lt_succ_of_lt (Nat.lt_succ_self _)) (Nat.lt_add_of_pos_right (by decide)) (Nat.lt_of_lt_of_le hlt (Nat.le_add_right _ _)) hcall
  refine call_tuple_map W.toS (fun i s st => st.1.typeIs) ⟨⟨gM, gT⟩, ⟨_, gI, rfl, rfl⟩, hl.at fun o e => k0 _ _ e, k0⟩ (fun b hb => by show b < (mapHeap hp l f).objs.size; rw [zM]; exact List.mem_range.mp hb) (List.mem_range.mpr (Nat.lt_succ_self _)) (fun s' acc hm hacc => ?_) hn
  obtain ⟨hp', g', d', tk', os'⟩ := s'
  obtain ⟨m1, m2, m3, m4, m5⟩ := hm
  dsimp only at m1 m2 m3 m4
  subst m2 m3 m4
  have ea : acc = items := by
    refine Array.ext_getElem? fun i => ?_
    by_cases hi : i < acc.size
    · rw [Array.getElem?_eq_getElem hi]
      exact (hacc.2 i _ (Array.getElem?_eq_getElem hi)).symm
    · rw [Array.getElem?_eq_none (by omega), Array.getElem?_eq_none (by rw [← hacc.1]; omega)]
  subst ea
  have k1 : Ext hp hp' := fun b o e => m1 b o (fun hb => absurd (List.mem_singleton.mp hb) (Nat.ne_of_lt (Heap.lt_size e))) (k0 _ _ e)
  have sz : hp.objs.size ≤ hp'.objs.size := by
    have := Heap.lt_size (m1 _ _ (fun hb => absurd (List.mem_singleton.mp hb) (Nat.ne_of_gt (Nat.lt_add_of_pos_right (by decide)))) gM)
    exact Nat.le_of_lt (Nat.lt_of_le_of_lt (Nat.le_add_right _ _) this)
  exact h _ _ tk' (fun b o e => Heap.get?_push_of_some _ (k1 b o e)) sz (Heap.get?_push_size _ rfl)
end
theorem news_cons {h₀ h h' : Heap} {L t : Addr} {o : Obj} {m : Str → Option Value} {news : List (Addr × Obj)} (F : Fr h₀ L h m) (N : News h₀ L h' news) (e : h'.get? t = some o) (z : h.objs.size ≤ t) : News h₀ L h' ((t, o) :: news) := by
  intro p hp
  rcases List.mem_cons.mp hp with rfl | hp
  · exact ⟨e, Nat.ne_of_gt (Nat.lt_of_lt_of_le F.ns.lt z), ktu_new F z⟩
  · exact N p hp
end Mine

end
section
open PySem PySem.W PySem.Calls PyProof.Rows
set_option Elab.async false
set_option maxRecDepth 100000
set_option maxHeartbeats 2000000
set_option linter.unusedVariables false
namespace Mine
noncomputable abbrev byTxt (w : World) : Bool := w.params.followText "set-order"
noncomputable def emptyT (b : Bool) : SetTable := .fresh 0 0 (!b)
noncomputable def oneT (b : Bool) : SetTable := { mask := 7, place := #[1], dummies := #[], finger := 0, led := !b, moves := 0, plain := true }
noncomputable def setE (b : Bool) : Obj := { cls := .type "set", dict := none, data := .set #[] 0 (emptyT b) }
noncomputable def setO (b : Bool) : Obj := { cls := .type "set", dict := none, data := .set #[(1, .bool true)] 1 (oneT b) }
theorem lay_one (b : Bool) : layNew (emptyT b) #[] 1 (.bool true) = (#[(1, .bool true)], oneT b, false, false) := by cases b <;> kernel_rfl
theorem entry_set_iter : entryFor table "set.__iter__" = some Builtin.«frozenset.__iter__» :=
  entryFor_alias (id' := "frozenset.__iter__") (by kernel_rfl) rfl (by decide +kernel) (by kernel_rfl)
theorem slot_seti_next : Slot "set_iterator" "__next__" "set_iterator.__next__" :=
  .of (owner := "set_iterator") (n := "__next__") (by rw [typeLookup_type, builtinLookup_eq_fast]; kernel_rfl) (by decide +kernel) (by decide +kernel) (by decide +kernel)
    (by first | exact .inl (by decide +kernel) | exact .inr (by decide +kernel)) (by rw [isSubtype_type]; kernel_rfl)
theorem entry_seti_next : entryFor table "set_iterator.__next__" = some Builtin.«set_iterator.__next__» := entryFor_of_tree (by kernel_rfl)
theorem args_seti_next (a : Value) : argsOk "set_iterator.__next__" ⟨[a], []⟩ := by unfold argsOk; kernel_rfl
section
variable {prog : Program} {w : World} {A : Around} {E : Value → Shared → Prop} {s : Shared}
theorem new_set {Q : Value → Shared → Prop} (h : Q (.ref s.heap.objs.size) { s with heap := s.heap.push (setE (byTxt w)) }) : wpAny (model prog w) A (newSet (.type "set")) Q E s := by
  unfold newSet setsByText
  refine wpAny_bind (wpAny_bind (wpAny_askSetting (wpAny_pure ?_)))
  dsimp only
  simp only [newObj]
  exact wpAny_bind (wpAny_alloc (wpAny_pure h))
theorem pyHash_true {Q : Int → Shared → Prop} (h : Q 1 { s with toks := s.toks + 1 }) : wpAny (model prog w) A (pyHash (.bool true)) Q E s := by
  have hT : s.TypeIs (.bool true) "bool" := rfl
  unfold pyHash
  have hv : [Value.bool true].any Value.onHeap = false := rfl
  refine wpAny_bind ?_
  rw [cRoomFor, if_neg (by rw [hv]; exact Bool.false_ne_true)]; refine wpAny_pure ?_
  refine wpAny_bind (wpAny_specialOf hT F.slot_bool_hash.lookup ?_)
  show wpAny _ _ (if (some (Value.builtin "int.__hash__") == some Value.none) = true then _ else _) Q E s
  rw [if_neg (by rw [beq_builtin_none]; exact Bool.false_ne_true)]
  refine wpAny_bind (wpAny_specialOf hT F.slot_bool_hash.lookup ?_)
  show wpAny _ _ (callSpecialIfBoundUnlessNone? (.bool true) "__hash__" _ >>= _) Q E s
  refine wpAny_bind (wpAny_callSpecialIfBoundUnlessNone?_slot hT F.slot_bool_hash
    (wpAny_call_entry F.slot_bool_hash hT F.entry_int_hash
      (show wpAny _ _ (do ret (← mkInt 1)) _ _ s from wpAny_ret_mkInt ?_) (F.args_int_hash_1 _)))
  exact wpAny_pure h
theorem add_true0 {D : Addr} {Q : Value → Shared → Prop} (hD : s.heap.get? D = some (setE (byTxt w)))
    (h : ∀ h', Heap.SameBut D s.heap h' → h'.get? D = some (setO (byTxt w)) → Q .none { s with heap := h', toks := s.toks + 1 }) :
    wpAny (model prog w) A (call (.builtin "set.add") [.ref D, .bool true]) Q E s := by
  refine wpAny_call_entry F.slot_set_add (⟨_, hD, rfl⟩ : s.TypeIs (.ref D) "set") F.entry_set_add ?_ (F.args_set_add_2 _ _)
  unfold Builtin.«set.add» Builtin.Frozenset.oneOther
  simp only [List.isEmpty_nil, bind_assoc]
  unfold Builtin.Frozenset.addrOf setAdd
  refine wpAny_bind (wpAny_pure ?_)
  try dsimp only
  refine wpAny_bind (wpAny_pure ?_)
  try dsimp only
  refine wpAny_bind ?_
  refine wpAny_holding ?_
  refine wpAny_bind (pyHash_true ?_)
  unfold setAddHashed setAddHashedIn
  refine wpAny_holding (wpAny_bind (wpAny_setState_of (s := { s with toks := s.toks + 1 }) hD rfl (by cases byTxt w <;> rfl) ?_))
  dsimp only
  rw [show byScan (.bool true) #[] = true by kernel_rfl]
  simp only [↓reduceIte]
  unfold setAddByScan
  refine wpAny_bind ?_
  refine wpAny_bind (wpAny_rule ?_)
  refine wpAny_bind (m := setScan D (.bool true) 1 true #[]) (wpAny_of_eq (a := ScanMet.absent) rfl ?_)
  dsimp only
  rw [lay_one]
  dsimp only
  refine wpAny_bind (wpAny_of_eq (a := ()) rfl ?_)
  rw [if_pos (show (oneT (byTxt w)).plain = true from rfl)]
  refine wpAny_bind (wpAny_of_eq (a := true) (by rw [hashByValue_scannable 8 rfl]; rfl) ?_)
  simp only [if_true]
  refine wpAny_bind (wpAny_storeSet_of (s := { s with toks := s.toks + 1 }) hD rfl ?_ (by exact Nat.le_of_ble_eq_true rfl))
  rw [if_neg (by cases byTxt w <;> decide +kernel)]
  refine wpAny_pure ?_
  dsimp only
  refine wpAny_pure ?_
  show wpAny _ _ (ret Value.none) _ _ _
  refine wpAny_pure ⟨_, rfl, h _ (Heap.SameBut.update ..) ?_⟩
  exact Heap.get?_update_self (Obj.putSet #[(1, .bool true)] (oneT (byTxt w))) hD rfl
theorem eqBool_true {Q : Bool → Shared → Prop} (h : Q true s) : wpAny (model prog w) A (eqBool (.bool true) (.bool true)) Q E s := by
  unfold eqBool
  refine wpAny_holding ?_
  rw [if_pos (show (Value.bool true == Value.bool true) = true from rfl)]
  exact wpAny_bind (wpAny_rule (wpAny_pure h))
theorem add_true1 {D : Addr} {Q : Value → Shared → Prop} (hD : s.heap.get? D = some (setO (byTxt w)))
    (h : Q .none { s with toks := s.toks + 1 }) :
    wpAny (model prog w) A (call (.builtin "set.add") [.ref D, .bool true]) Q E s := by
  have hf : (oneT (byTxt w)).fits 1 = true := by cases byTxt w <;> rfl
  refine wpAny_call_entry F.slot_set_add (⟨_, hD, rfl⟩ : s.TypeIs (.ref D) "set") F.entry_set_add ?_ (F.args_set_add_2 _ _)
  unfold Builtin.«set.add» Builtin.Frozenset.oneOther
  simp only [List.isEmpty_nil, bind_assoc]
  unfold Builtin.Frozenset.addrOf setAdd
  refine wpAny_bind (wpAny_pure ?_)
  try dsimp only
  refine wpAny_bind (wpAny_pure ?_)
  try dsimp only
  refine wpAny_bind ?_
  refine wpAny_holding ?_
  refine wpAny_bind (pyHash_true ?_)
  unfold setAddHashed setAddHashedIn
  refine wpAny_holding (wpAny_bind (wpAny_setState_of (s := { s with toks := s.toks + 1 }) hD rfl hf ?_))
  dsimp only
  rw [show byScan (.bool true) #[(1, .bool true)] = true by kernel_rfl]
  simp only [↓reduceIte]
  unfold setAddByScan
  refine wpAny_bind ?_
  refine wpAny_bind (wpAny_rule ?_)
  refine wpAny_bind (m := setScanFrom D (.bool true) 1 true [(1, .bool true)] 0) ?_
  unfold setScanFrom
  rw [if_pos (by rfl)]
  refine wpAny_bind (wpAny_setEpoch_of (s := { s with toks := s.toks + 1 }) hD rfl hf ?_)
  refine wpAny_bind (eqBool_true ?_)
  simp only [Bool.and_self, ↓reduceIte]
  refine wpAny_pure ?_
  dsimp only
  refine wpAny_pure ?_
  dsimp only
  refine wpAny_pure ?_
  show wpAny _ _ (ret Value.none) _ _ _
  exact wpAny_pure ⟨_, rfl, h⟩
noncomputable def SetIt (h : Heap) (I D : Addr) (a b : Nat) : Prop := h.get? I = some { cls := .type "set_iterator", data := .fields #[rawInt a, rawInt b, .ref D, rawInt 1, rawInt 1] }
theorem iter_set {D : Addr} {Q : Value → Shared → Prop} (hD : s.heap.get? D = some (setO (byTxt w)))
    (h : ∀ h', SetIt h' s.heap.objs.size D 0 0 → Ext s.heap h' → h' = s.heap.push { cls := .type "set_iterator", data := .fields #[rawInt 0, rawInt 0, .ref D, rawInt 1, rawInt 1] } → Q (.ref s.heap.objs.size) { s with heap := h' }) :
    wpAny (model prog w) A (pyIter (.ref D)) Q E s := by
  have hT : s.TypeIs (.ref D) "set" := ⟨_, hD, rfl⟩
  have hf : (oneT (byTxt w)).fits 1 = true := by cases byTxt w <;> rfl
  refine wpAny_pyIter_slot hT F.slot_set_iter (wpAny_call_entry F.slot_set_iter hT entry_set_iter ?_ (F.args_set_iter_1 _))
  unfold Builtin.«frozenset.__iter__» Builtin.Frozenset.slot0 slotArgs
  simp only [List.isEmpty_nil, Bool.not_true, Bool.false_eq_true, ↓reduceIte, bind_assoc, List.length_nil, bne_self_eq_false]
  unfold Builtin.Frozenset.addrOf Builtin.Frozenset.sizeOf
  refine wpAny_bind (wpAny_pure ?_)
  try dsimp only
  refine wpAny_bind (wpAny_pure ?_)
  refine wpAny_bind (wpAny_bind (wpAny_setEntries_of hD rfl hf (wpAny_pure ?_)))
  refine wpAny_bind (m := setDrawn D) ?_
  unfold setDrawn setsByText
  refine wpAny_bind (wpAny_setState_of hD rfl hf ?_)
  dsimp only
  refine wpAny_bind (wpAny_bind (wpAny_askSetting (wpAny_pure ?_)))
  refine wpAny_of_eq (a := false) (by show pure (!byTxt w && false) = _; rw [Bool.and_false]) ?_
  rw [if_neg Bool.false_ne_true]
  refine wpAny_bind (wpAny_pure ?_)
  refine wpAny_bind (wpAny_setEpoch_of hD rfl hf ?_)
  refine wpAny_bind (m := newFields _ _) ?_
  unfold newFields
  refine wpAny_newObj_type ?_
  have g : (s.heap.push { cls := .type "set_iterator", data := .fields #[rawInt 0, rawInt 0, .ref D, rawInt 1, rawInt 1] }).get? s.heap.objs.size = some { cls := .type "set_iterator", data := .fields #[rawInt 0, rawInt 0, .ref D, rawInt 1, rawInt 1] } := Heap.get?_push_size _ rfl
  exact wpAny_pure ⟨_, rfl, "set_iterator", _, ⟨_, g, rfl⟩, slot_seti_next.lookup, h _ g (fun b o e => Heap.get?_push_of_some _ e) rfl⟩
theorem below_one0 : SetTable.below #[1] 0 = 0 := by decide +kernel
theorem below_one2 : SetTable.below #[1] 2 = 1 := by decide +kernel
theorem pick_one {α : Type} (f : Nat → Nat) (e : α) : pickOrder f #[e] = #[e] := by
  unfold pickOrder
  show pickOrder.go f 1 0 [e] #[] = _
  unfold pickOrder.go
  have : f 0 % [e].length = 0 := Nat.mod_one _
  rw [this]
  rfl
theorem setNext_0 {D : Addr} {Q : Option (Value × Nat) → Shared → Prop} (hD : s.heap.get? D = some (setO (byTxt w))) (h : Q (some (.bool true, if byTxt w then 0 else 2)) s) : wpAny (model prog w) A (setNext D 0 0 1) Q E s := by
  have hf : (oneT (byTxt w)).fits 1 = true := by cases byTxt w <;> rfl
  unfold setNext setsByText
  refine wpAny_bind (wpAny_setState_of hD rfl hf ?_)
  dsimp only
  refine wpAny_bind (wpAny_bind (wpAny_askSetting (wpAny_pure ?_)))
  dsimp only
  cases hb : byTxt w with
  | false =>
    rw [hb] at h
    have hb' : (model prog w).w.params.followText "set-order" = false := hb
    rw [hb', if_neg Bool.false_ne_true]
    exact wpAny_of_eq (a := some (Value.bool true, 2)) (by kernel_rfl) h
  | true =>
    rw [hb] at h
    have hb' : (model prog w).w.params.followText "set-order" = true := hb
    rw [hb', if_pos rfl]
    rw [if_neg (by decide)]
    unfold setWalk setsByText
    refine wpAny_bind (wpAny_bind (wpAny_setState_of hD rfl hf ?_))
    dsimp only
    refine wpAny_bind (wpAny_bind (wpAny_askSetting (wpAny_pure ?_)))
    dsimp only
    rw [hb', if_pos rfl]
    refine wpAny_bind (wpAny_askSetting (wpAny_pure ?_))
    rw [pick_one]
    exact wpAny_pure h
theorem setNext_1 {D : Addr} {Q : Option (Value × Nat) → Shared → Prop} (hD : s.heap.get? D = some (setO (byTxt w))) (h : Q none s) : wpAny (model prog w) A (setNext D (if byTxt w then 0 else 2) 1 1) Q E s := by
  have hf : (oneT (byTxt w)).fits 1 = true := by cases byTxt w <;> rfl
  unfold setNext setsByText
  refine wpAny_bind (wpAny_setState_of hD rfl hf ?_)
  dsimp only
  refine wpAny_bind (wpAny_bind (wpAny_askSetting (wpAny_pure ?_)))
  dsimp only
  cases hb : byTxt w with
  | false =>
    have hb' : (model prog w).w.params.followText "set-order" = false := hb
    rw [hb', if_neg Bool.false_ne_true]
    exact wpAny_of_eq (a := none) (by kernel_rfl) h
  | true =>
    have hb' : (model prog w).w.params.followText "set-order" = true := hb
    rw [hb', if_pos rfl]
    rw [if_neg (by decide)]
    unfold setWalk setsByText
    refine wpAny_bind (wpAny_bind (wpAny_setState_of hD rfl hf ?_))
    dsimp only
    refine wpAny_bind (wpAny_bind (wpAny_askSetting (wpAny_pure ?_)))
    dsimp only
    rw [hb', if_pos rfl]
    refine wpAny_bind (wpAny_askSetting (wpAny_pure ?_))
    rw [pick_one]
    exact wpAny_pure h
theorem next_set {I D : Addr} {Q : Option Value → Shared → Prop} (hD : s.heap.get? D = some (setO (byTxt w))) (hI : SetIt s.heap I D 0 0)
    (h : ∀ h', SetIt h' I D (if byTxt w then 0 else 2) 1 → Heap.SameBut I s.heap h' → Q (some (.bool true)) { s with heap := h' }) :
    wpAny (model prog w) A (pyNext (.ref I)) Q E s := by
  have hT : s.TypeIs (.ref I) "set_iterator" := ⟨_, hI, rfl⟩
  have hf : (oneT (byTxt w)).fits 1 = true := by cases byTxt w <;> rfl
  unfold pyNext
  refine wpAny_bind (wpAny_attempt (wpAny_callSpecial?_slot (name := Str.ofString "__next__") hT slot_seti_next
    (wpAny_call_entry slot_seti_next hT entry_seti_next ?_ (args_seti_next _))))
  unfold Builtin.«set_iterator.__next__» slotArgs
  refine wpAny_bind (wpAny_bind (wpAny_pure ?_))
  refine wpAny_pure ?_
  show wpAny _ _ (fieldsOf (.ref I) >>= _) _ _ _
  refine wpAny_bind ?_
  unfold fieldsOf
  refine wpAny_bind (wpAny_load hI ?_)
  dsimp only
  refine wpAny_pure ?_
  show wpAny _ _ (setEntries D >>= _) _ _ _
  refine wpAny_bind (wpAny_setEntries_of hD rfl hf ?_)
  rw [if_neg (by decide)]
  show wpAny _ _ (setNext D 0 0 1 >>= _) _ _ _
  refine wpAny_bind (setNext_0 hD ?_)
  dsimp only
  refine wpAny_bind (wpAny_setField_rec hI (by simp) fun h1 g1 k1 => ?_)
  refine wpAny_bind (wpAny_setField_rec (s := { s with heap := h1 }) g1 (by simp) fun h2 g2 k2 => ?_)
  exact wpAny_pure ⟨_, rfl, wpAny_pure (h h2 g2 (k1.trans k2))⟩
theorem next_set_end {I D : Addr} {Q : Option Value → Shared → Prop} (hh : A.handled = none) (hD : s.heap.get? D = some (setO (byTxt w))) (hI : SetIt s.heap I D (if byTxt w then 0 else 2) 1)
    (h : ∀ h', Heap.ExtBut I s.heap h' → Q none { s with heap := h' }) :
    wpAny (model prog w) A (pyNext (.ref I)) Q E s := by
  have hT : s.TypeIs (.ref I) "set_iterator" := ⟨_, hI, rfl⟩
  have hf : (oneT (byTxt w)).fits 1 = true := by cases byTxt w <;> rfl
  unfold pyNext
  refine wpAny_bind (wpAny_attempt (wpAny_callSpecial?_slot (name := Str.ofString "__next__") hT slot_seti_next
    (wpAny_call_entry slot_seti_next hT entry_seti_next ?_ (args_seti_next _))))
  unfold Builtin.«set_iterator.__next__» slotArgs
  refine wpAny_bind (wpAny_bind (wpAny_pure ?_))
  refine wpAny_pure ?_
  show wpAny _ _ (fieldsOf (.ref I) >>= _) _ _ _
  refine wpAny_bind ?_
  unfold fieldsOf
  refine wpAny_bind (wpAny_load hI ?_)
  dsimp only
  refine wpAny_pure ?_
  show wpAny _ _ (setEntries D >>= _) _ _ _
  refine wpAny_bind (wpAny_setEntries_of hD rfl hf ?_)
  rw [if_neg (by decide)]
  show wpAny _ _ (setNext D (if byTxt w then 0 else 2) 1 1 >>= _) _ _ _
  refine wpAny_bind (setNext_1 hD ?_)
  dsimp only
  refine wpAny_bind (wpAny_setField_rec hI (by simp) fun h1 g1 k1 => ?_)
  refine wpAny_bind ?_
  simp only [newExc, newTuple]
  refine wpAny_bind (wpAny_newObj_type ?_ (by size_fits))
  refine wpAny_bind (m := firstArgMember _ _) (wpAny_of_eq (a := Value.none) (by first | rfl | (simp only [firstArgMember]; rfl)) ?_)
  refine wpAny_newObj_type ?_ (by size_fits)
  simp only [raiseNew]
  refine wpAny_bind (wpAny_handled ?_)
  rw [show A.in1.handled = none from hh]
  refine wpAny_bind (wpAny_pure (wpAny_throw ?_))
  refine wpAny_bind (wpAny_isInstance (T := "StopIteration") (b := true) ⟨_, Heap.get?_push_size _ rfl, rfl⟩ isSubtype_stop ?_)
  exact wpAny_pure (h _ ((k1.extBut.push _).push _))
end
end Mine

end
section
open PySem PySem.W PySem.Calls PyProof.Rows
open LCg (NsObj ns_obj Off3 Off1 fr_but news_but lst)
set_option Elab.async false
set_option maxRecDepth 100000
set_option maxHeartbeats 2000000
set_option linter.unusedVariables false
namespace Mine
section
variable {prog : Program} {w : World} {A : Around} {E : Value → Shared → Prop} {s : Shared} {env : Env}
theorem unpack_setT {elts : List Expr} {k : Nat} {pos : Pos} {D : Addr} {Q : Unit → Shared → Prop} (hh : A.handled = none) (hD : s.heap.get? D = some (setO (byTxt w)))
    (hn : (assignEach elts env).length = 1) (hstar : (assignEach elts env).findIdx? (·.1) = none)
    (h : ∀ h', Ext s.heap h' → wpAny (model prog w) A (assignInOrder ((assignEach elts env).map (·.2)) [.bool true]) Q E { s with heap := h' }) :
    wpAny (model prog w) A (assign (.Tuple elts k pos) env (.ref D)) Q E s := by
  have hT : s.TypeIs (.ref D) "set" := ⟨_, hD, rfl⟩
  have hlt : D ≠ s.heap.objs.size := Nat.ne_of_lt (Heap.lt_size hD)
  rw [arm_assign_Tuple]
  refine wpAny_bind (wpAny_standAt ?_)
  unfold unpack
  rw [hn, hstar]
  refine wpAny_bind (wpAny_holding ?_)
  unfold unpackItems
  refine wpAny_bind ?_
  unfold notIterableAtAll
  refine wpAny_bind (wpAny_specialOf hT F.slot_set_iter.lookup ?_)
  refine wpAny_pure ?_
  simp only [Bool.false_eq_true, if_false]
  refine wpAny_bind (wpAny_holding (iter_set hD fun h1 i1 k1 e1 => ?_))
  refine wpAny_bind (wpAny_holding ?_)
  show wpAny _ _ (pyNext (.ref s.heap.objs.size) >>= _) _ _ _
  refine wpAny_bind (next_set (k1 _ _ hD) i1 fun h2 i2 k2 => ?_)
  refine wpAny_bind (wpAny_holding ?_)
  show wpAny _ _ (pure []) _ _ _
  refine wpAny_pure (wpAny_pure ?_)
  rw [if_neg (by simp)]
  have hD2 : h2.get? D = some (setO (byTxt w)) := (k2.2 _ hlt).trans (k1 _ _ hD)
  refine wpAny_bind (wpAny_holding (next_set_end hh hD2 i2 fun h3 k3 => ?_))
  simp only [Option.isSome_none, Bool.false_eq_true, if_false]
  refine wpAny_pure (h h3 fun b o e => ?_)
  have hb : b ≠ s.heap.objs.size := Nat.ne_of_lt (Heap.lt_size e)
  exact k3 _ _ hb ((k2.2 _ hb).trans (k1 _ _ e))

theorem compTurn_set (elt target iter : Expr) (scope : Scope) (pos : Pos) (it acc : Value) (env : Env) :
    compTurn (.SetComp elt [⟨target, iter, [], 0⟩] scope pos) 0 it acc env = (standAt iter.pos >>= fun _ => pyNext it >>= fun r => match r with
      | none => pure (.done .next)
      | some v => letOwnedTupleGo target it v >>= fun _ => assign target env v >>= fun _ =>
        (eval elt env >>= fun x => standAt elt.pos >>= fun _ => call (.builtin "set.add") [acc, x] >>= fun _ => pure ()) >>= fun _ =>
          again (.compLoop (.SetComp elt [⟨target, iter, [], 0⟩] scope pos) 0 it acc env)) := by rfl
theorem compLoop_set {R : Result → Shared → Prop} {elt target iter : Expr} {scope : Scope} {pos : Pos} {it acc : Value} (I : Nat → Shared → Prop)
    (turn : ∀ n s, I n s → wpAny (model prog w) A (pyNext it) (fun r s₁ => match r with
      | none => R (.ok .next) s₁
      | some v => wpAny (model prog w) A (assign target env v) (fun _ s₂ => wpAny (model prog w) A (eval elt env) (fun x s₄ =>
              wpAny (model prog w) A (call (.builtin "set.add") [acc, x]) (fun _ s₅ => ∃ m, m < n ∧ I m s₅) (notedBy (model prog w) A env fun e s' => R (.error e) s') s₄) (notedBy (model prog w) A env fun e s' => R (.error e) s') s₂) (notedBy (model prog w) A env fun e s' => R (.error e) s') s₁) (notedBy (model prog w) A env fun e s' => R (.error e) s') s)
    (n : Nat) (h : I n s) (ht : ∀ v, letOwnedTupleGo target it v = pure () := by intro _; rfl) :
    codeAny (model prog w) A (.compLoop (.SetComp elt [⟨target, iter, [], 0⟩] scope pos) 0 it acc env) R s := by
  refine codeAny_loop rfl I (fun n s hI => ?_) n h
  show wpAny _ A ((compTurn (.SetComp elt [⟨target, iter, [], 0⟩] scope pos) 0 it acc env).onRaise (fun x => do noteFrame x env; theTreesLotGoes x)) _ _ s
  refine wpAny_noted ?_
  rw [compTurn_set]
  refine wpAny_bind (wpAny_standAt (wpAny_bind (wpAny_mono (turn n s hI) (fun r s₁ h₁ => ?_) fun _ _ h' => h')))
  cases r with
  | none => exact wpAny_pure h₁
  | some v =>
    refine wpAny_bind (wpAny_of_eq (ht v) ?_)
    refine wpAny_bind (wpAny_mono h₁ (fun _ s₂ h₂ => ?_) fun _ _ h' => h')
    exact wpAny_bind (wpAny_bind (wpAny_mono h₂ (fun x s₄ h₄ => wpAny_bind (wpAny_standAt (wpAny_bind (wpAny_mono h₄ (fun _ s₅ h₅ => wpAny_pure (wpAny_pure ⟨rfl, h₅⟩)) fun _ _ h' => h')))) fun _ _ h' => h'))
theorem compStart_set {R : Result → Shared → Prop} {elt target iter ifs rest scope pos it acc}
    (h0 : codeAny (model prog w) A (.compLoop (.SetComp elt (⟨target, iter, ifs, 0⟩ :: rest) scope pos) 0 it acc env) R s)
    (h : wpAny (model prog w) A (pyIter it) (fun it' s' => codeAny (model prog w) A (.compLoop (.SetComp elt (⟨target, iter, ifs, 0⟩ :: rest) scope pos) 0 it' acc env) R s')
      (notedBy (model prog w) A env fun x s' => R (.error x) s') s) :
    codeAny (model prog w) A (.compStart (.SetComp elt (⟨target, iter, ifs, 0⟩ :: rest) scope pos) 0 it acc env) R s := by
  refine codeAny_of_tree ?_
  show wpAny _ _ ((compStart (.SetComp elt (⟨target, iter, ifs, 0⟩ :: rest) scope pos) 0 it acc env).onRaise (fun x => do noteFrame x env; standAt theWindowsPlace)) _ _ s
  refine wpAny_notedAt ?_
  unfold compStart
  show wpAny _ _ (ask >>= _) _ _ s
  refine wpAny_bind (wpAny_askSetting (wpAny_ite ?_))
  split
  · first
      | exact wpAny_bind (wpAny_pure (wpAny_pure (And.intro rfl h0)))
      | exact wpAny_pure (And.intro rfl h0)
  · first
      | exact wpAny_bind (wpAny_rule (wpAny_bind (wpAny_standAt (wpAny_bind (wpAny_mono h (fun it' s' h' => wpAny_pure (And.intro rfl h')) fun _ _ x => x)))))
      | (refine wpAny_bind (wpAny_rule ?_); show wpAny _ _ (standAt iter.pos >>= _) _ _ s; exact wpAny_bind (wpAny_standAt (wpAny_bind (wpAny_mono h (fun it' s' h' => wpAny_pure (And.intro rfl h')) fun _ _ x => x))))
end
end Mine

end
section
open PySem PySem.W PySem.Calls PyProof.Rows
open LCg (NsObj ns_obj Off3 Off1 fr_but news_but lst)
set_option Elab.async false
set_option maxRecDepth 100000
set_option maxHeartbeats 2000000
set_option linter.unusedVariables false
namespace Mine
section
variable {prog : Program} {w : World} {A : Around} {E : Value → Shared → Prop} {s : Shared} {h₀ : Heap} {L : Addr} {m : Str → Option Value} {env : Env}

noncomputable def accS (b : Bool) : Nat → Obj
  | 0 => setE b
  | _ + 1 => setO b
theorem SetComp_true {elt iter : Expr} {x : Str} {px : Pos} {scope : Scope} {cl : List (Str × Addr)} {pos : Pos} {Q : Value → Shared → Prop} (F₀ : Fr h₀ L s.heap m)
    (hclos : closureFor scope env = pure cl) (hcell : ∀ y ∈ scope.names, y.2 ≠ .cell) (hkind : scope.kind = .function)
    (hnames : ∀ y ∈ scope.names, y.2 = .local → scope.names.lookup y.1 = some .local) (hx : scope.names.lookup x = some .local)
    (h : wpAny (model prog w) A (eval iter env) (fun xv s₁ => Stop (∃ t items c news, xv = .ref t ∧ A.handled = none ∧ Fr h₀ L s₁.heap m ∧ News h₀ L s₁.heap news ∧ (t, ({ cls := .type "tuple", data := .seq items c } : Obj)) ∈ news ∧ 0 < items.size ∧
      (∀ (i : Nat) v I oI C oC D oD m₂ h tk (E' : Value → Shared → Prop), items[i]? = some v → NsObj oC m₂ → m₂ x = some v → Fr h₀ L h m → News h₀ L h ((I, oI) :: (C, oC) :: (D, oD) :: news) → Off3 I C D news → ((@Ne Nat I C) ∧ (@Ne Nat I D) ∧ (@Ne Nat C D)) →
        wpAny (model prog w) A (eval elt (compEnvC scope cl C env)) (fun y s' => Stop (y = .bool true ∧ ∃ h' tk', s' = { s₁ with heap := h', toks := tk' } ∧ Fr h₀ L h' m ∧ News h₀ L h' ((I, oI) :: (C, oC) :: (D, oD) :: news))) E' { s₁ with heap := h, toks := tk }) ∧
      (∀ D h tk, Fr h₀ L h m → News h₀ L h ((D, setO (byTxt w)) :: news) → Off1 D news → Q (.ref D) { s₁ with heap := h, toks := tk }))) E s)
    (hs : ∀ x, foldedSetIterable iter env x = pure x := by intro _; rfl) :
    wpAny (model prog w) A (eval (.SetComp elt [⟨.Name x px, iter, [], 0⟩] scope pos) env) Q E s := by
  rw [arm_eval_SetComp]
  refine wpAny_comprehension_free (use := none) rfl hs hclos hkind hnames (wpAny_mono h (fun xv s₁ h₁ => ?_) fun _ _ e => e)
  obtain ⟨t, items, cc, news, rfl, hh, F, N, hm, hpos, turn, fin⟩ := h₁
  have hl : s₁.heap.IsTuple t items := isTup_of N hm
  have hlt : t < s₁.heap.objs.size := Heap.lt_size (N _ hm).1
  refine wpAny_pyIter_tuple hl ?_
  have W := Walks.tuple (prog := prog) (w := w) (A := A) hh s₁.heap.objs.size t (Nat.ne_of_lt hlt) items
  have up : ∀ b o, s₁.heap.get? b = some o → (s₁.heap.push { cls := .type "tuple_iterator", data := .fields #[.ref t, .int 0 0] }).get? b = some o := fun b o e => Heap.get?_push_of_some _ e
  generalize hI : s₁.heap.objs.size = I at *
  have st0 : (s₁.heap.push { cls := .type "tuple_iterator", data := .fields #[.ref t, .int 0 0] }).IsTupleIter I t 0 ∧ (s₁.heap.push { cls := .type "tuple_iterator", data := .fields #[.ref t, .int 0 0] }).IsTuple t items := ⟨⟨_, hI ▸ Heap.get?_push_size _ rfl, rfl, rfl⟩, hl.push _⟩
  have hIL : L ≠ I := hI ▸ Nat.ne_of_lt F.ns.lt
  have hI₀ : h₀.get? I = none := hI ▸ next_is_new F
  have off : ∀ p ∈ news, p.1 ≠ I := fun p hp => hI ▸ Nat.ne_of_lt (Heap.lt_size (N p hp).1)
  have hz : (s₁.heap.push { cls := .type "tuple_iterator", data := .fields #[.ref t, .int 0 0] }).objs.size = I + 1 := by rw [Heap.size_push, hI]
  have F1 := F.keeps up
  have N1 := N.grown up
  generalize hg : s₁.heap.push { cls := .type "tuple_iterator", data := .fields #[.ref t, .int 0 0] } = g at *
  refine new_set ?_
  refine wpAny_newFunctionEnv hcell (by intro y hy; simp at hy) (fun h₁ hns₁ hsb₁ => ?_) hkind
  dsimp only at hns₁ hsb₁ ⊢
  generalize hH2 : g.push (setE (byTxt w)) = H2 at hns₁ hsb₁ ⊢
  have hC : H2.objs.size = g.objs.size + 1 := by rw [← hH2, Heap.size_push]
  have hDC : g.objs.size ≠ H2.objs.size := by rw [hC]; exact Nat.ne_of_lt (Nat.lt_succ_self _)
  have below : ∀ b, b < g.objs.size → b ≠ H2.objs.size ∧ b ≠ g.objs.size := fun b hb => ⟨by rw [hC]; exact Nat.ne_of_lt (Nat.lt_succ_of_lt hb), Nat.ne_of_lt hb⟩
  have hIlt : I < g.objs.size := by rw [hz]; exact Nat.lt_succ_self _
  have htlt : t < g.objs.size := by rw [hz]; exact Nat.lt_succ_of_lt hlt
  have old : ∀ b o, g.get? b = some o → h₁.get? b = some o := fun b o e => hsb₁.extBut b o (below b (Heap.lt_size e)).1 (Heap.get?_push_of_some _ (hH2 ▸ Heap.get?_push_of_some _ e))
  have hacc : h₁.get? g.objs.size = some (setE (byTxt w)) := hsb₁.extBut _ _ hDC (Heap.get?_push_of_some _ (hH2 ▸ Heap.get?_push_size _ rfl))
  have hst₁ : h₁.IsTupleIter I t 0 ∧ h₁.IsTuple t items := W.frame _ _ _ st0 fun b _ o e => old b o e
  have fresh₀ : ∀ a, g.objs.size ≤ a → h₀.get? a = none := fun a ha => ktu_new F1 ha
  have hD₀ : h₀.get? g.objs.size = none := fresh₀ _ (Nat.le_refl _)
  have hC₀ : h₀.get? H2.objs.size = none := fresh₀ _ (by rw [hC]; exact Nat.le_succ _)
  have hLlt : L < g.objs.size := F1.ns.lt
  have hDL : g.objs.size ≠ L := Ne.symm (below L hLlt).2
  have hCL : H2.objs.size ≠ L := Ne.symm (below L hLlt).1
  have hCI : I ≠ H2.objs.size := (below I hIlt).1
  have hDI : I ≠ g.objs.size := (below I hIlt).2
  have htC : t ≠ H2.objs.size := (below t htlt).1
  have htD : t ≠ g.objs.size := (below t htlt).2
  have off₀ : Off3 I H2.objs.size g.objs.size news := Off3.of fun p hp => ⟨off p hp, (below _ (Heap.lt_size (N1 p hp).1)).1, (below _ (Heap.lt_size (N1 p hp).1)).2⟩
  have off3 := off₀.mem
  let RR : Result → Shared → Prop := compPost (model prog w) A E none Q (.ref g.objs.size) H2.objs.size
  have loop : ∀ s₃ : Shared, s₃ = { s₁ with heap := h₁, toks := s₁.toks + ([] : List (Str × Value)).length } →
      codeAny (model prog w) A (.compLoop (.SetComp elt [⟨.Name x px, iter, [], 0⟩] scope pos) 0 (.ref I) (.ref g.objs.size) (compEnvC scope cl H2.objs.size env)) RR s₃ := by
    rintro s₃ rfl
    refine compLoop_set
      (fun k s' => ∃ h' tk i m', s' = { s₁ with heap := h', toks := tk } ∧ i ≤ items.size ∧ k = items.size + 1 - i ∧ (h'.IsTupleIter I t i ∧ h'.IsTuple t items) ∧ Fr h₀ L h' m ∧ h'.Ns H2.objs.size m' ∧ News h₀ L h' ((g.objs.size, accS (byTxt w) i) :: news)) ?_ (items.size + 1)
      ⟨h₁, _, 0, _, rfl, Nat.zero_le _, rfl, hst₁, F1.keeps old, hns₁, fun p hp => ?_⟩
    · rintro k s' ⟨h', tk, i, m', rfl, hi, rfl, hst', F', hn', N'⟩
      by_cases hlt' : i < items.size
      · refine W.item i _ _ _ hlt' hst' fun v h₂ tk₂ hPv hst₂ hk₂ => ?_
        refine wpAny_assign_Name (wpAny_storeName_local (lookup_relabel_local hx) (hn'.at' fun o e => hk₂ _ o (by simpa using Ne.symm hCI) e) (fun h₃ hn₃ hs₃ => ?_) (by simp [compEnvC, relabel, hkind]))
        have hst₃ : h₃.IsTupleIter I t (i + 1) ∧ h₃.IsTuple t items := W.frame _ _ _ hst₂ fun b hb o e => hs₃.extBut b o (fun q => by
          rcases List.mem_cons.mp hb with rfl | hb
          · exact hCI q
          · exact htC ((List.mem_singleton.mp hb).symm.trans q)) e
        obtain ⟨oI, heI, _⟩ := id hst₃.1
        obtain ⟨oC, heC, hoC⟩ := ns_obj hn₃
        have F₃ : Fr h₀ L h₃ m := (fr_but F' hk₂ hIL hI₀).change hs₃ hCL hC₀
        have N₂ : News h₀ L h₂ ((g.objs.size, accS (byTxt w) i) :: news) := news_but N' hk₂ fun p hp => by
          rcases List.mem_cons.mp hp with rfl | hp
          · exact Ne.symm hDI
          · exact (off3 p hp).1
        have N₃ : News h₀ L h₃ ((I, oI) :: (H2.objs.size, oC) :: (g.objs.size, accS (byTxt w) i) :: news) := fun p hp => by
          rcases List.mem_cons.mp hp with rfl | hp
          · exact ⟨heI, Ne.symm hIL, hI₀⟩
          · rcases List.mem_cons.mp hp with rfl | hp
            · exact ⟨heC, hCL, hC₀⟩
            · have z := N₂ p hp
              refine ⟨hs₃.extBut _ _ ?_ z.1, z.2⟩
              rcases List.mem_cons.mp hp with rfl | hp
              · exact hDC
              · exact (off3 p hp).2.1
        refine wpAny_mono (turn i v I oI H2.objs.size oC g.objs.size _ _ h₃ _ _ hPv hoC (by simp) F₃ N₃ off₀ ⟨hCI, hDI, Ne.symm hDC⟩) (fun y s₄ h₄ => ?_) fun _ _ e => e
        obtain ⟨rfl, h₄, tk₄, rfl, F₄, N₄⟩ := h₄
        have zI := (N₄ (I, oI) List.mem_cons_self).1
        have zC := (N₄ (H2.objs.size, oC) (List.mem_cons_of_mem _ List.mem_cons_self)).1
        have zD := (N₄ (g.objs.size, _) (List.mem_cons_of_mem _ (List.mem_cons_of_mem _ List.mem_cons_self))).1
        have N₄' : News h₀ L h₄ news := fun p hp => N₄ p (List.mem_cons_of_mem _ (List.mem_cons_of_mem _ (List.mem_cons_of_mem _ hp)))
        have hst₄ : h₄.IsTupleIter I t (i + 1) ∧ h₄.IsTuple t items := ⟨by obtain ⟨o', q, r⟩ := hst₃.1; rw [heI] at q; cases q; exact ⟨oI, zI, r⟩, isTup_of N₄' hm⟩
        have done : ∀ h₅ tk₅, Heap.SameBut g.objs.size h₄ h₅ → h₅.get? g.objs.size = some (accS (byTxt w) (i + 1)) →
            ∃ m_1, m_1 < items.size + 1 - i ∧ ∃ h' tk i m', ({ s₁ with heap := h₅, toks := tk₅ } : Shared) = { s₁ with heap := h', toks := tk } ∧ i ≤ items.size ∧ m_1 = items.size + 1 - i ∧ (h'.IsTupleIter I t i ∧ h'.IsTuple t items) ∧ Fr h₀ L h' m ∧ h'.Ns H2.objs.size m' ∧ News h₀ L h' ((g.objs.size, accS (byTxt w) i) :: news) := by
          intro h₅ tk₅ hs₅ hD₅
          refine ⟨items.size + 1 - (i + 1), by omega, h₅, tk₅, i + 1, _, rfl, hlt', rfl, W.frame _ _ _ hst₄ fun b hb o e => hs₅.extBut b o (fun q => by
            rcases List.mem_cons.mp hb with rfl | hb
            · exact hDI q
            · exact htD ((List.mem_singleton.mp hb).symm.trans q)) e, F₄.change hs₅ hDL hD₀, (hoC.ns zC).sameBut hs₅ (Ne.symm hDC), fun p hp => ?_⟩
          rcases List.mem_cons.mp hp with rfl | hp
          · exact ⟨hD₅, hDL, hD₀⟩
          · exact ⟨hs₅.extBut _ _ (off3 p hp).2.2 (N₄' p hp).1, (N₄' p hp).2⟩
        cases i with
        | zero => exact add_true0 zD fun h₅ hs₅ hD₅ => done h₅ _ hs₅ hD₅
        | succ i => exact add_true1 zD (done h₄ _ (Heap.SameBut.refl ..) zD)
      · obtain rfl : i = items.size := Nat.le_antisymm hi (Nat.not_lt.mp hlt')
        refine W.done _ _ _ hst' fun h₂ tk₂ hk₂ => ?_
        have F₂ := fr_but F' hk₂ hIL hI₀
        have N₂ : News h₀ L h₂ ((g.objs.size, accS (byTxt w) items.size) :: news) := news_but N' hk₂ fun p hp => by
          rcases List.mem_cons.mp hp with rfl | hp
          · exact Ne.symm hDI
          · exact (off3 p hp).1
        have hn₂ := hn'.at' fun o e => hk₂ _ o (by simpa using Ne.symm hCI) e
        refine ⟨m', hn₂, fun h'' hs'' => fin g.objs.size h'' tk₂ (F₂.change hs'' hCL hC₀) (fun p hp => ?_) off₀.one⟩
        have hp' : p ∈ (g.objs.size, accS (byTxt w) items.size) :: news := by
          have : accS (byTxt w) items.size = setO (byTxt w) := by obtain ⟨k, hk⟩ : ∃ k, items.size = k + 1 := ⟨items.size - 1, by omega⟩; rw [hk]; rfl
          rw [this]; exact hp
        refine ⟨hs''.extBut _ _ ?_ (N₂ p hp').1, (N₂ p hp').2⟩
        rcases List.mem_cons.mp hp with rfl | hp
        · exact hDC
        · exact (off3 p hp).2.1
    · rcases List.mem_cons.mp hp with rfl | hp
      · exact ⟨hacc, hDL, hD₀⟩
      · exact ⟨old _ _ (N1 p hp).1, (N1 p hp).2⟩
  exact compStart_set (loop _ rfl) (W.self 0 _ _ _ hst₁ (loop _ rfl))
end
end Mine

end
section
open PySem PySem.W PySem.Calls PyProof.Rows
open LCg (NsObj ns_obj Off3 Off1 fr_but news_but lst CompRest FinE FinA block_U CompEnd)
open LCt (CompRestT)
set_option Elab.async false
set_option maxRecDepth 100000
set_option maxHeartbeats 2000000
set_option linter.unusedVariables false
namespace Mine
noncomputable def SrcW (prog : Program) (w : World) (A : Around) (h₀ : Heap) (L : Addr) (m : Str → Option Value) (env : Env) (elt : Expr) (x : Str) (scope : Scope) (cl : List (Str × Addr)) (Fin : Shared → List Value → List (Addr × Obj) → Prop) (it : Value) (s₂ : Shared) : Prop :=
  ∃ I fp n P St S news, it = .ref I ∧ Walks prog w A I fp [I] n P St ∧ n ≤ sizeLine ∧ (∀ i h, St i h → ∃ o, h.get? I = some o) ∧
    (∀ i h h' o nw, St i h → h.get? I = some o → h'.get? I = some o → (∀ b o, h₀.get? b = some o → h'.get? b = some o) → News h₀ L h' nw → S nw → St i h') ∧ St 0 s₂.heap ∧ (∀ b ∈ fp, b < s₂.heap.objs.size) ∧
    Fr h₀ L s₂.heap m ∧ News h₀ L s₂.heap news ∧ L ≠ I ∧ h₀.get? I = none ∧ (∀ p ∈ news, p.1 ≠ I) ∧ S news ∧ CompRest prog w A h₀ L m env elt x scope cl s₂ S P (Fin s₂) n 0 [] news
section
variable {prog : Program} {w : World} {A : Around} {E : Value → Shared → Prop} {s : Shared} {h₀ : Heap} {L : Addr} {m : Str → Option Value} {env : Env}
theorem srcW_tuple {elt : Expr} {x : Str} {scope : Scope} {cl : List (Str × Addr)} {Fin : Shared → List Value → List (Addr × Obj) → Prop} {t : Addr} {items : Array Value} {c : Nat} {news : List (Addr × Obj)}
    (hh : A.handled = none) (F : Fr h₀ L s.heap m) (N : News h₀ L s.heap news) (hm : (t, ({ cls := .type "tuple", data := .seq items c } : Obj)) ∈ news) (hsz : items.size ≤ sizeLine)
    (h : ∀ g, CompRest prog w A h₀ L m env elt x scope cl { s with heap := g } (fun nw => (t, ({ cls := .type "tuple", data := .seq items c } : Obj)) ∈ nw) (fun i v => items[i]? = some v) (Fin { s with heap := g }) items.size 0 [] news) :
    wpAny (model prog w) A (pyIter (.ref t)) (SrcW prog w A h₀ L m env elt x scope cl Fin) E s := by
  have hl : s.heap.IsTuple t items := isTup_of N hm
  have hlt : t < s.heap.objs.size := Heap.lt_size (N _ hm).1
  refine wpAny_pyIter_tuple hl ?_
  have up : ∀ b o, s.heap.get? b = some o → (s.heap.push { cls := .type "tuple_iterator", data := .fields #[.ref t, .int 0 0] }).get? b = some o := fun b o e => Heap.get?_push_of_some _ e
  refine ⟨s.heap.objs.size, _, _, _, _, _, news, rfl, Walks.tuple hh s.heap.objs.size t (Nat.ne_of_lt hlt) items, hsz, fun i h st => ?_, ?_, ⟨⟨_, Heap.get?_push_size _ rfl, rfl, rfl⟩, hl.push _⟩, fun b hb => ?_, F.keeps up, N.grown up, Nat.ne_of_lt F.ns.lt, next_is_new F, fun p hp => Nat.ne_of_lt (Heap.lt_size (N p hp).1), hm, h _⟩
  · obtain ⟨o, e, _⟩ := st.1; exact ⟨o, e⟩
  · rintro i h h' o nw st e e' k N' S
    exact ⟨by obtain ⟨o', q, r⟩ := st.1; rw [e] at q; cases q; exact ⟨o, e', r⟩, isTup_of N' S⟩
  · show b < (s.heap.push _).objs.size
    rw [Heap.size_push]
    rcases List.mem_cons.mp hb with rfl | hb
    · exact Nat.lt_succ_self _
    · rw [List.mem_singleton.mp hb]; exact Nat.lt_succ_of_lt hlt
theorem ListComp_W {elt iter : Expr} {x : Str} {px : Pos} {scope : Scope} {cl : List (Str × Addr)} {pos : Pos} {Q : Value → Shared → Prop} (F₀ : Fr h₀ L s.heap m)
    (hclos : closureFor scope env = pure cl) (hcell : ∀ y ∈ scope.names, y.2 ≠ .cell) (hkind : scope.kind = .function)
    (hnames : ∀ y ∈ scope.names, y.2 = .local → scope.names.lookup y.1 = some .local) (hx : scope.names.lookup x = some .local)
    (h : wpAny (model prog w) A (eval iter env) (fun xv s₁ => wpAny (model prog w) A (pyIter xv) (SrcW prog w A h₀ L m env elt x scope cl (fun s₂ => FinE h₀ L m s₂ Q)) E s₁) E s)
    (hs : ∀ x, foldedSetIterable iter env x = pure x := by intro _; rfl) :
    wpAny (model prog w) A (eval (.ListComp elt [⟨.Name x px, iter, [], 0⟩] scope pos) env) Q E s := by
  rw [eval_ListComp]
  refine wpAny_comprehension_free (use := none) rfl hs hclos hkind hnames (wpAny_mono h (fun xv s₁ h₁ => wpAny_mono h₁ (fun it s₂ h₂ => ?_) fun _ _ e => e) fun _ _ e => e)
  obtain ⟨I, fp, n, P, St, S, news, rfl, W, hsz, hIo, hSt, hst, hfp, F, N, hIL, hI₀, off, hS, R⟩ := h₂
  refine block_U W hsz hIo hSt hcell hkind hx hst hfp F N hIL hI₀ off hS R ?_
  intro D C h tk m' ys news' F' N' o1 hn hC₀ hD₀ hCL hDL hCD offC fin
  refine ⟨m', hn, fun h'' hs'' => fin D h'' tk (F'.change hs'' hCL hC₀) (fun p hp => ?_) o1⟩
  refine ⟨hs''.extBut _ _ ?_ (N' p hp).1, (N' p hp).2⟩
  rcases List.mem_cons.mp hp with rfl | hp
  · exact Ne.symm hCD
  · exact offC p hp
theorem Assign_ListComp_W {elt iter : Expr} {x y : Str} {px py : Pos} {scope : Scope} {cl : List (Str × Addr)} {pos spos : Pos} {Q : Flow → Shared → Prop} (F₀ : Fr h₀ L s.heap m) (hLe : env.locals = L)
    (hsw : swapsWith (.ListComp elt [⟨.Name x px, iter, [], 0⟩] scope pos) (some (.Name y py)) spos.line env = pure true)
    (hclos : closureFor scope env = pure cl) (hcell : ∀ z ∈ scope.names, z.2 ≠ .cell) (hkind : scope.kind = .function)
    (hnames : ∀ z ∈ scope.names, z.2 = .local → scope.names.lookup z.1 = some .local) (hx : scope.names.lookup x = some .local)
    (hy : env.kindOf y = some .local) (hp : (env.scope.kind == .class || (env.scope.kind == .module && env.locals != env.globals)) = false)
    (h : wpAny (model prog w) A (eval iter env) (fun xv s₁ => wpAny (model prog w) A (pyIter xv) (SrcW prog w A h₀ L m env elt x scope cl (fun s₂ => FinA h₀ L m s₂ y Q)) E s₁) E s)
    (hs : ∀ x, foldedSetIterable iter env x = pure x := by intro _; rfl) :
    wpAny (model prog w) A (exec (.Assign [.Name y py] (.ListComp elt [⟨.Name x px, iter, [], 0⟩] scope pos) spos) env) Q E s := by
  subst hLe
  rw [exec_Assign_Name_used _ _ _ _ hsw]
  refine wpAny_bind (wpAny_standAt (wpAny_bind ?_))
  show wpAny _ A (do let _ ← comprehension (.ListComp elt [⟨.Name x px, iter, [], 0⟩] scope pos) scope env _ (newList []) false (eval iter env) (some (assign (.Name y py) env))) _ _ s
  refine wpAny_bind (wpAny_mono (wpAny_comprehension_free (use := some (assign (.Name y py) env)) (Q := fun _ s' => Q .next s') rfl hs hclos hkind hnames
    (wpAny_mono h (fun xv s₁ h₁ => wpAny_mono h₁ (fun it s₂ h₂ => ?_) fun _ _ e => e) fun _ _ e => e)) (fun _ s' hq => wpAny_pure (wpAny_pure hq)) fun _ _ e => e)
  obtain ⟨I, fp, n, P, St, S, news, rfl, W, hsz, hIo, hSt, hst, hfp, F, N, hIL, hI₀, off, hS, R⟩ := h₂
  refine block_U W hsz hIo hSt hcell hkind hx hst hfp F N hIL hI₀ off hS R ?_
  intro D C h' tk m' ys news' F' N' o1 hn hC₀ hD₀ hCL hDL hCD offC fin
  show wpAny _ A (assign (.Name y py) env (.ref D)) _ _ _
  refine wpAny_assign_Name (wpAny_storeName_local hy F'.ns (fun h₂ hn₂ hs₂ => ?_) hp)
  have hL₀ : h₀.get? env.locals = none := Heap.get?_none_of_le F'.above
  have F₂ : Fr h₀ env.locals h₂ (fun z => if z = y then some (.ref D) else m z) := ⟨hn₂, fun b o e => hs₂.extBut b o (fun q => by rw [q, hL₀] at e; cases e) (F'.keep b o e), F'.above⟩
  refine ⟨m', hn.sameBut hs₂ hCL, fun h'' hs'' => fin D h'' _ (F₂.change hs'' hCL hC₀) (fun p hp => ?_) o1⟩
  have z : h₂.get? p.1 = some p.2 := hs₂.extBut _ _ (N' p hp).2.1 (N' p hp).1
  refine ⟨hs''.extBut _ _ ?_ z, (N' p hp).2⟩
  rcases List.mem_cons.mp hp with rfl | hp
  · exact Ne.symm hCD
  · exact offC p hp
theorem comp_invT {ct elt : Expr} {x : Str} {scope : Scope} {cl : List (Str × Addr)} {S : List (Addr × Obj) → Prop} {P : Nat → Value → Prop} {Fin : List Value → List (Addr × Obj) → Prop} {n : Nat} (J : Nat → List Value → List (Addr × Obj) → Prop)
    (step : ∀ i v ys news I oI C oC D m₂ h tk (E' : Value → Shared → Prop), i < n → P i v → J i ys news → NsObj oC m₂ → m₂ x = some v → Fr h₀ L h m → News h₀ L h ((I, oI) :: (C, oC) :: (D, lst ys) :: news) → Off3 I C D news → ((@Ne Nat I C) ∧ (@Ne Nat I D) ∧ (@Ne Nat C D)) →
      wpAny (model prog w) A (isTrue ct (compEnvC scope cl C env) (eval ct (compEnvC scope cl C env))) (fun ok s' => if ok = true then
        wpAny (model prog w) A (eval elt (compEnvC scope cl C env)) (CompEnd h₀ L m { s with heap := h, toks := tk } I oI C oC D (lst ys) S (fun y news' => J (i + 1) (ys ++ [y]) news')) E' s'
        else CompEnd h₀ L m { s with heap := h, toks := tk } I oI C oC D (lst ys) S (fun _ news' => J (i + 1) ys news') Value.none s') E' { s with heap := h, toks := tk })
    (fin : ∀ ys news, J n ys news → Fin ys news) : ∀ k i ys news, i + k = n → J i ys news → CompRestT prog w A h₀ L m env ct elt x scope cl s S P Fin k i ys news
  | 0, i, ys, news, hk, hJ => by
    have : i = n := by omega
    subst this
    exact LCt.CompRestT.zero (fin ys news hJ)
  | k + 1, i, ys, news, hk, hJ => LCt.CompRestT.succ fun v I oI C oC D m₂ h tk E' hP hC hx F N off ne =>
    wpAny_mono (step i v ys news I oI C oC D m₂ h tk E' (by omega) hP hJ hC hx F N off ne) (fun ok s' he => by
      cases ok with
      | true =>
        simp only [if_true] at he ⊢
        refine wpAny_mono he (fun y s'' hy => ?_) fun _ _ q => q
        obtain ⟨h', tk', news', e, F', N', off', hS, hJ'⟩ := hy
        exact ⟨h', tk', news', e, F', N', off', hS, comp_invT J step fin k (i + 1) (ys ++ [y]) news' (by omega) hJ'⟩
      | false =>
        simp only [Bool.false_eq_true, if_false] at he ⊢
        obtain ⟨h', tk', news', e, F', N', off', hS, hJ'⟩ := he
        exact ⟨h', tk', news', e, F', N', off', hS, comp_invT J step fin k (i + 1) ys news' (by omega) hJ'⟩) fun _ _ q => q
end
end Mine

end
section
open PySem PySem.W PySem.Calls PyProof.Rows
open AutoSeq1 (wpAny_loadPart')
open MeetsSeq MeetsSeq2 MeetsSeq3
set_option Elab.async false
set_option maxRecDepth 100000
set_option maxHeartbeats 2000000
set_option linter.unusedVariables false
namespace Mine
def ltL : List Str → List Str → Bool
  | [], [] => false
  | [], _ :: _ => true
  | _ :: _, [] => false
  | a :: x, b :: y => if a = b then ltL x y else decide (a.cps.toList < b.cps.toList)
theorem ltL_end {xs ys : List Str} {i : Nat} (h1 : i ≤ xs.length) (h2 : i ≤ ys.length) (h : i = xs.length ∨ i = ys.length) : ltL (xs.drop i) (ys.drop i) = decide (xs.length < ys.length) := by
  rcases h with rfl | rfl
  · rw [List.drop_of_length_le (Nat.le_refl _)]
    rcases Nat.lt_or_ge xs.length ys.length with h | h
    · rw [List.drop_eq_getElem_cons h, decide_eq_true h]; rfl
    · rw [List.drop_of_length_le h, decide_eq_false (by omega)]; rfl
  · rw [List.drop_of_length_le (Nat.le_refl ys.length), decide_eq_false (by omega)]
    rcases xs.drop ys.length with _ | _ <;> rfl

theorem lt_loop (l b : Addr) (xs ys : List Str) (vs us : List Value) (n n2 : Nat) (hv : StrsAre vs xs) (hu : StrsAre us ys) (k : Nat) :
    ∀ i : Nat, xs.length - i = k → i ≤ xs.length → i ≤ ys.length → Meets (Builtin.«list.__eq__.loop» ⟨[.ref l, .ref b, rawInt i, rawInt 0], []⟩)
      (fun A R s => s.heap.get? l = some { cls := .type "list", data := .seq vs.toArray n } ∧ s.heap.get? b = some { cls := .type "list", data := .seq us.toArray n2 } ∧
        R (.ok (.ret (.bool (ltL (xs.drop i) (ys.drop i))))) s) := by
  have z1 : vs.toArray.size = xs.length := by rw [List.size_toArray]; exact hv.len_eq
  have z2 : us.toArray.size = ys.length := by rw [List.size_toArray]; exact hu.len_eq
  induction k with
  | zero =>
    intro i hk h1 h2 prog w A R s h
    obtain ⟨hp, g, d, tk, os⟩ := s; obtain ⟨hl, hb, h⟩ := h
    wp_walk using wpAny_loadPart' hl, wpAny_loadPart' hb
    have hi1 : vs.toArray[((i : Nat) : Int).toNat]? = none := by simp; have := hv.len_eq; omega
    rw [hi1]
    wp_walk using wpAny_loadPart' hl, wpAny_loadPart' hb
    show R (.ok (.ret (.bool (decide (vs.toArray.size < us.toArray.size))))) _
    rw [z1, z2]
    rw [ltL_end h1 h2 (.inl (by omega))] at h
    exact h
  | succ k ih =>
    intro i hk h1 h2 prog w A R s h
    obtain ⟨hp, g, d, tk, os⟩ := s; obtain ⟨hl, hb, h⟩ := h
    wp_walk using wpAny_loadPart' hl, wpAny_loadPart' hb
    have hlt : i < xs.length := by omega
    obtain ⟨t, ht⟩ := hv.at (List.getElem?_eq_getElem hlt)
    have hi1 : vs.toArray[((i : Nat) : Int).toNat]? = some (.str xs[i] t) := by simpa using ht
    rw [hi1]
    rcases Nat.lt_or_ge i ys.length with hlt2 | hge
    · obtain ⟨u, hu'⟩ := hu.at (List.getElem?_eq_getElem hlt2)
      have hi2 : us.toArray[((i : Nat) : Int).toNat]? = some (.str ys[i] u) := by simpa using hu'
      rw [hi2]
      have hc : ((i : Int) + 1) = ((i + 1 : Nat) : Int) := by push_cast; rfl
      rw [List.drop_eq_getElem_cons hlt, List.drop_eq_getElem_cons hlt2] at h
      refine wpAny_bind (wpAny_eqBool_str ?_)
      by_cases e : xs[i] = ys[i]
      · rw [decide_eq_true e]
        wp_walk
        rw [hc]
        exact ⟨plainId_quiet plain_eq_loop _, codeAny_builtin entry_eq_loop (by
          rw [Around.under_plainId plain_eq_loop _]
          refine ih (i + 1) (by omega) hlt hlt2 prog w A R _ ⟨hl, hb, ?_⟩
          unfold ltL at h; rw [if_pos e] at h; exact h)⟩
      · rw [decide_eq_false e]
        wp_walk using wpAny_loadPart' hl, wpAny_loadPart' hb
        rw [hi1, hi2]
        refine wpAny_bind (richCompare_gives (op := .Lt) (typeIs_str _ _ t) (typeIs_str _ _ u) F.slot_str_lt F.entry_str_lt (F.args_str_lt_2 _ _) (gives_str_lt _ _ t u) (fun e => nomatch e) ?_)
        refine wpAny_pure ?_
        unfold ltL at h; rw [if_neg e] at h; exact h
    · have hi2 : us.toArray[((i : Nat) : Int).toNat]? = none := by simp; have := hu.len_eq; omega
      rw [hi2]
      wp_walk using wpAny_loadPart' hl, wpAny_loadPart' hb
      show R (.ok (.ret (.bool (decide (vs.toArray.size < us.toArray.size))))) _
      rw [z1, z2]
      rw [ltL_end h1 h2 (.inr (by omega))] at h
      exact h
theorem list_lt (l b : Addr) (xs ys : List Str) (vs us : List Value) (n n2 : Nat) (hv : StrsAre vs xs) (hu : StrsAre us ys) :
    Meets (Builtin.«list.__lt__» ⟨[.ref l, .ref b], []⟩)
      (fun A R s => s.heap.get? l = some { cls := .type "list", data := .seq vs.toArray n } ∧ s.heap.get? b = some { cls := .type "list", data := .seq us.toArray n2 } ∧
        R (.ok (.ret (.bool (ltL xs ys)))) s) := by
  intro prog w A R s h
  obtain ⟨hp, g, d, tk, os⟩ := s; obtain ⟨hl, hb, h⟩ := h
  have f3 := AutoSeq1.sub_list_list
  wp_walk using wpAny_loadPart' hl, wpAny_loadPart' hb
  exact ⟨plainId_quiet plain_eq_loop _, codeAny_builtin entry_eq_loop (by
    rw [Around.under_plainId plain_eq_loop _]
    exact lt_loop l b xs ys vs us n n2 hv hu _ 0 rfl (Nat.zero_le _) (Nat.zero_le _) prog w A R _ ⟨hl, hb, by simpa using h⟩)⟩
theorem rich_lt {prog : Program} {w : World} {A : Around} {E : Value → Shared → Prop} {s : Shared} {Q : Value → Shared → Prop} {l b : Addr} {xs ys : List Str} {vs us : List Value} {n n2 : Nat} (hv : StrsAre vs xs) (hu : StrsAre us ys)
    (hl : s.heap.get? l = some { cls := .type "list", data := .seq vs.toArray n }) (hb : s.heap.get? b = some { cls := .type "list", data := .seq us.toArray n2 }) (hc : A.units < cLine)
    (h : Q (.bool (ltL xs ys)) s) : wpAny (model prog w) A (richCompare .Lt (.ref l) (.ref b)) Q E s :=
  wpAny_richCompare_same_room ⟨_, hl, rfl⟩ ⟨_, hb, rfl⟩ F.slot_list_lt (call_meets F.slot_list_lt ⟨_, hl, rfl⟩ F.entry_list_lt (F.args_list_lt_2 _ _) (list_lt l b xs ys vs us n n2 hv hu) ⟨hl, hb, (show _ ∧ _ from ⟨(fun e => by cases e), h⟩)⟩) hc

theorem gt_loop (l b : Addr) (xs ys : List Str) (vs us : List Value) (n n2 : Nat) (hv : StrsAre vs xs) (hu : StrsAre us ys) (k : Nat) :
    ∀ i : Nat, xs.length - i = k → i ≤ xs.length → i ≤ ys.length → Meets (Builtin.«list.__eq__.loop» ⟨[.ref l, .ref b, rawInt i, rawInt 4], []⟩)
      (fun A R s => s.heap.get? l = some { cls := .type "list", data := .seq vs.toArray n } ∧ s.heap.get? b = some { cls := .type "list", data := .seq us.toArray n2 } ∧
        R (.ok (.ret (.bool (ltL (ys.drop i) (xs.drop i))))) s) := by
  have z1 : vs.toArray.size = xs.length := by rw [List.size_toArray]; exact hv.len_eq
  have z2 : us.toArray.size = ys.length := by rw [List.size_toArray]; exact hu.len_eq
  induction k with
  | zero =>
    intro i hk h1 h2 prog w A R s h
    obtain ⟨hp, g, d, tk, os⟩ := s; obtain ⟨hl, hb, h⟩ := h
    wp_walk using wpAny_loadPart' hl, wpAny_loadPart' hb
    have hi1 : vs.toArray[((i : Nat) : Int).toNat]? = none := by simp; have := hv.len_eq; omega
    rw [hi1]
    wp_walk using wpAny_loadPart' hl, wpAny_loadPart' hb
    show R (.ok (.ret (.bool (decide (vs.toArray.size > us.toArray.size))))) _
    rw [z1, z2]
    rw [ltL_end h2 h1 (.inr (by omega))] at h
    exact h
  | succ k ih =>
    intro i hk h1 h2 prog w A R s h
    obtain ⟨hp, g, d, tk, os⟩ := s; obtain ⟨hl, hb, h⟩ := h
    wp_walk using wpAny_loadPart' hl, wpAny_loadPart' hb
    have hlt : i < xs.length := by omega
    obtain ⟨t, ht⟩ := hv.at (List.getElem?_eq_getElem hlt)
    have hi1 : vs.toArray[((i : Nat) : Int).toNat]? = some (.str xs[i] t) := by simpa using ht
    rw [hi1]
    rcases Nat.lt_or_ge i ys.length with hlt2 | hge
    · obtain ⟨u, hu'⟩ := hu.at (List.getElem?_eq_getElem hlt2)
      have hi2 : us.toArray[((i : Nat) : Int).toNat]? = some (.str ys[i] u) := by simpa using hu'
      rw [hi2]
      have hc : ((i : Int) + 1) = ((i + 1 : Nat) : Int) := by push_cast; rfl
      rw [List.drop_eq_getElem_cons hlt, List.drop_eq_getElem_cons hlt2] at h
      refine wpAny_bind (wpAny_eqBool_str ?_)
      by_cases e : xs[i] = ys[i]
      · rw [decide_eq_true e]
        wp_walk
        rw [hc]
        exact ⟨plainId_quiet plain_eq_loop _, codeAny_builtin entry_eq_loop (by
          rw [Around.under_plainId plain_eq_loop _]
          refine ih (i + 1) (by omega) hlt hlt2 prog w A R _ ⟨hl, hb, ?_⟩
          unfold ltL at h; rw [if_pos e.symm] at h; exact h)⟩
      · rw [decide_eq_false e]
        wp_walk using wpAny_loadPart' hl, wpAny_loadPart' hb
        rw [hi1, hi2]
        refine wpAny_bind (richCompare_gives (op := .Gt) (typeIs_str _ _ t) (typeIs_str _ _ u) F.slot_str_gt F.entry_str_gt (F.args_str_gt_2 _ _) (gives_str_gt _ _ t u) (fun e => nomatch e) ?_)
        refine wpAny_pure ?_
        unfold ltL at h; rw [if_neg (fun q => e q.symm)] at h; exact h
    · have hi2 : us.toArray[((i : Nat) : Int).toNat]? = none := by simp; have := hu.len_eq; omega
      rw [hi2]
      wp_walk using wpAny_loadPart' hl, wpAny_loadPart' hb
      show R (.ok (.ret (.bool (decide (vs.toArray.size > us.toArray.size))))) _
      rw [z1, z2]
      rw [ltL_end h2 h1 (.inl (by omega))] at h
      exact h
theorem list_gt (l b : Addr) (xs ys : List Str) (vs us : List Value) (n n2 : Nat) (hv : StrsAre vs xs) (hu : StrsAre us ys) :
    Meets (Builtin.«list.__gt__» ⟨[.ref l, .ref b], []⟩)
      (fun A R s => s.heap.get? l = some { cls := .type "list", data := .seq vs.toArray n } ∧ s.heap.get? b = some { cls := .type "list", data := .seq us.toArray n2 } ∧
        R (.ok (.ret (.bool (ltL ys xs)))) s) := by
  intro prog w A R s h
  obtain ⟨hp, g, d, tk, os⟩ := s; obtain ⟨hl, hb, h⟩ := h
  have f3 := AutoSeq1.sub_list_list
  wp_walk using wpAny_loadPart' hl, wpAny_loadPart' hb
  exact ⟨plainId_quiet plain_eq_loop _, codeAny_builtin entry_eq_loop (by
    rw [Around.under_plainId plain_eq_loop _]
    exact gt_loop l b xs ys vs us n n2 hv hu _ 0 rfl (Nat.zero_le _) (Nat.zero_le _) prog w A R _ ⟨hl, hb, by simpa using h⟩)⟩
theorem rich_gt {prog : Program} {w : World} {A : Around} {E : Value → Shared → Prop} {s : Shared} {Q : Value → Shared → Prop} {l b : Addr} {xs ys : List Str} {vs us : List Value} {n n2 : Nat} (hv : StrsAre vs xs) (hu : StrsAre us ys)
    (hl : s.heap.get? l = some { cls := .type "list", data := .seq vs.toArray n }) (hb : s.heap.get? b = some { cls := .type "list", data := .seq us.toArray n2 }) (hc : A.units < cLine)
    (h : Q (.bool (ltL ys xs)) s) : wpAny (model prog w) A (richCompare .Gt (.ref l) (.ref b)) Q E s :=
  wpAny_richCompare_same_room ⟨_, hl, rfl⟩ ⟨_, hb, rfl⟩ F.slot_list_gt (call_meets F.slot_list_gt ⟨_, hl, rfl⟩ F.entry_list_gt (F.args_list_gt_2 _ _) (list_gt l b xs ys vs us n n2 hv hu) ⟨hl, hb, (show _ ∧ _ from ⟨(fun e => by cases e), h⟩)⟩) hc
end Mine

end
section
open PySem PySem.W PySem.Calls PyProof.Rows
set_option Elab.async false
set_option maxRecDepth 100000
set_option maxHeartbeats 2000000
set_option linter.unusedVariables false
namespace Mine
section
variable {prog : Program} {w : World} {A : Around} {E : Value → Shared → Prop} {s : Shared}

theorem min_two {l : Addr} {va vb : Value} {c : Bool} {Q : Value → Shared → Prop} (hh : A.handled = none) (hl : s.heap.IsList l #[va, vb])
    (hcmp : ∀ (s' : Shared) (Q' : Value → Shared → Prop) (E' : Value → Shared → Prop), Ext s.heap s'.heap → Q' (.bool c) s' → wpAny (model prog w) A.in1 (richCompare .Lt vb va) Q' E' s')
    (h : ∀ h' tk, Ext s.heap h' → Q (if c then vb else va) { s with heap := h', toks := tk }) : wpAny (model prog w) A (call (.builtin "min") [.ref l]) Q E s := by
  have hname : (toString "min" ++ toString ".loop" : String) = "min.loop" := by decide
  refine call_function_tree F.kind_min F.plain_min F.entry_min (F.args_min1 _) ?_
  show wpAny _ A.in1 (Builtin.Builtins.bindParams "min" ["key", "default"] 0 ⟨[], []⟩ >>= _) _ _ s
  refine wpAny_bind (wpAny_of_eq (show Builtin.Builtins.bindParams "min" ["key", "default"] 0 ⟨[], []⟩ = pure [none, none] from rfl) ?_)
  refine wpAny_bind (wpAny_pure ?_)
  have hlt : l < s.heap.objs.size := by obtain ⟨o, e, _⟩ := hl; exact Heap.lt_size e
  refine wpAny_bind (wpAny_pyIter_list hl ?_)
  have W := Walks.list (prog := prog) (w := w) (A := A.in1) hh s.heap.objs.size l (Nat.ne_of_lt hlt) #[va, vb]
  refine wpAny_bind (wpAny_newObj_type ?_)
  have hz : (s.heap.push { cls := .type "list_iterator", data := .fields #[.ref l, .int 0 0] }).objs.size = s.heap.objs.size + 1 := Heap.size_push ..
  have kk : Ext s.heap ((s.heap.push { cls := .type "list_iterator", data := .fields #[.ref l, .int 0 0] }).push { cls := .type "list", data := .seq ([] : List Value).toArray }) := fun b o e => Heap.get?_push_of_some _ (Heap.get?_push_of_some _ e)
  have hS : ((s.heap.push { cls := .type "list_iterator", data := .fields #[.ref l, .int 0 0] }).push { cls := .type "list", data := .seq ([] : List Value).toArray }).get? (s.heap.objs.size + 1) = some { cls := .type "list", dict := none, data := .seq #[] 0, slots := #[] } := by
    have := Heap.get?_push_size (s.heap.push { cls := .type "list_iterator", data := .fields #[.ref l, .int 0 0] }) (o := { cls := .type "list", data := .seq ([] : List Value).toArray }) rfl
    rw [hz] at this; exact this
  have st0 : ((s.heap.push { cls := .type "list_iterator", data := .fields #[.ref l, .int 0 0] }).push { cls := .type "list", data := .seq ([] : List Value).toArray }).IsListIter s.heap.objs.size l 0 ∧ ((s.heap.push { cls := .type "list_iterator", data := .fields #[.ref l, .int 0 0] }).push { cls := .type "list", data := .seq ([] : List Value).toArray }).IsList l #[va, vb] :=
    ⟨⟨_, Heap.get?_push_of_some _ (Heap.get?_push_size _ rfl), rfl, rfl⟩, hl.at fun o e => kk l o e⟩
  dsimp only
  rw [hz, hname]
  generalize hH : (s.heap.push { cls := .type "list_iterator", data := .fields #[.ref l, .int 0 0] }).push { cls := .type "list", data := .seq ([] : List Value).toArray } = H at *
  generalize hI : s.heap.objs.size = I at *
  have nI : ∀ b o, s.heap.get? b = some o → b ≠ I := fun b o e => hI ▸ Nat.ne_of_lt (Heap.lt_size e)
  have nS : ∀ b o, s.heap.get? b = some o → b ≠ I + 1 := fun b o e => Nat.ne_of_lt (Nat.lt_succ_of_lt (hI ▸ Heap.lt_size e))
  have nw : ∀ b, b ∉ [I] → b ≠ I := fun b hb e => hb (e ▸ List.mem_singleton.mpr rfl)
  have hSI : I + 1 ∉ [I] := fun e => Nat.succ_ne_self I (List.mem_singleton.mp e)
  -- first turn
  refine wpAny_pure ⟨plainId_quiet F.plain_min_loop _, codeAny_builtin F.entry_min_loop ?_⟩
  rw [Around.under_plainId F.plain_min_loop _]
  show wpAny _ A.in1 (seqItems? (.ref (I + 1)) >>= _) _ _ _
  refine wpAny_bind (wpAny_seqItems hS rfl ?_)
  show wpAny _ A.in1 (tryCatch (pyNext (.ref I)) _ >>= _) _ _ _
  refine wpAny_bind (wpAny_tryCatch (W.item 0 { s with heap := H } _ _ (by simp) st0 fun v h1 tk1 hv st1 k1 => ?_))
  have hv' : va = v := Option.some.inj hv
  subst hv'
  have hS1 := k1 _ _ hSI hS
  show wpAny _ A.in1 (updateSeq (I + 1) (fun _ => #[va, va]) >>= _) _ _ _
  refine wpAny_bind ?_
  refine wpAny_updateSeq hS1 rfl ?_
  have hS2 : (h1.update (I + 1) (Obj.mapSeq fun _ => #[va, va])).get? (I + 1) = some { cls := .type "list", dict := none, data := .seq #[va, va] 1, slots := #[] } := Heap.get?_update_self _ hS1 rfl
  have o2 : ∀ b o, b ≠ I + 1 → h1.get? b = some o → (h1.update (I + 1) (Obj.mapSeq fun _ => #[va, va])).get? b = some o := fun b o hb e => (Heap.get?_update_other _ _ (Ne.symm hb)).trans e
  have st2 := W.frame _ _ (h1.update (I + 1) (Obj.mapSeq fun _ => #[va, va])) st1 fun b hb o e => o2 b o (fun q => by
    rcases List.mem_cons.mp hb with rfl | hb
    · exact Nat.succ_ne_self _ q.symm
    · rw [List.mem_singleton.mp hb] at q; exact Nat.ne_of_lt (Nat.lt_succ_of_lt hlt) q) e
  generalize h1.update (I + 1) (Obj.mapSeq fun _ => #[va, va]) = h2 at *
  rw [hname]
  refine wpAny_pure ⟨plainId_quiet F.plain_min_loop _, codeAny_builtin F.entry_min_loop ?_⟩
  rw [Around.under_plainId F.plain_min_loop _]
  show wpAny _ A.in1 (seqItems? (.ref (I + 1)) >>= _) _ _ _
  refine wpAny_bind (wpAny_seqItems hS2 rfl ?_)
  show wpAny _ A.in1 (tryCatch (pyNext (.ref I)) _ >>= _) _ _ _
  refine wpAny_bind (wpAny_tryCatch (W.item 1 { s with heap := h2, toks := tk1 } _ _ (by simp) st2 fun v h3 tk3 hv st3 k3 => ?_))
  have hv' : vb = v := Option.some.inj hv
  subst hv'
  have hS3 := k3 _ _ hSI hS2
  have e3 : Ext s.heap h3 := fun b o e => k3 b o (fun q => nI b o e (List.mem_singleton.mp q)) (o2 b o (nS b o e) (k1 b o (fun q => nI b o e (List.mem_singleton.mp q)) (kk b o e)))
  show wpAny _ A.in1 (tryCatch (holding [vb, vb] (richCompare .Lt vb va >>= _)) _ >>= _) _ _ _
  refine wpAny_bind (wpAny_tryCatch (wpAny_holding (wpAny_bind (hcmp { s with heap := h3, toks := tk3 } _ _ e3 ?_))))
  refine wpAny_bind (wpAny_holding (wpAny_truthy_bool ?_))
  refine wpAny_bind (wpAny_letGo (wpAny_pure ?_))
  have last : ∀ (x : Value) (h4 : Heap) (n4 : Nat), h4.get? (I + 1) = some { cls := .type "list", dict := none, data := .seq #[x, x] n4, slots := #[] } → (∀ b o, b ≠ I + 1 → h3.get? b = some o → h4.get? b = some o) → x = (if c then vb else va) →
      ∀ P, (∀ h' tk, Ext s.heap h' → P (.ok (.ret (if c then vb else va))) { s with heap := h', toks := tk }) → codeAny (model prog w) A (.builtin "min.loop" ⟨[.ref I, .none, .ref (I + 1)], []⟩) P { s with heap := h4, toks := tk3 } := by
    intro x h4 n4 hS4 o4 hx P hP
    have st4 := W.frame _ _ h4 st3 fun b hb o e => o4 b o (fun q => by
      rcases List.mem_cons.mp hb with rfl | hb
      · exact Nat.succ_ne_self _ q.symm
      · rw [List.mem_singleton.mp hb] at q; exact Nat.ne_of_lt (Nat.lt_succ_of_lt hlt) q) e
    refine codeAny_builtin F.entry_min_loop ?_
    rw [Around.under_plainId F.plain_min_loop _]
    show wpAny _ A.in1 (seqItems? (.ref (I + 1)) >>= _) _ _ _
    refine wpAny_bind (wpAny_seqItems hS4 rfl ?_)
    show wpAny _ A.in1 (tryCatch (pyNext (.ref I)) _ >>= _) _ _ _
    refine wpAny_bind (wpAny_tryCatch (W.done { s with heap := h4, toks := tk3 } _ _ st4 fun h5 tk5 k5 => ?_))
    have hS5 := k5 _ _ hSI hS4
    show wpAny _ A.in1 (updateSeq (I + 1) (fun _ => #[]) >>= _) _ _ _
    refine wpAny_bind ?_
    refine wpAny_updateSeq hS5 rfl (wpAny_bind (wpAny_letGo (wpAny_pure ?_)))
    rw [hx]
    exact hP _ tk5 fun b o e => (Heap.get?_update_other _ _ (Ne.symm (nS b o e))).trans (k5 b o (fun q => nI b o e (List.mem_singleton.mp q)) (o4 b o (nS b o e) (e3 b o e)))
  cases hb : c with
  | true =>
    simp only [if_true]
    refine wpAny_bind ?_
    refine wpAny_updateSeq hS3 rfl (wpAny_bind (wpAny_letGo ?_))
    rw [hname]
    refine wpAny_pure ⟨plainId_quiet F.plain_min_loop _, last vb _ _ (Heap.get?_update_self _ hS3 rfl) (fun b o hb e => (Heap.get?_update_other _ _ (Ne.symm hb)).trans e) (by rw [hb]; rfl) _ fun h' tk e => ?_⟩
    exact h h' tk e
  | false =>
    simp only [Bool.false_eq_true, if_false]
    refine wpAny_bind (wpAny_letGo ?_)
    rw [hname]
    refine wpAny_pure ⟨plainId_quiet F.plain_min_loop _, last va _ _ hS3 (fun b o hb e => e) (by rw [hb]; rfl) _ fun h' tk e => ?_⟩
    exact h h' tk e

theorem max_two {l : Addr} {va vb : Value} {c : Bool} {Q : Value → Shared → Prop} (hh : A.handled = none) (hl : s.heap.IsList l #[va, vb])
    (hcmp : ∀ (s' : Shared) (Q' : Value → Shared → Prop) (E' : Value → Shared → Prop), Ext s.heap s'.heap → Q' (.bool c) s' → wpAny (model prog w) A.in1 (richCompare .Gt vb va) Q' E' s')
    (h : ∀ h' tk, Ext s.heap h' → Q (if c then vb else va) { s with heap := h', toks := tk }) : wpAny (model prog w) A (call (.builtin "max") [.ref l]) Q E s := by
  have hname : (toString "max" ++ toString ".loop" : String) = "max.loop" := by decide
  refine call_function_tree F.kind_max F.plain_max F.entry_max (F.args_max1 _) ?_
  show wpAny _ A.in1 (Builtin.Builtins.bindParams "max" ["key", "default"] 0 ⟨[], []⟩ >>= _) _ _ s
  refine wpAny_bind (wpAny_of_eq (show Builtin.Builtins.bindParams "max" ["key", "default"] 0 ⟨[], []⟩ = pure [none, none] from rfl) ?_)
  refine wpAny_bind (wpAny_pure ?_)
  have hlt : l < s.heap.objs.size := by obtain ⟨o, e, _⟩ := hl; exact Heap.lt_size e
  refine wpAny_bind (wpAny_pyIter_list hl ?_)
  have W := Walks.list (prog := prog) (w := w) (A := A.in1) hh s.heap.objs.size l (Nat.ne_of_lt hlt) #[va, vb]
  refine wpAny_bind (wpAny_newObj_type ?_)
  have hz : (s.heap.push { cls := .type "list_iterator", data := .fields #[.ref l, .int 0 0] }).objs.size = s.heap.objs.size + 1 := Heap.size_push ..
  have kk : Ext s.heap ((s.heap.push { cls := .type "list_iterator", data := .fields #[.ref l, .int 0 0] }).push { cls := .type "list", data := .seq ([] : List Value).toArray }) := fun b o e => Heap.get?_push_of_some _ (Heap.get?_push_of_some _ e)
  have hS : ((s.heap.push { cls := .type "list_iterator", data := .fields #[.ref l, .int 0 0] }).push { cls := .type "list", data := .seq ([] : List Value).toArray }).get? (s.heap.objs.size + 1) = some { cls := .type "list", dict := none, data := .seq #[] 0, slots := #[] } := by
    have := Heap.get?_push_size (s.heap.push { cls := .type "list_iterator", data := .fields #[.ref l, .int 0 0] }) (o := { cls := .type "list", data := .seq ([] : List Value).toArray }) rfl
    rw [hz] at this; exact this
  have st0 : ((s.heap.push { cls := .type "list_iterator", data := .fields #[.ref l, .int 0 0] }).push { cls := .type "list", data := .seq ([] : List Value).toArray }).IsListIter s.heap.objs.size l 0 ∧ ((s.heap.push { cls := .type "list_iterator", data := .fields #[.ref l, .int 0 0] }).push { cls := .type "list", data := .seq ([] : List Value).toArray }).IsList l #[va, vb] :=
    ⟨⟨_, Heap.get?_push_of_some _ (Heap.get?_push_size _ rfl), rfl, rfl⟩, hl.at fun o e => kk l o e⟩
  dsimp only
  rw [hz, hname]
  generalize hH : (s.heap.push { cls := .type "list_iterator", data := .fields #[.ref l, .int 0 0] }).push { cls := .type "list", data := .seq ([] : List Value).toArray } = H at *
  generalize hI : s.heap.objs.size = I at *
  have nI : ∀ b o, s.heap.get? b = some o → b ≠ I := fun b o e => hI ▸ Nat.ne_of_lt (Heap.lt_size e)
  have nS : ∀ b o, s.heap.get? b = some o → b ≠ I + 1 := fun b o e => Nat.ne_of_lt (Nat.lt_succ_of_lt (hI ▸ Heap.lt_size e))
  have nw : ∀ b, b ∉ [I] → b ≠ I := fun b hb e => hb (e ▸ List.mem_singleton.mpr rfl)
  have hSI : I + 1 ∉ [I] := fun e => Nat.succ_ne_self I (List.mem_singleton.mp e)
  -- first turn
  refine wpAny_pure ⟨plainId_quiet F.plain_max_loop _, codeAny_builtin F.entry_max_loop ?_⟩
  rw [Around.under_plainId F.plain_max_loop _]
  show wpAny _ A.in1 (seqItems? (.ref (I + 1)) >>= _) _ _ _
  refine wpAny_bind (wpAny_seqItems hS rfl ?_)
  show wpAny _ A.in1 (tryCatch (pyNext (.ref I)) _ >>= _) _ _ _
  refine wpAny_bind (wpAny_tryCatch (W.item 0 { s with heap := H } _ _ (by simp) st0 fun v h1 tk1 hv st1 k1 => ?_))
  have hv' : va = v := Option.some.inj hv
  subst hv'
  have hS1 := k1 _ _ hSI hS
  show wpAny _ A.in1 (updateSeq (I + 1) (fun _ => #[va, va]) >>= _) _ _ _
  refine wpAny_bind ?_
  refine wpAny_updateSeq hS1 rfl ?_
  have hS2 : (h1.update (I + 1) (Obj.mapSeq fun _ => #[va, va])).get? (I + 1) = some { cls := .type "list", dict := none, data := .seq #[va, va] 1, slots := #[] } := Heap.get?_update_self _ hS1 rfl
  have o2 : ∀ b o, b ≠ I + 1 → h1.get? b = some o → (h1.update (I + 1) (Obj.mapSeq fun _ => #[va, va])).get? b = some o := fun b o hb e => (Heap.get?_update_other _ _ (Ne.symm hb)).trans e
  have st2 := W.frame _ _ (h1.update (I + 1) (Obj.mapSeq fun _ => #[va, va])) st1 fun b hb o e => o2 b o (fun q => by
    rcases List.mem_cons.mp hb with rfl | hb
    · exact Nat.succ_ne_self _ q.symm
    · rw [List.mem_singleton.mp hb] at q; exact Nat.ne_of_lt (Nat.lt_succ_of_lt hlt) q) e
  generalize h1.update (I + 1) (Obj.mapSeq fun _ => #[va, va]) = h2 at *
  rw [hname]
  refine wpAny_pure ⟨plainId_quiet F.plain_max_loop _, codeAny_builtin F.entry_max_loop ?_⟩
  rw [Around.under_plainId F.plain_max_loop _]
  show wpAny _ A.in1 (seqItems? (.ref (I + 1)) >>= _) _ _ _
  refine wpAny_bind (wpAny_seqItems hS2 rfl ?_)
  show wpAny _ A.in1 (tryCatch (pyNext (.ref I)) _ >>= _) _ _ _
  refine wpAny_bind (wpAny_tryCatch (W.item 1 { s with heap := h2, toks := tk1 } _ _ (by simp) st2 fun v h3 tk3 hv st3 k3 => ?_))
  have hv' : vb = v := Option.some.inj hv
  subst hv'
  have hS3 := k3 _ _ hSI hS2
  have e3 : Ext s.heap h3 := fun b o e => k3 b o (fun q => nI b o e (List.mem_singleton.mp q)) (o2 b o (nS b o e) (k1 b o (fun q => nI b o e (List.mem_singleton.mp q)) (kk b o e)))
  show wpAny _ A.in1 (tryCatch (holding [vb, vb] (richCompare .Gt vb va >>= _)) _ >>= _) _ _ _
  refine wpAny_bind (wpAny_tryCatch (wpAny_holding (wpAny_bind (hcmp { s with heap := h3, toks := tk3 } _ _ e3 ?_))))
  refine wpAny_bind (wpAny_holding (wpAny_truthy_bool ?_))
  refine wpAny_bind (wpAny_letGo (wpAny_pure ?_))
  have last : ∀ (x : Value) (h4 : Heap) (n4 : Nat), h4.get? (I + 1) = some { cls := .type "list", dict := none, data := .seq #[x, x] n4, slots := #[] } → (∀ b o, b ≠ I + 1 → h3.get? b = some o → h4.get? b = some o) → x = (if c then vb else va) →
      ∀ P, (∀ h' tk, Ext s.heap h' → P (.ok (.ret (if c then vb else va))) { s with heap := h', toks := tk }) → codeAny (model prog w) A (.builtin "max.loop" ⟨[.ref I, .none, .ref (I + 1)], []⟩) P { s with heap := h4, toks := tk3 } := by
    intro x h4 n4 hS4 o4 hx P hP
    have st4 := W.frame _ _ h4 st3 fun b hb o e => o4 b o (fun q => by
      rcases List.mem_cons.mp hb with rfl | hb
      · exact Nat.succ_ne_self _ q.symm
      · rw [List.mem_singleton.mp hb] at q; exact Nat.ne_of_lt (Nat.lt_succ_of_lt hlt) q) e
    refine codeAny_builtin F.entry_max_loop ?_
    rw [Around.under_plainId F.plain_max_loop _]
    show wpAny _ A.in1 (seqItems? (.ref (I + 1)) >>= _) _ _ _
    refine wpAny_bind (wpAny_seqItems hS4 rfl ?_)
    show wpAny _ A.in1 (tryCatch (pyNext (.ref I)) _ >>= _) _ _ _
    refine wpAny_bind (wpAny_tryCatch (W.done { s with heap := h4, toks := tk3 } _ _ st4 fun h5 tk5 k5 => ?_))
    have hS5 := k5 _ _ hSI hS4
    show wpAny _ A.in1 (updateSeq (I + 1) (fun _ => #[]) >>= _) _ _ _
    refine wpAny_bind ?_
    refine wpAny_updateSeq hS5 rfl (wpAny_bind (wpAny_letGo (wpAny_pure ?_)))
    rw [hx]
    exact hP _ tk5 fun b o e => (Heap.get?_update_other _ _ (Ne.symm (nS b o e))).trans (k5 b o (fun q => nI b o e (List.mem_singleton.mp q)) (o4 b o (nS b o e) (e3 b o e)))
  cases hb : c with
  | true =>
    simp only [if_true]
    refine wpAny_bind ?_
    refine wpAny_updateSeq hS3 rfl (wpAny_bind (wpAny_letGo ?_))
    rw [hname]
    refine wpAny_pure ⟨plainId_quiet F.plain_max_loop _, last vb _ _ (Heap.get?_update_self _ hS3 rfl) (fun b o hb e => (Heap.get?_update_other _ _ (Ne.symm hb)).trans e) (by rw [hb]; rfl) _ fun h' tk e => ?_⟩
    exact h h' tk e
  | false =>
    simp only [Bool.false_eq_true, if_false]
    refine wpAny_bind (wpAny_letGo ?_)
    rw [hname]
    refine wpAny_pure ⟨plainId_quiet F.plain_max_loop _, last va _ _ hS3 (fun b o hb e => e) (by rw [hb]; rfl) _ fun h' tk e => ?_⟩
    exact h h' tk e
end
end Mine

end
section
open PySem PySem.W PySem.Calls PyProof.Rows
set_option Elab.async false
set_option maxRecDepth 100000
set_option linter.unusedVariables false
namespace Mine
noncomputable def cmn : List Str → List Str → List Str
  | a :: x, b :: y => if a = b then a :: cmn x y else []
  | _, _ => []
theorem cmn_comm : ∀ x y : List Str, cmn x y = cmn y x
  | [], [] => rfl
  | [], _ :: _ => rfl
  | _ :: _, [] => rfl
  | a :: x, b :: y => by
    unfold cmn
    by_cases h : a = b
    · subst h; rw [if_pos rfl, if_pos rfl, cmn_comm x y]
    · rw [if_neg h, if_neg (fun e => h e.symm)]
theorem cmn_self : ∀ x : List Str, cmn x x = x
  | [] => rfl
  | a :: x => by unfold cmn; rw [if_pos rfl, cmn_self x]
theorem str_lt_asymm {a b : Str} (h : a.cps.toList < b.cps.toList) : ¬ b.cps.toList < a.cps.toList := List.lt_asymm h
theorem str_eq_of {a b : Str} (h1 : ¬ a.cps.toList < b.cps.toList) (h2 : ¬ b.cps.toList < a.cps.toList) : a = b := by
  have := List.le_antisymm (List.not_lt.mp h2) (List.not_lt.mp h1)
  cases a; cases b
  exact congrArg Str.mk (Array.toList_inj.mp this)
theorem ltL_asymm : ∀ {x y : List Str}, ltL x y = true → ltL y x = false
  | [], [], h => by simp [ltL] at h
  | [], _ :: _, _ => rfl
  | _ :: _, [], h => by simp [ltL] at h
  | a :: x, b :: y, h => by
    unfold ltL at h ⊢
    by_cases e : a = b
    · subst e; rw [if_pos rfl] at h ⊢; exact ltL_asymm h
    · rw [if_neg e] at h; rw [if_neg (fun q => e q.symm)]
      exact decide_eq_false (str_lt_asymm (of_decide_eq_true h))
theorem ltL_eq : ∀ {x y : List Str}, ltL x y = false → ltL y x = false → x = y
  | [], [], _, _ => rfl
  | [], _ :: _, h, _ => by simp [ltL] at h
  | _ :: _, [], _, h => by simp [ltL] at h
  | a :: x, b :: y, h, h' => by
    unfold ltL at h h'
    by_cases e : a = b
    · subst e; rw [if_pos rfl] at h h'; rw [ltL_eq h h']
    · rw [if_neg e] at h; rw [if_neg (fun q => e q.symm)] at h'
      exact absurd (str_eq_of (of_decide_eq_false h) (of_decide_eq_false h')) e
theorem ltL_self (x : List Str) : ltL x x = false := by
  cases h : ltL x x with
  | false => rfl
  | true => have := ltL_asymm h; rw [h] at this; exact this
theorem ltL_len : ∀ {x y : List Str} {i : Nat}, ltL y x = false → x.take i = y.take i → i < x.length → i < y.length
  | [], _, _, _, _, h => by simp at h
  | _ :: _, [], _, h, _, _ => by simp [ltL] at h
  | a :: x, b :: y, 0, _, _, _ => Nat.succ_pos _
  | a :: x, b :: y, i + 1, h, e, hl => by
    rw [List.take_succ_cons, List.take_succ_cons] at e
    obtain ⟨e1, e2⟩ := List.cons.inj e
    subst e1
    unfold ltL at h
    rw [if_pos rfl] at h
    exact Nat.succ_lt_succ (ltL_len h e2 (Nat.lt_of_succ_lt_succ hl))
theorem cmn_brk : ∀ {x y : List Str} {i : Nat} {a b : Str}, x.take i = y.take i → x[i]? = some a → y[i]? = some b → a ≠ b → cmn x y = x.take i
  | [], _, _, _, _, _, h, _, _ => by simp at h
  | _ :: _, [], _, _, _, _, _, h, _ => by simp at h
  | p :: x, q :: y, 0, a, b, _, h1, h2, h => by
    simp at h1 h2
    subst h1 h2
    unfold cmn; rw [if_neg h]; rfl
  | p :: x, q :: y, i + 1, a, b, e, h1, h2, h => by
    rw [List.take_succ_cons, List.take_succ_cons] at e
    obtain ⟨e1, e2⟩ := List.cons.inj e
    subst e1
    unfold cmn; rw [if_pos rfl, List.take_succ_cons, cmn_brk e2 (by simpa using h1) (by simpa using h2) h]
theorem cmn_end : ∀ {x y : List Str}, x.take x.length = y.take x.length → cmn x y = x
  | [], _, _ => by unfold cmn; rfl
  | _ :: _, [], e => by simp at e
  | p :: x, q :: y, e => by
    rw [List.length_cons, List.take_succ_cons, List.take_succ_cons] at e
    obtain ⟨e1, e2⟩ := List.cons.inj e
    subst e1
    unfold cmn; rw [if_pos rfl, cmn_end e2]
theorem take_snoc {x y : List Str} {i : Nat} {a : Str} (e : x.take i = y.take i) (h1 : x[i]? = some a) (h2 : y[i]? = some a) : x.take (i + 1) = y.take (i + 1) := by
  rw [List.take_add_one, List.take_add_one, h1, h2, e]
theorem pick_mm {px py p1 p2 : List Str} (h1 : (ltL py px = true ∧ p1 = py) ∨ (ltL py px = false ∧ p1 = px)) (h2 : (ltL px py = true ∧ p2 = py) ∨ (ltL px py = false ∧ p2 = px)) :
    ltL p2 p1 = false ∧ cmn p1 p2 = cmn px py := by
  rcases h1 with ⟨a, rfl⟩ | ⟨a, rfl⟩ <;> rcases h2 with ⟨b, rfl⟩ | ⟨b, rfl⟩
  · have := ltL_asymm a; rw [b] at this; cases this
  · exact ⟨b, cmn_comm _ _⟩
  · exact ⟨a, rfl⟩
  · refine ⟨ltL_self _, ?_⟩
    have := ltL_eq a b
    subst this
    rfl
theorem news_also {h₀ h : Heap} {L : Addr} {p : Addr × Obj} {news : List (Addr × Obj)} (N : News h₀ L h news) (m : p ∈ news) : News h₀ L h (p :: news) := fun q hq => by
  rcases List.mem_cons.mp hq with rfl | hq
  · exact N _ m
  · exact N _ hq
end Mine

end
section
open PySem PySem.W PySem.Calls PyProof.Rows
open LCg (NsObj ns_obj Off3 Off1 fr_but news_but lst CompRest FinE FinA block_U CompEnd)
set_option Elab.async false
set_option maxRecDepth 100000
set_option maxHeartbeats 2000000
set_option linter.unusedVariables false
namespace Mine
section
variable {prog : Program} {w : World} {A : Around} {E : Value → Shared → Prop} {s : Shared} {h₀ : Heap} {L : Addr} {m : Str → Option Value} {env : Env} {K : Type} [DecidableEq K] {knd : KeyKind prog w K}
theorem srcW_dict {elt : Expr} {x : Str} {scope : Scope} {cl : List (Str × Addr)} {Fin : Shared → List Value → List (Addr × Obj) → Prop} {d : Addr} {kvs : List (K × Value)} {news : List (Addr × Obj)}
    (hh : A.handled = none) (F : Fr h₀ L s.heap m) (N : News h₀ L s.heap news) (hd : (d == sysModules) = false) (hm : h₀.DictOf knd d kvs) (hsz : kvs.length ≤ sizeLine)
    (h : ∀ g, CompRest prog w A h₀ L m env elt x scope cl { s with heap := g } (fun _ => True) (fun i v => ∃ k x, kvs[i]? = some (k, x) ∧ knd.is k v = true) (Fin { s with heap := g }) kvs.length 0 [] news) :
    wpAny (model prog w) A (pyIter (.ref d)) (SrcW prog w A h₀ L m env elt x scope cl Fin) E s := by
  obtain ⟨ep, hm0⟩ := hm.dictAt
  have hl : s.heap.DictAt knd d kvs ep := hm0.keep F.keep
  have hlt : d < s.heap.objs.size := hl.lt_size
  refine wpAny_pyIter_dict hd hl ?_
  have up : ∀ b o, s.heap.get? b = some o → (s.heap.push { cls := .type "dict_keyiterator", data := .fields #[.ref d, .int 0 0, .int kvs.length 0, .int ep 0] }).get? b = some o := fun b o e => Heap.get?_push_of_some _ e
  refine ⟨s.heap.objs.size, _, _, _, _, _, news, rfl, Walks.dictKeys (knd := knd) hh s.heap.objs.size d (Nat.ne_of_lt hlt) kvs ep, hsz, fun i h st => ?_, ?_, ⟨⟨_, Heap.get?_push_size _ rfl, rfl, rfl⟩, hl.push _⟩, fun b hb => ?_, F.keeps up, N.grown up, Nat.ne_of_lt F.ns.lt, next_is_new F, fun p hp => Nat.ne_of_lt (Heap.lt_size (N p hp).1), trivial, h _⟩
  · obtain ⟨o, e, _⟩ := st.1; exact ⟨o, e⟩
  · rintro i h h' o nw st e e' k N' S
    exact ⟨by obtain ⟨o', q, r⟩ := st.1; rw [e] at q; cases q; exact ⟨o, e', r⟩, hm0.keep k⟩
  · show b < (s.heap.push _).objs.size
    rw [Heap.size_push]
    rcases List.mem_cons.mp hb with rfl | hb
    · exact Nat.lt_succ_self _
    · rw [List.mem_singleton.mp hb]; exact Nat.lt_succ_of_lt hlt
end
section
variable {prog : Program} {w : World} {A : Around} {E : Value → Shared → Prop} {s : Shared} {K : Type} [DecidableEq K] {knd : KeyKind prog w K}
theorem item_dict {value slice : Expr} {d : Addr} {key v : Value} {k : K} {kvs : List (K × Value)} {Q : Value → Shared → Prop} (hd : s.heap.DictOf knd d kvs) (hkey : knd.is k key = true) (hv : valueAt kvs k = some v) (h : Q v { s with toks := s.toks + 1 })
    (hs : subscripted slice false (.ref d) key = operate [.ref d, key] (getItem (.ref d) key)) (ht : ∀ r, letTemporaryGo value (.ref d) r = pure ()) :
    wpAny (model prog w) A (subscriptTail value slice (.ref d) key) Q E s := subscriptTail_builtin hd.typeIs slot_dict_getitem.lookup (wpAny_getItem_of hkey hd.mapOf hv h) hs ht
theorem valueAt_get : ∀ {kvs : List (K × Value)} {i : Nat} {k : K} {v : Value}, (kvs.map (·.1)).Nodup → kvs[i]? = some (k, v) → valueAt kvs k = some v
  | [], _, _, _, _, h => by simp at h
  | p :: r, 0, k, v, _, h => by
    have h' : p = (k, v) := by simpa using h
    subst h'
    simp [valueAt]
  | p :: r, i + 1, k, v, nd, h => by
    have h' : r[i]? = some (k, v) := by simpa using h
    have nd' := List.nodup_cons.mp nd
    have hne : p.1 ≠ k := fun e => nd'.1 (List.mem_map.mpr ⟨_, List.mem_of_getElem? h', e.symm⟩)
    have := valueAt_get nd'.2 h'
    unfold valueAt at this ⊢
    rw [List.find?_cons_of_neg (by simpa using hne)]
    exact this
end
noncomputable def NestAt (w : World) (h : Heap) : Nat → Addr → Nat → Prop
  | 0, _, _ => False
  | d + 1, a, n => ∃ kvs : List (Str × Addr × Nat), h.DictOf (strKind pw w) a (kvs.map fun p => (p.1, .ref p.2.1)) ∧ kvs.length ≤ 1000 ∧ (a == sysModules) = false ∧ (∀ p ∈ kvs, NestAt w h d p.2.1 p.2.2) ∧ n = (kvs.map fun p => 1 + p.2.2).sum
theorem NestAt.keeps {w : World} {h h' : Heap} (k : ∀ b o, h.get? b = some o → h'.get? b = some o) : ∀ {d : Nat} {a : Addr} {n : Nat}, NestAt w h d a n → NestAt w h' d a n
  | 0, _, _, x => x.elim
  | d + 1, a, n, ⟨kvs, h1, h2, h3, h4, h5⟩ => ⟨kvs, h1.keep k, h2, h3, fun p hp => (h4 p hp).keeps k, h5⟩
noncomputable def nsJ (N0 : List (Addr × Obj)) (kvs : List (Str × Addr × Nat)) (i : Nat) (ys : List Value) (news : List (Addr × Obj)) : Prop :=
  news = N0 ∧ IntsAre ys ((kvs.take i).map fun p => ((1 + p.2.2 : Nat) : Int))
theorem nsum {kvs : List (Str × Addr × Nat)} {k : Nat} (hk : k = kvs.length) : ((kvs.take k).map fun p => ((1 + p.2.2 : Nat) : Int)).sum = (((kvs.map fun p => 1 + p.2.2).sum : Nat) : Int) := by
  subst hk
  rw [List.take_length]
  induction kvs with
  | nil => rfl
  | cons p r ih => rw [List.map_cons, List.map_cons, List.sum_cons, List.sum_cons, ih]; push_cast; rfl
theorem nsJ_next {kvs : List (Str × Addr × Nat)} {i : Nat} {ys : List Value} {p : Str × Addr × Nat} {t : Tok} (h : IntsAre ys ((kvs.take i).map fun p => ((1 + p.2.2 : Nat) : Int))) (hp : kvs[i]? = some p) :
    IntsAre (ys ++ [.int ((1 + p.2.2 : Nat) : Int) t]) ((kvs.take (i + 1)).map fun p => ((1 + p.2.2 : Nat) : Int)) := by
  rw [List.take_add_one, hp, List.map_append]
  have : ∀ {vs : List Value} {ns : List Int} {n : Int} {t : Tok}, IntsAre vs ns → IntsAre (vs ++ [.int n t]) (ns ++ [n]) := by
    intro vs ns n t h
    induction h with
    | nil => exact .cons _ _ .nil
    | cons a b _ ih => exact .cons a b ih
  exact this h
end Mine

end
section
open PySem PySem.W PySem.Calls PyProof.Rows
set_option Elab.async false
set_option maxRecDepth 100000
set_option maxHeartbeats 2000000
set_option linter.unusedVariables false
namespace Mine
section
variable {prog : Program} {w : World} {A : Around} {R : Result → Shared → Prop} {s : Shared} {h₀ : Heap} {L : Addr} {m₁ : Str → Option Value} {news : List (Addr × Obj)} {K : Frag} {p : Program} {loose : List Str} {mean : ExcName → Option Value} {mg mb : Str → Option Value}
  {name qual : Str} {params : Arguments} {body : List Stmt} {scope : Scope} {dV kV doc pm cdv ct oc : Value} {an od : Option Addr} {osl : Array (Option Value)} {f : Addr} {args : Args} {binds : List (Str × Value)}
noncomputable def BackF (h₀ : Heap) (L L' : Addr) (oL : Obj) (m₁ : Str → Option Value) : Prop :=
  ∀ h₂ m₂ news₂, Fr h₀ L' h₂ m₂ → News h₀ L' h₂ ((L, oL) :: news₂) → (∀ p ∈ news₂, p.1 ≠ L) → Fr h₀ L h₂ m₁ ∧ News h₀ L h₂ news₂
theorem enterF (F1 : Fr h₀ L s.heap m₁) (N1 : News h₀ L s.heap news) (X₀ : K.In h₀) (T₀ : Top p loose mean mg mb h₀)
    (ho : K.lookup f = some ⟨oc, od, .func (fnOf name qual params body scope dV kV doc pm an cdv ct), osl⟩) (hcd : codeIn K cdv qual = true) (hroom : A.depth < recursionLimit)
    (hbind : BindsTo s (fnOf name qual params body scope dV kV doc pm an cdv ct) args binds) (hloc : ∀ y ∈ binds, scope.names.lookup y.1 = some .local)
    (hco : scope.isCoroutine = false) (hgen : scope.isGenerator = false) (hk : scope.kind = .function) (hcell : ∀ x ∈ scope.names, x.2 ≠ .cell)
    (h : ∀ oL L' h₁ tk, Fr h₀ L' h₁ (fun y => binds.reverse.lookup y) → News h₀ L' h₁ ((L, oL) :: news) → (∀ p ∈ news, p.1 < L') → L < L' → BackF h₀ L L' oL m₁ →
      wpAny (model prog w) (A.deeper (envOf qual scope L' f cdv)) (execs body (envOf qual scope L' f cdv))
        (fun fl s' => R (.ok (.ret (match fl with | .ret v => v | _ => .none))) s') (fun _ _ => False)
        { s with heap := h₁, toks := tk }) : codeAny (model prog w) A (.call (.ref f) args) R s := by
  refine enterP (X₀.keeps F1.keep) (T₀.keeps F1.keep) ho hcd hroom hbind hloc hco hgen hk hcell fun L' h₁ tk F _ => ?_
  obtain ⟨oL, es, ep, heL, hdL, hsL, hmL⟩ := id F1.ns
  have hLs : L < s.heap.objs.size := F1.ns.lt
  have hLL : L < L' := Nat.lt_of_lt_of_le hLs F.above
  have hL0 : h₀.get? L = none := Heap.get?_none_of_le F1.above
  refine h oL L' h₁ tk ⟨F.ns, fun b o e => F.keep b o (F1.keep b o e), Nat.le_of_lt (Nat.lt_of_le_of_lt F1.above hLL)⟩ ?_ (fun q hq => Nat.lt_of_lt_of_le (Heap.lt_size (N1 q hq).1) F.above) hLL ?_
  · intro q hq
    rcases List.mem_cons.mp hq with rfl | hq
    · exact ⟨F.keep _ _ heL, Nat.ne_of_lt hLL, hL0⟩
    · exact ⟨F.keep _ _ (N1 q hq).1, Nat.ne_of_lt (Nat.lt_of_lt_of_le (Heap.lt_size (N1 q hq).1) F.above), (N1 q hq).2.2⟩
  · intro h₂ m₂ news₂ F₂ N₂ hne
    exact ⟨⟨⟨oL, es, ep, (N₂ _ (.head _)).1, hdL, hsL, hmL⟩, F₂.keep, F1.above⟩, fun q hq => ⟨(N₂ q (.tail _ hq)).1, hne q hq, (N₂ q (.tail _ hq)).2.2⟩⟩
end
theorem binds_peek {K : Frag} {s : Shared} {fd : FuncData} {args : Args} {binds : List (Str × Value)} (X : K.In s.heap) (e : ∀ S, peek K S (bindArgs fd args) = some binds) : BindsTo s fd args binds :=
  fun M A E Q hq => (Looks.of_peek (M := M) X (e _)).here hq
theorem news_swap {h₀ h : Heap} {L : Addr} {a b : Addr × Obj} {r : List (Addr × Obj)} (N : News h₀ L h (a :: b :: r)) : News h₀ L h (b :: a :: r) := fun p hp => by
  rcases List.mem_cons.mp hp with rfl | hp
  · exact N _ (.tail _ (.head _))
  rcases List.mem_cons.mp hp with rfl | hp
  · exact N _ (.head _)
  · exact N _ (.tail _ (.tail _ hp))
end Mine

end
section
open PySem PySem.W PySem.Calls PyProof.Rows
set_option Elab.async false
set_option maxRecDepth 100000
set_option maxHeartbeats 2000000
set_option linter.unusedVariables false
namespace Mine
structure TS where
  W : List (List Str)
  ρ : List Str → Addr
  kids : List Str → List Str
  ob : List Str → Obj
noncomputable def TS.news (t : TS) : List (Addr × Obj) := t.W.map fun u => (t.ρ u, t.ob u)
noncomputable def TS.kvs (t : TS) (u : List Str) : List (Str × Value) := (t.kids u).map fun c => (c, .ref (t.ρ (u ++ [c])))
structure WF (w : World) (t : TS) : Prop where
  nd : t.W.Nodup
  root : [] ∈ t.W
  inj : ∀ u ∈ t.W, ∀ v ∈ t.W, t.ρ u = t.ρ v → u = v
  obs : ∀ u ∈ t.W, (t.ob u).IsDictOf (strKind pw w) (t.kvs u)
  kid : ∀ u ∈ t.W, ∀ c ∈ t.kids u, u ++ [c] ∈ t.W
  par : ∀ u c, u ++ [c] ∈ t.W → u ∈ t.W ∧ c ∈ t.kids u
  sys : ∀ u ∈ t.W, (t.ρ u == sysModules) = false
  sz : ∀ u ∈ t.W, (t.kids u).length ≤ t.W.length
noncomputable def TS.grow (t : TS) (u : List Str) (c : Str) (A : Addr) (oA oU : Obj) : TS :=
  { W := t.W ++ [u ++ [c]], ρ := fun v => if v = u ++ [c] then A else t.ρ v,
    kids := fun v => if v = u then t.kids u ++ [c] else if v = u ++ [c] then [] else t.kids v,
    ob := fun v => if v = u then oU else if v = u ++ [c] then oA else t.ob v }
theorem snoc_ne (u : List Str) (c : Str) : u ++ [c] ≠ u := fun e => by
  have := congrArg List.length e
  simp at this
theorem snoc_inj {u v : List Str} {c d : Str} (e : u ++ [c] = v ++ [d]) : u = v ∧ c = d := by
  obtain ⟨e1, e2⟩ := List.append_inj' e rfl
  exact ⟨e1, by simpa using e2⟩
section
variable {w : World} {t : TS} {u : List Str} {c : Str} {A : Addr} {oA oU : Obj}
theorem WF.nodup (wf : WF w t) (hu : u ∈ t.W) : (t.kids u).Nodup := by
  obtain ⟨_, _, _, _, _, _, h⟩ := wf.obs u hu
  have : (t.kvs u).map (·.1) = t.kids u := by unfold TS.kvs; rw [List.map_map]; exact List.map_id' _
  rwa [this] at h
theorem WF.here (wf : WF w t) (hu : u ∈ t.W) (hc : u ++ [c] ∈ t.W) : valueAt (t.kvs u) c = some (.ref (t.ρ (u ++ [c]))) := by
  obtain ⟨i, hi, e⟩ := List.getElem_of_mem (wf.par u c hc).2
  have h1 : (t.kvs u)[i]? = some (c, .ref (t.ρ (u ++ [c]))) := by
    unfold TS.kvs
    rw [List.getElem?_map, List.getElem?_eq_getElem hi, e]; rfl
  refine valueAt_get ?_ h1
  have : (t.kvs u).map (·.1) = t.kids u := by unfold TS.kvs; rw [List.map_map]; exact List.map_id' _
  rw [this]; exact wf.nodup hu
theorem WF.away (wf : WF w t) (hu : u ∈ t.W) (hc : u ++ [c] ∉ t.W) : valueAt (t.kvs u) c = none := by
  unfold valueAt
  have : (t.kvs u).find? (fun kv => kv.1 = c) = none := by
    rw [List.find?_eq_none]
    intro p hp
    unfold TS.kvs at hp
    obtain ⟨d, hd, rfl⟩ := List.mem_map.mp hp
    simp only [decide_eq_true_eq]
    intro e
    exact hc (e ▸ wf.kid u hu d hd)
  rw [this]; rfl
theorem grow_kvs (wf : WF w t) (hc : u ++ [c] ∉ t.W) {v : List Str} (hv : v ∈ t.W) (hne : v ≠ u) : (t.grow u c A oA oU).kvs v = t.kvs v := by
  have h2 : v ≠ u ++ [c] := fun e => hc (e ▸ hv)
  unfold TS.kvs TS.grow
  simp only [if_neg hne, if_neg h2]
  refine List.map_congr_left fun d hd => ?_
  have h3 : v ++ [d] ≠ u ++ [c] := fun e => hc (e ▸ wf.kid v hv d hd)
  rw [if_neg h3]
theorem grow_kvs_u (wf : WF w t) (hu : u ∈ t.W) (hc : u ++ [c] ∉ t.W) : (t.grow u c A oA oU).kvs u = t.kvs u ++ [(c, .ref A)] := by
  unfold TS.kvs TS.grow
  simp only [if_true, List.map_append, List.map_cons, List.map_nil]
  congr 1
  refine List.map_congr_left fun d hd => ?_
  have h3 : u ++ [d] ≠ u ++ [c] := fun e => hc (e ▸ wf.kid u hu d hd)
  rw [if_neg h3]
theorem grow_kvs_new : (t.grow u c A oA oU).kvs (u ++ [c]) = [] := by
  unfold TS.kvs TS.grow
  simp [snoc_ne]
theorem WF.grow (wf : WF w t) (hu : u ∈ t.W) (hc : u ++ [c] ∉ t.W) (hA : ∀ v ∈ t.W, t.ρ v ≠ A) (hs : (A == sysModules) = false) (h1 : oA.IsDictOf (strKind pw w) []) (h2 : oU.IsDictOf (strKind pw w) (t.kvs u ++ [(c, .ref A)])) : WF w (t.grow u c A oA oU) where
  nd := by
    show (t.W ++ [u ++ [c]]).Nodup
    rw [List.nodup_append]
    exact ⟨wf.nd, by simp, fun a ha b hb e => hc ((List.mem_singleton.mp hb) ▸ e ▸ ha)⟩
  root := List.mem_append_left _ wf.root
  inj := by
    intro a ha b hb e
    have e' : (if a = u ++ [c] then A else t.ρ a) = (if b = u ++ [c] then A else t.ρ b) := e
    by_cases ea : a = u ++ [c] <;> by_cases eb : b = u ++ [c]
    · rw [ea, eb]
    · rw [if_pos ea, if_neg eb] at e'
      have hb' : b ∈ t.W := (List.mem_append.mp hb).resolve_right fun h => eb (List.mem_singleton.mp h)
      exact absurd e'.symm (hA b hb')
    · rw [if_neg ea, if_pos eb] at e'
      have ha' : a ∈ t.W := (List.mem_append.mp ha).resolve_right fun h => ea (List.mem_singleton.mp h)
      exact absurd e' (hA a ha')
    · rw [if_neg ea, if_neg eb] at e'
      exact wf.inj a ((List.mem_append.mp ha).resolve_right fun h => ea (List.mem_singleton.mp h)) b ((List.mem_append.mp hb).resolve_right fun h => eb (List.mem_singleton.mp h)) e'
  obs := by
    intro v hv
    rcases List.mem_append.mp hv with hv | hv
    · by_cases e : v = u
      · subst e
        rw [grow_kvs_u wf hu hc]
        show (if v = v then oU else _ : Obj).IsDictOf _ _
        rw [if_pos rfl]; exact h2
      · rw [grow_kvs wf hc hv e]
        have h3 : v ≠ u ++ [c] := fun q => hc (q ▸ hv)
        show (if v = u then oU else if v = u ++ [c] then oA else t.ob v : Obj).IsDictOf _ _
        rw [if_neg e, if_neg h3]; exact wf.obs v hv
    · rw [List.mem_singleton.mp hv, grow_kvs_new]
      show (if u ++ [c] = u then oU else if u ++ [c] = u ++ [c] then oA else t.ob _ : Obj).IsDictOf _ _
      rw [if_neg (snoc_ne u c), if_pos rfl]; exact h1
  kid := by
    intro v hv d hd
    have hd' : d ∈ (if v = u then t.kids u ++ [c] else if v = u ++ [c] then [] else t.kids v) := hd
    show v ++ [d] ∈ t.W ++ [u ++ [c]]
    by_cases e : v = u
    · rw [if_pos e] at hd'
      subst e
      rcases List.mem_append.mp hd' with h | h
      · exact List.mem_append_left _ (wf.kid v hu d h)
      · rw [List.mem_singleton.mp h]; exact List.mem_append_right _ (List.mem_singleton.mpr rfl)
    · rw [if_neg e] at hd'
      by_cases e2 : v = u ++ [c]
      · rw [if_pos e2] at hd'; cases hd'
      · rw [if_neg e2] at hd'
        exact List.mem_append_left _ (wf.kid v ((List.mem_append.mp hv).resolve_right fun h => e2 (List.mem_singleton.mp h)) d hd')
  par := by
    intro v d hvd
    show v ∈ t.W ++ [u ++ [c]] ∧ d ∈ (if v = u then t.kids u ++ [c] else if v = u ++ [c] then [] else t.kids v)
    rcases List.mem_append.mp hvd with h | h
    · obtain ⟨a, b⟩ := wf.par v d h
      refine ⟨List.mem_append_left _ a, ?_⟩
      by_cases e : v = u
      · rw [if_pos e]; exact List.mem_append_left _ (e ▸ b)
      · rw [if_neg e, if_neg (fun (q : v = u ++ [c]) => hc (q ▸ a))]; exact b
    · obtain ⟨rfl, rfl⟩ := snoc_inj (List.mem_singleton.mp h)
      exact ⟨List.mem_append_left _ hu, by rw [if_pos rfl]; exact List.mem_append_right _ (List.mem_singleton.mpr rfl)⟩
  sys := by
    intro v hv
    show ((if v = u ++ [c] then A else t.ρ v) == sysModules) = false
    by_cases e : v = u ++ [c]
    · rw [if_pos e]; exact hs
    · rw [if_neg e]; exact wf.sys v ((List.mem_append.mp hv).resolve_right fun h => e (List.mem_singleton.mp h))
  sz := by
    intro v hv
    show (if v = u then t.kids u ++ [c] else if v = u ++ [c] then [] else t.kids v).length ≤ (t.W ++ [u ++ [c]]).length
    rw [List.length_append, List.length_singleton]
    by_cases e : v = u
    · rw [if_pos e, List.length_append, List.length_singleton]
      exact Nat.succ_le_succ (wf.sz u hu)
    · rw [if_neg e]
      by_cases e2 : v = u ++ [c]
      · rw [if_pos e2]; exact Nat.zero_le _
      · rw [if_neg e2]
        exact Nat.le_succ_of_le (wf.sz v ((List.mem_append.mp hv).resolve_right fun h => e2 (List.mem_singleton.mp h)))
theorem WF.dict {h₀ h : Heap} {L : Addr} {pre : List (Addr × Obj)} (wf : WF w t) (N : News h₀ L h (pre ++ t.news)) (hu : u ∈ t.W) : h.DictOf (strKind pw w) (t.ρ u) (t.kvs u) :=
  Heap.dictOf_iff.mpr ⟨t.ob u, (N _ (List.mem_append_right _ (List.mem_map.mpr ⟨u, hu, rfl⟩))).1, wf.obs u hu⟩
theorem WF.obj {h₀ h : Heap} {L : Addr} {pre : List (Addr × Obj)} (wf : WF w t) (N : News h₀ L h (pre ++ t.news)) (hu : u ∈ t.W) : ∃ o, h.get? (t.ρ u) = some o ∧ o.cls = .type "dict" := by
  obtain ⟨o, _, _, ho, hex, _⟩ := wf.dict N hu
  exact ⟨o, ho, hex.1⟩
theorem off_iter {h₀ h : Heap} {L I : Addr} {oi : Obj} {pre : List (Addr × Obj)} (wf : WF w t) (N : News h₀ L h ([(I, oi)] ++ (pre ++ t.news))) (hoi : oi.cls = .type "tuple_iterator") (hp : ∀ p ∈ pre, p.1 < I) : ∀ p ∈ pre ++ t.news, p.1 ≠ I := by
  intro p hm e
  rcases List.mem_append.mp hm with h1 | h1
  · exact absurd e (Nat.ne_of_lt (hp p h1))
  · obtain ⟨v, hv, rfl⟩ := List.mem_map.mp h1
    have z1 := (N (t.ρ v, t.ob v) (.tail _ hm)).1
    have z2 := (N (I, oi) (.head _)).1
    have e' : t.ρ v = I := e
    have z1' : h.get? (t.ρ v) = some (t.ob v) := z1
    rw [e', z2] at z1'
    obtain ⟨_, _, hex, _⟩ := wf.obs v hv
    have hc := hex.1
    rw [← Option.some.inj z1', hoi] at hc
    injection hc with hc
    exact absurd hc (by decide)
theorem mem_news {pre : List (Addr × Obj)} (hu : u ∈ t.W) : (t.ρ u, t.ob u) ∈ pre ++ t.news := List.mem_append_right _ (List.mem_map.mpr ⟨u, hu, rfl⟩)
noncomputable def addW : List (List Str) → List Str → List Str → List (List Str)
  | W, _, [] => W
  | W, u, c :: r => addW (if u ++ [c] ∈ W then W else W ++ [u ++ [c]]) (u ++ [c]) r
theorem grow_news {h₀ h h' : Heap} {L : Addr} {pre : List (Addr × Obj)} (wf : WF w t) (hu : u ∈ t.W) (hc : u ++ [c] ∉ t.W) (N : News h₀ L h ((A, oA) :: (pre ++ t.news))) (hs : Heap.SameBut (t.ρ u) h h') (hU : h'.get? (t.ρ u) = some oU)
    (hA : ∀ v ∈ t.W, t.ρ v ≠ A) (hpre : ∀ p ∈ pre, p.1 ≠ t.ρ u) : News h₀ L h' (pre ++ (t.grow u c A oA oU).news) := by
  intro p hp
  rcases List.mem_append.mp hp with hp | hp
  · have z := N p (.tail _ (List.mem_append_left _ hp))
    exact ⟨(hs.2 _ (hpre p hp)).trans z.1, z.2⟩
  · obtain ⟨v, hv, rfl⟩ := List.mem_map.mp hp
    rcases List.mem_append.mp hv with hv | hv
    · have hvn : v ≠ u ++ [c] := fun e => hc (e ▸ hv)
      have z := N (t.ρ v, t.ob v) (.tail _ (List.mem_append_right _ (List.mem_map.mpr ⟨v, hv, rfl⟩)))
      show h'.get? (if v = u ++ [c] then A else t.ρ v) = some (if v = u then oU else if v = u ++ [c] then oA else t.ob v) ∧ (if v = u ++ [c] then A else t.ρ v) ≠ L ∧ h₀.get? (if v = u ++ [c] then A else t.ρ v) = none
      rw [if_neg hvn, if_neg hvn]
      by_cases e : v = u
      · rw [if_pos e, e]
        exact ⟨hU, e ▸ z.2⟩
      · rw [if_neg e]
        exact ⟨(hs.2 _ fun q => e (wf.inj v hv u hu q)).trans z.1, z.2⟩
    · rw [List.mem_singleton.mp hv]
      have z := N (A, oA) (.head _)
      show h'.get? (if u ++ [c] = u ++ [c] then A else _) = some (if u ++ [c] = u then oU else if u ++ [c] = u ++ [c] then oA else t.ob _) ∧ (if u ++ [c] = u ++ [c] then A else _) ≠ L ∧ h₀.get? (if u ++ [c] = u ++ [c] then A else _) = none
      rw [if_pos rfl, if_neg (snoc_ne u c), if_pos rfl]
      exact ⟨(hs.2 _ fun q => hA u hu q.symm).trans z.1, z.2⟩
theorem addW_take {W : List (List Str)} {ks : List Str} {i : Nat} {c : Str} (hc : ks[i]? = some c) : addW W (ks.take i) (ks.drop i) = addW (if ks.take i ++ [c] ∈ W then W else W ++ [ks.take i ++ [c]]) (ks.take (i + 1)) (ks.drop (i + 1)) := by
  obtain ⟨hi, e⟩ := List.getElem?_eq_some_iff.mp hc
  subst e
  rw [List.drop_eq_getElem_cons hi, List.take_succ_eq_append_getElem hi]
  rfl
theorem offW_of' {its : List (Addr × Obj)} : ∀ {l : List (Addr × Obj)}, (∀ p ∈ l, ∀ q ∈ its, p.1 ≠ q.1) → OffW its l := by
  have one : ∀ (p : Addr × Obj) (its : List (Addr × Obj)), (∀ q ∈ its, p.1 ≠ q.1) → OffW1 p its := by
    intro p its
    induction its with
    | nil => intro _; trivial
    | cons q r ih => intro h; exact ⟨.inl (h q (.head _)), ih fun q' hq => h q' (.tail _ hq)⟩
  intro l
  induction l with
  | nil => intro _; trivial
  | cons p r ih => intro h; exact ⟨one p its (h p (.head _)), ih fun p' hp => h p' (.tail _ hp)⟩
theorem subL_of' : ∀ {l all : List (Addr × Obj)}, (∀ p ∈ l, p ∈ all) → SubL l all
  | [], _, _ => trivial
  | p :: r, all, h => ⟨h p (.head _), subL_of' fun q hq => h q (.tail _ hq)⟩
theorem allLt_mem {d : Addr} : ∀ {l : List (Addr × Obj)}, AllLt d l → ∀ p ∈ l, p.1 < d
  | [], _, _, h => by cases h
  | _ :: _, x, p, h => by
    rcases List.mem_cons.mp h with rfl | h
    · exact x.1
    · exact allLt_mem x.2 p h
theorem typeOf_listT : typeOf (.type "list") = pure (.type "type") := by kernel_rfl
theorem sub_dict_list : isSubtype (.type "dict") (.type "list") = pure false := by rw [isSubtype_type]; kernel_rfl
theorem dict_not_list {prog : Program} {w : World} {A : Around} {E : Value → Shared → Prop} {s : Shared} {a : Addr} {o : Obj} {Q : Value → Shared → Prop} (ho : s.heap.get? a = some o) (hc : o.cls = .type "dict")
    (h : ∀ tk, Q (.bool false) { s with toks := tk }) : wpAny (model prog w) A (call (.builtin "isinstance") [.ref a, .type "list"]) Q E s := by
  obtain ⟨hp, g, d, tk, os⟩ := s
  refine call_isinstance_of ?_ (fun e => by cases e)
  exact isinstance_nested_false_dict ho hc (by decide) typeOf_listT sub_dict_list (h _)
theorem dict_is_dict {prog : Program} {w : World} {A : Around} {E : Value → Shared → Prop} {s : Shared} {a : Addr} {o : Obj} {Q : Value → Shared → Prop} (ho : s.heap.get? a = some o) (hc : o.cls = .type "dict")
    (h : Q (.bool true) s) : wpAny (model prog w) A (call (.builtin "isinstance") [.ref a, .type "dict"]) Q E s :=
  call_isinstance_yes (Tx := "dict") ⟨_, ho, hc⟩ (by kernel_rfl) (by rw [isSubtype_type]; kernel_rfl) h
end
end Mine

end
section
open PySem PySem.W PySem.Calls PyProof.Rows PySem.AutoIntOps
set_option Elab.async false
set_option maxRecDepth 100000
set_option linter.unusedVariables false
namespace Mine
theorem twelve {p : Nat} (h : p < 12) : p = 0 ∨ p = 1 ∨ p = 2 ∨ p = 3 ∨ p = 4 ∨ p = 5 ∨ p = 6 ∨ p = 7 ∨ p = 8 ∨ p = 9 ∨ p = 10 ∨ p = 11 :=
  (by decide : ∀ p : Fin 12, p.val = 0 ∨ p.val = 1 ∨ p.val = 2 ∨ p.val = 3 ∨ p.val = 4 ∨ p.val = 5 ∨ p.val = 6 ∨ p.val = 7 ∨ p.val = 8 ∨ p.val = 9 ∨ p.val = 10 ∨ p.val = 11) ⟨p, h⟩
section
variable {prog : Program} {w : World} {A : Around} {E : Value → Shared → Prop} {s : Shared}
theorem pow2_small {z : Int} {p : Nat} {t u : Tok} {Q : Value → Shared → Prop} (hz : z = (p : Int)) (hp : p < 12) (h : ∀ t' tk', Q (.int ((2 ^ p : Nat) : Int) t') { s with toks := tk' }) : wpAny (model prog w) A (binaryOp .Pow (.int 2 t) (.int z u)) Q E s := by
  subst hz
  rcases twelve hp with rfl | rfl | rfl | rfl | rfl | rfl | rfl | rfl | rfl | rfl | rfl | rfl
  · exact pow_0 (by decide) (by decide) (h _ _)
  all_goals exact pow_4 (by decide) (by decide) (by decide) (by decide) (by decide +kernel) (h _ _)
end
end Mine

end
section
open PySem PySem.W PySem.Calls PyProof.Rows Mine
set_option maxRecDepth 100000
set_option maxHeartbeats 4000000
set_option linter.unusedVariables false
theorem Mine.fillK_all : (Challenge.rw_kt0067_01.Holds → True) → (Mine.H.KR = Mine.H.KR) → True := by k_fill; intros; trivial
local macro_rules | `(tactic| walk_at "strfit") => `(tactic| ((try rw [sizeLine_eq]); first | omega | ((simp only [Str.length_append]); omega)))
local macro_rules | `(tactic| walk_at "eval IfExp") => `(tactic| (k_here; (with_reducible refine' Mine.ifexp_strs (n := 1) ?_ ?h1 ?h2); (case h1 => decide +kernel); (case h2 => decide +kernel)))
local macro_rules | `(tactic| walk_at "eval IfExp") => `(tactic| (k_here; (with_reducible refine' Mine.ifexp_strs (n := 2) ?_ ?h1 ?h2); (case h1 => decide +kernel); (case h2 => decide +kernel)))
local macro_rules | `(tactic| walk_at "inplaceOp Add str str") => `(tactic| (k_here; (with_reducible show wpAny _ _ (inplaceOp Operator.Add (Value.str _ _) (Value.str _ _)) _ _ _); (refine' Mine.iadd_strs ?_ ?hsz; (case hsz => walk_at "strfit"))))
local macro_rules | `(tactic| walk_at "subscriptTail") => `(tactic| (k_here; (with_reducible show wpAny _ _ (subscriptTail _ _ (Value.str _ _) (Value.int _ _)) _ _ _); (refine' Mine.item_strs (n := 2) (by first | assumption | decide +kernel) (by kxi_fact) (by kxi_fact) (by decide) ?_)))
local macro_rules | `(tactic| walk_at "exec If") => `(tactic| (k_here; (with_reducible show wpAny _ _ (exec (Stmt.If _ [Stmt.Assign [Expr.Name (Str.ofString "two") _] _ _] [] _) _) _ _ _); (rename Fr _ _ _ _ => F'); (rename News _ _ _ _ => N'); (apply Mine.if_store_str (n := 2) F' N'; (case hold => with_unfolding_all rfl))))
local macro_rules | `(tactic| walk_at "SJoinV") => `(tactic| (subst_vars; exact ⟨rfl, _, ⟨⟨_, _, rfl, by assumption, by assumption⟩⟩⟩))
local macro_rules | `(tactic| walk_at "Eq") => `(tactic| ((with_reducible show Str.length _ = _); decide +kernel))
local macro_rules | `(tactic| walk_at "SJB1") => `(tactic| ((show ∀ _, _ → _); intro s' hJ'; obtain ⟨h', tk', e', F'', N''⟩ := KJoinAt.at_ hJ'; subst e'))
local macro_rules | `(tactic| walk_at "SJB2") => `(tactic| ((show ∀ z : Str, _ → _ → ∀ _ _, _ → _); intro zz hzz hll t' s' hJ'; obtain ⟨h', tk', e', F'', N''⟩ := KJoinAt.at_ hJ'; subst e'))
local macro_rules | `(tactic| walk_at "call builtin:str.index") => `(tactic| (k_here; (refine' Mine.index3 ?h ?_); (case h => assumption); intro tt ttk))
local macro_rules | `(tactic| walk_at "getMethod ref") => `(tactic| (k_here; (first | refine' Mine.fs_isdisjoint_method ?F ?S ?_ | refine' Mine.fs_issuperset_method ?F ?S ?_); (case F => assumption); (case S => assumption)))
local macro_rules | `(tactic| walk_at "call builtin:frozenset.isdisjoint") => `(tactic| (k_here; (refine' Mine.fs_isdisjoint ?h ?F ?N ?S ?_); (case h => rfl); (case F => assumption); (case N => assumption); (case S => assumption); intro h' tk' F' N'))
local macro_rules | `(tactic| walk_at "named") => `(tactic| ((with_reducible show (∀ z : Str, z = _ → z.length = _ → _)); intro zz hzz hll tt ttk))
local macro_rules | `(tactic| walk_at "go") => `(tactic| repeat' (first | (k_unfold; (try dsimp only)) | walk_at "named" | (law_purse 300000 => walk1) | (law_purse 300000 => (dsimp only; walk1)) | fail "no step"))
section
namespace Mine

theorem sifmt_spec {w : World} {q : Program} {loose mean mg mb} {dp un : Nat} {fr gd} {s : Shared} {R : Result → Shared → Prop} {n : Int} {tk : Tok}
   (X : Frag.In (H.KR w.params) s.heap) (T : Top q loose mean mg mb s.heap) (hd : dp + 2 < recursionLimit) (hu : un + 20 < cLine) (h0 : 0 ≤ n) (h1 : n < 53248)
   (hret : ∀ v h' tk', Ext s.heap h' → (∃ t, v = .int (Builtin.bitAnd n 61440) t) → R (.ok (.ret v)) {s with heap := h', toks := tk'}) :
   codeAny (model pw w) (⟨none, dp, fr, gd, un⟩ : Around) (.call (.ref 127) ⟨[.int n tk], []⟩) R s := by
  (refine' enterP ?k3 ?k5 ?k6 ?k7 ?k8 ?k9 ?kB ?c2 ?c3 ?c4 ?c5 ?_; (case k3 => assumption); (case k5 => assumption); (case k6 => k_is); (case k7 => k_is); (case k8 => (dsimp only; omega)); (case k9 => first | exact BindsTo.of_eq rfl | exact binds_K (by assumption) rfl (by k_is) rfl rfl rfl); (case c5 => decide); (case kB => exact locs rfl); (case c2 => exact rfl); (case c3 => exact rfl); (case c4 => exact rfl); k_whole; intro _ _ _ _ _; (try dsimp only); (try k_fold))
  walk_at "go"
  subst_vars; exact hret _ _ _ (Fr.keep (by assumption)) ⟨_, rfl⟩

theorem call_sifmt {w : World} {q : Program} {loose mean mg mb} {A : Around} {h₀ : Heap} {L : Addr} {m : Str → Option Value} {news : List (Addr × Obj)} {s : Shared} {Q : Value → Shared → Prop} {E : Value → Shared → Prop} {n : Int} {tk : Tok}
   (hA : A.handled = none) (hd : A.depth + 2 < recursionLimit) (hu : A.units + 20 < cLine) (F : Fr h₀ L s.heap m) (N : News h₀ L s.heap news) (X : Frag.In (H.KR w.params) h₀) (T : Top q loose mean mg mb h₀) (h0 : 0 ≤ n) (h1 : n < 53248)
   (h : ∀ v h' tk', Fr h₀ L h' m → News h₀ L h' news → (∃ t, v = .int (Builtin.bitAnd n 61440) t) → Q v {s with heap := h', toks := tk'}) :
   wpAny (model pw w) A (call (.ref 127) [.int n tk] []) Q E s := by
  obtain ⟨ha, dp, fr, gd, un⟩ := A
  dsimp only at hA hd hu
  subst hA
  exact wpAny_call (sifmt_spec (X.keeps F.keep) (T.keeps F.keep) hd hu h0 h1 fun v h' tk' k p => h v h' tk' (F.keeps k) (N.grown k) p)

theorem scalar_spec {w : World} {q : Program} {loose mean mg mb} {dp un : Nat} {fr gd} {s : Shared} {R : Result → Shared → Prop} {n : Int} {tk : Tok}
   (X : Frag.In (H.KR w.params) s.heap) (T : Top q loose mean mg mb s.heap) (hd : dp + 2 < recursionLimit) (hu : un + 20 < cLine) (h0 : 0 ≤ n) (h1 : n < 53248)
   (hret : ∀ v h' tk', Ext s.heap h' → v = .bool true → R (.ok (.ret v)) {s with heap := h', toks := tk'}) :
   codeAny (model pw w) (⟨none, dp, fr, gd, un⟩ : Around) (.call (.ref 248) ⟨[.int n tk], []⟩) R s := by
  (refine' enterP ?k3 ?k5 ?k6 ?k7 ?k8 ?k9 ?kB ?c2 ?c3 ?c4 ?c5 ?_; (case k3 => assumption); (case k5 => assumption); (case k6 => k_is); (case k7 => k_is); (case k8 => (dsimp only; omega)); (case k9 => first | exact BindsTo.of_eq rfl | exact binds_K (by assumption) rfl (by k_is) rfl rfl rfl); (case c5 => decide); (case kB => exact locs rfl); (case c2 => exact rfl); (case c3 => exact rfl); (case c4 => exact rfl); k_whole; intro _ _ _ _ _; (try dsimp only); (try k_fold))
  walk_at "go"
  subst_vars; exact hret _ _ _ (Fr.keep (by assumption)) (by show Value.bool _ = Value.bool true; rw [decide_eq_true (by omega)])

theorem call_scalar {w : World} {q : Program} {loose mean mg mb} {A : Around} {h₀ : Heap} {L : Addr} {m : Str → Option Value} {news : List (Addr × Obj)} {s : Shared} {Q : Value → Shared → Prop} {E : Value → Shared → Prop} {n : Int} {tk : Tok}
   (hA : A.handled = none) (hd : A.depth + 2 < recursionLimit) (hu : A.units + 20 < cLine) (F : Fr h₀ L s.heap m) (N : News h₀ L s.heap news) (X : Frag.In (H.KR w.params) h₀) (T : Top q loose mean mg mb h₀) (h0 : 0 ≤ n) (h1 : n < 53248)
   (h : ∀ v h' tk', Fr h₀ L h' m → News h₀ L h' news → v = .bool true → Q v {s with heap := h', toks := tk'}) :
   wpAny (model pw w) A (call (.ref 248) [.int n tk] []) Q E s := by
  obtain ⟨ha, dp, fr, gd, un⟩ := A
  dsimp only at hA hd hu
  subst hA
  exact wpAny_call (scalar_spec (X.keeps F.keep) (T.keeps F.keep) hd hu h0 h1 fun v h' tk' k p => h v h' tk' (F.keeps k) (N.grown k) p)

theorem getsep_spec {w : World} {q : Program} {loose mean mg mb} {dp un : Nat} {fr gd} {s : Shared} {R : Result → Shared → Prop} {x : Str} {tk : Tok}
   (X : Frag.In (H.KR w.params) s.heap) (T : Top q loose mean mg mb s.heap) (hd : dp + 2 < recursionLimit) (hu : un + 20 < cLine) (hx : x.length ≤ 1000)
   (hret : ∀ v h' tk', Ext s.heap h' → (∃ t, v = .str (Str.ofString "/") t) → R (.ok (.ret v)) {s with heap := h', toks := tk'}) :
   codeAny (model pw w) (⟨none, dp, fr, gd, un⟩ : Around) (.call (.ref 108) ⟨[.str x tk], []⟩) R s := by
  (refine' enterP ?k3 ?k5 ?k6 ?k7 ?k8 ?k9 ?kB ?c2 ?c3 ?c4 ?c5 ?_; (case k3 => assumption); (case k5 => assumption); (case k6 => k_is); (case k7 => k_is); (case k8 => (dsimp only; omega)); (case k9 => first | exact BindsTo.of_eq rfl | exact binds_K (by assumption) rfl (by k_is) rfl rfl rfl); (case c5 => decide); (case kB => exact locs rfl); (case c2 => exact rfl); (case c3 => exact rfl); (case c4 => exact rfl); k_whole; intro _ _ _ _ _; (try dsimp only); (try k_fold))
  walk_at "go"
  subst_vars; exact hret _ _ _ (Fr.keep (by assumption)) ⟨_, rfl⟩

theorem call_getsep {w : World} {q : Program} {loose mean mg mb} {A : Around} {h₀ : Heap} {L : Addr} {m : Str → Option Value} {news : List (Addr × Obj)} {s : Shared} {Q : Value → Shared → Prop} {E : Value → Shared → Prop} {x : Str} {tk : Tok}
   (hA : A.handled = none) (hd : A.depth + 2 < recursionLimit) (hu : A.units + 20 < cLine) (F : Fr h₀ L s.heap m) (N : News h₀ L s.heap news) (X : Frag.In (H.KR w.params) h₀) (T : Top q loose mean mg mb h₀) (hx : x.length ≤ 1000)
   (h : ∀ v h' tk', Fr h₀ L h' m → News h₀ L h' news → (∃ t, v = .str (Str.ofString "/") t) → Q v {s with heap := h', toks := tk'}) :
   wpAny (model pw w) A (call (.ref 108) [.str x tk] []) Q E s := by
  obtain ⟨ha, dp, fr, gd, un⟩ := A
  dsimp only at hA hd hu
  subst hA
  exact wpAny_call (getsep_spec (X.keeps F.keep) (T.keeps F.keep) hd hu hx fun v h' tk' k p => h v h' tk' (F.keeps k) (N.grown k) p)

theorem skip_spec {w : World} {q : Program} {loose mean mg mb} {dp un : Nat} {fr gd} {s : Shared} {R : Result → Shared → Prop} {x y : Str} {tk tk2 tk3 : Tok} {fs : Addr} {k : Nat} {rest : List Nat}
   (X : Frag.In (H.KR w.params) s.heap) (T : Top q loose mean mg mb s.heap) (hd : dp + 2 < recursionLimit) (hu : un + 20 < cLine) (hx : x.length ≤ 1000) (hy : y.length ≤ 1000) (hk : Builtin.Str.occurrences x y 0 x.length 1 = k :: rest) (hkl : k ≤ x.length) (hS : FSet pw w s.heap fs (fun _ => false))
   (hret : ∀ v h' tk', Ext s.heap h' → (∃ t, v = .int (k : Nat) t) → R (.ok (.ret v)) {s with heap := h', toks := tk'}) :
   codeAny (model pw w) (⟨none, dp, fr, gd, un⟩ : Around) (.call (.ref 227) ⟨[.str x tk, .int 0 tk2, .str y tk3], [(Str.ofString "error_on", .ref fs), (Str.ofString "error_on_eof", .bool true)]⟩) R s := by
  (refine' enterP ?k3 ?k5 ?k6 ?k7 ?k8 ?k9 ?kB ?c2 ?c3 ?c4 ?c5 ?_; (case k3 => assumption); (case k5 => assumption); (case k6 => k_is); (case k7 => k_is); (case k8 => (dsimp only; omega)); (case k9 => first | exact BindsTo.of_eq rfl | exact binds_K (by assumption) rfl (by k_is) rfl rfl rfl); (case c5 => decide); (case kB => exact locs rfl); (case c2 => exact rfl); (case c3 => exact rfl); (case c4 => exact rfl); k_whole; intro _ _ _ _ _; (try dsimp only); (try k_fold))
  walk_at "go"
  subst_vars; exact hret _ _ _ (Fr.keep (by assumption)) ⟨_, rfl⟩

theorem call_skip {w : World} {q : Program} {loose mean mg mb} {A : Around} {h₀ : Heap} {L : Addr} {m : Str → Option Value} {news : List (Addr × Obj)} {s : Shared} {Q : Value → Shared → Prop} {E : Value → Shared → Prop} {x y : Str} {tk tk2 tk3 : Tok} {fs : Addr} {k : Nat} {rest : List Nat}
   (hA : A.handled = none) (hd : A.depth + 2 < recursionLimit) (hu : A.units + 20 < cLine) (F : Fr h₀ L s.heap m) (N : News h₀ L s.heap news) (X : Frag.In (H.KR w.params) h₀) (T : Top q loose mean mg mb h₀) (hx : x.length ≤ 1000) (hy : y.length ≤ 1000) (hk : Builtin.Str.occurrences x y 0 x.length 1 = k :: rest) (hkl : k ≤ x.length) (hS : FSet pw w s.heap fs (fun _ => false))
   (h : ∀ v h' tk', Fr h₀ L h' m → News h₀ L h' news → (∃ t, v = .int (k : Nat) t) → Q v {s with heap := h', toks := tk'}) :
   wpAny (model pw w) A (call (.ref 227) [.str x tk, .int 0 tk2, .str y tk3] [(Str.ofString "error_on", .ref fs), (Str.ofString "error_on_eof", .bool true)]) Q E s := by
  obtain ⟨ha, dp, fr, gd, un⟩ := A
  dsimp only at hA hd hu
  subst hA
  exact wpAny_call (skip_spec (X.keeps F.keep) (T.keeps F.keep) hd hu hx hy hk hkl hS fun v h' tk' k p => h v h' tk' (F.keeps k) (N.grown k) p)

end Mine

end
def Mine.hitS (s : Lean.TSyntax `str) (l : List String) (t : Lean.MacroM Lean.Syntax) : Lean.MacroM Lean.Syntax := if l.contains s.getString then t else throw .unsupportedSyntax
def Mine.stopS (s : Lean.TSyntax `str) (l : List String) : Lean.MacroM Lean.Syntax := Mine.hitS s l do return (← `(tactic| refine Mine.Stop.mk ?_)).raw
local macro_rules | `(tactic| walk_at "dep") => `(tactic| (simp only [depth_deeper]; omega))
local macro_rules | `(tactic| walk_at "uni") => `(tactic| (simp only [units_deeper]; omega))
local macro_rules | `(tactic| walk_at "fact") => `(tactic| (first | assumption | omega | (simp only [Str.length_append]; omega)))
local macro_rules | `(tactic| walk_at "got0") => `(tactic| (k_whole; intro v h' tk' F' N' hv; subst hv))
local macro_rules | `(tactic| walk_at "got1") => `(tactic| (k_whole; intro v h' tk' F' N' hv; obtain ⟨tv, hv⟩ := hv; subst hv))
local macro_rules | `(tactic| walk_at "call ref") => `(tactic| (k_here; (with_reducible show wpAny _ _ (call (Value.ref 127) [Value.int _ _]) _ _ _); (refine' Mine.call_sifmt rfl (by walk_at "dep") (by walk_at "uni") (by k_asm) (by k_asm) (by k_asm) (by k_asm) (by walk_at "fact") (by walk_at "fact") ?_); walk_at "got1"))
local macro_rules | `(tactic| walk_at "call builtin:list.append") => `(tactic| (k_here; (with_reducible show wpAny _ _ (call (Value.builtin _) [Value.ref _, _]) _ _ _); (refine' append_K ?F ?N ?U ?_ ?z); (case F => k_asm); (case N => k_asm); (case U => k_upd); (case z => (rw [sizeLine_eq]; omega)); k_whole; intro h' F' N'))
local macro_rules | `(tactic| walk_at "forE") => `(tactic| (k_here; (rename Fr _ _ _ _ => lF'); (with_unfolding_all refine' Mine.For_E lF' ?_); k_whole))
local macro_rules | `(tactic| walk_at $s) => Mine.hitS s ["exec For Tuple Call", "exec For Name Name cons nil", "exec For Name Call cons nil", "exec For Name ListComp cons nil", "exec For Tuple Call cons nil", "exec For Tuple Name cons nil", "exec For Name", "exec For Name Name", "exec For Name Call", "exec For Tuple Name"] `(tactic| walk_at "forE")
section
namespace Mine

local macro_rules | `(tactic| walk_at $s) => Mine.stopS s ["binaryOp Pow int int", "pyIter ref"]
local macro_rules | `(tactic| walk_at $s) => Mine.hitS s ["exec For Name Tuple cons nil"] `(tactic| walk_at "forE")
noncomputable def sgA (n : Int) : Nat → Str
  | 0 => Txt.item (Str.ofString "?pc?d?b?-?l?s???") (n.fdiv 4096)
  | i + 1 => sgT n (if i = 0 then 6 else if i = 1 then 3 else 0) (sgA n i)
noncomputable def sgJ (N0 : List (Addr × Obj)) (n : Int) (tk : Tok) (i : Nat) (m : Str → Option Value) (n' : List (Addr × Obj)) : Prop :=
  n' = N0 ∧ ∃ (acc : Str) (t : Tok), acc = sgA n i ∧ acc.length = 1 + 3 * i ∧ m (Str.ofString "signs") = some (.str acc t) ∧ m (Str.ofString "mode") = some (.int n tk)
theorem pow_z {prog : Program} {w : World} {A : Around} {E : Value → Shared → Prop} {s : Shared} {z : Int} {t u : Tok} {Q : Value → Shared → Prop} (hz : 0 ≤ z) (hz2 : z ≤ 11) (h : ∀ t' tk', Q (.int (2 ^ z.toNat) t') { s with toks := tk' }) : wpAny (model prog w) A (binaryOp .Pow (.int 2 t) (.int z u)) Q E s := by
  obtain ⟨p, rfl⟩ := Int.eq_ofNat_of_zero_le hz
  refine pow2_small rfl (Int.ofNat_le.mp (Int.le_trans hz2 (by decide : (11 : Int) ≤ ((11 : Nat) : Int))) |> Nat.lt_succ_of_le) fun t' tk' => ?_
  rw [Int.natCast_pow]
  exact h t' tk'
noncomputable def K3 (i : Nat) (k : Int) : Prop := (i = 0 ∧ k = 6) ∨ (i = 1 ∧ k = 3) ∨ (i = 2 ∧ k = 0)
theorem sg_next {n k : Int} {i : Nat} {acc z1 z2 z3 z4 z5 z6 z7 : Str} (hk : K3 i k) (ha : acc = sgA n i)
    (e1 : z1 = pick (decide (3 < (n.fdiv (2 ^ k.toNat)).fmod 8)) (Str.ofString "r") (Str.ofString "-")) (e2 : z2 = acc ++ z1)
    (e3 : z3 = pick ((((n.fdiv (2 ^ k.toNat)).fmod 8).fdiv 2).fmod 2 == 1) (Str.ofString "w") (Str.ofString "-")) (e4 : z4 = z2 ++ z3)
    (e5 : z5 = pick ((n.fdiv (2 ^ (9 + k.fdiv 3).toNat)).fmod 2 == 1) (pick (decide (0 < k)) (Str.ofString "Ss") (Str.ofString "Tt")) (Str.ofString "-x"))
    (e6 : z6 = Txt.item z5 (((n.fdiv (2 ^ k.toNat)).fmod 8).fmod 2)) (e7 : z7 = z4 ++ z6)
    (h : acc.length = 1 + 3 * i) (l1 : z1.length = 1) (l2 : z2.length = acc.length + z1.length) (l3 : z3.length = 1) (l4 : z4.length = z2.length + z3.length) (l6 : z6.length = 1) (l7 : z7.length = z4.length + z6.length) : z7 = sgA n (i + 1) ∧ z7.length = 1 + 3 * (i + 1) := by
  refine ⟨?_, by omega⟩
  clear h l1 l2 l3 l4 l6 l7
  subst e7 e6 e5 e4 e3 e2 e1 ha
  rcases hk with ⟨rfl, rfl⟩ | ⟨rfl, rfl⟩ | ⟨rfl, rfl⟩ <;> rfl
theorem sg_as2 {m : Str → Option Value} {a b : Str} {v u : Value} (h : m a = some v) (h2 : m b = some u) : ∀ y, m y = if y = a then some v else if y = b then some u else m y := fun y => by
  by_cases e : y = a
  · rw [if_pos e, e, h]
  · rw [if_neg e]
    by_cases e2 : y = b
    · rw [if_pos e2, e2, h2]
    · rw [if_neg e2]
theorem signs_spec {w : World} {q : Program} {loose mean mg mb} {dp un : Nat} {fr gd} {s : Shared} {R : Result → Shared → Prop} {n : Int} {tk : Tok}
   (X : Frag.In (H.KR w.params) s.heap) (T : Top q loose mean mg mb s.heap) (hd : dp + 2 < recursionLimit) (hu : un + 20 < cLine) (h0 : 0 ≤ n) (h1 : n < 53248)
   (hret : ∀ v h' tk', Ext s.heap h' → (∃ t, v = .str (sg n) t) → R (.ok (.ret v)) {s with heap := h', toks := tk'}) :
   codeAny (model pw w) (⟨none, dp, fr, gd, un⟩ : Around) (.call (.ref 255) ⟨[.int n tk], []⟩) R s := by
  (refine' enterP ?k3 ?k5 ?k6 ?k7 ?k8 ?k9 ?kB ?c2 ?c3 ?c4 ?c5 ?_; (case k3 => assumption); (case k5 => assumption); (case k6 => k_is); (case k7 => k_is); (case k8 => (dsimp only; omega)); (case k9 => first | exact BindsTo.of_eq rfl | exact binds_K (by assumption) rfl (by k_is) rfl rfl rfl); (case c5 => decide); (case kB => exact locs rfl); (case c2 => exact rfl); (case c3 => exact rfl); (case c4 => exact rfl); k_whole; intro _ _ _ _ _; (try dsimp only); (try k_fold))
  walk_at "go"
  refine Stop.on ?_
  rename Fr _ _ _ _ => F1
  rename News _ _ _ _ => N1
  rename Str.length _ = 1 => hl1
  refine src_tupleN (J := sgJ _ n tk) (Jb := fun _ _ => False) rfl F1 N1 (.head _) (isTup_of N1 (.head _)) ⟨rfl, _, _, rfl, hl1, by with_unfolding_all rfl, by with_unfolding_all rfl⟩ (fun i m n h => h.1 ▸ .head _) ?_ ?_ ?_
  · rintro I hI i x h tk5 m1 n1 hx ⟨rfl, acc, t1, hacc, hal, hs, hm⟩ F2
    refine AllObj.cons fun oi hoi => AllObj.nil fun N2 => ?_
    clear F1 N1
    replace F2 := Mine.Fr.as F2 (sg_as2 hs hm)
    have hi : i < 3 := (Array.getElem?_eq_some_iff.mp hx).1
    dsimp only [List.cons_append, List.nil_append] at N2
    have hk : ∃ k tq, x = .int k tq ∧ K3 i k ∧ 0 ≤ k ∧ k ≤ 11 ∧ 0 ≤ 9 + k.fdiv 3 ∧ 9 + k.fdiv 3 ≤ 11 ∧ (0 : Int) < 2 ^ k.toNat ∧ (0 : Int) < 2 ^ (9 + k.fdiv 3).toNat ∧ (pick (decide (0 < k)) (Str.ofString "Ss") (Str.ofString "Tt")).length = 2 := by
      match i, hi, hx with
      | 0, _, hx => exact ⟨_, _, (Option.some.inj hx).symm, .inl ⟨rfl, rfl⟩, by decide, by decide, by decide, by decide, by decide, by decide, by decide +kernel⟩
      | 1, _, hx => exact ⟨_, _, (Option.some.inj hx).symm, .inr (.inl ⟨rfl, rfl⟩), by decide, by decide, by decide, by decide, by decide, by decide, by decide +kernel⟩
      | 2, _, hx => exact ⟨_, _, (Option.some.inj hx).symm, .inr (.inr ⟨rfl, rfl⟩), by decide, by decide, by decide, by decide, by decide, by decide, by decide +kernel⟩
    clear hx
    obtain ⟨k, tq, rfl, hk, hk0, hk1, hk2, hk3, hd0, he0, hpl⟩ := hk

    walk_at "go"
    refine Stop.on ?_
    refine pow_z hk0 hk1 fun t' tk' => ?_
    dsimp only
    walk_at "go"
    refine Stop.on ?_
    refine pow_z hk2 hk3 fun t' tk' => ?_
    dsimp only
    walk_at "go"
    rename Fr _ _ _ _ => Fz
    rename News _ _ _ _ => Nz
    have h7 := sg_next hk hacc (by assumption) (by assumption) (by assumption) (by assumption) (by assumption) (by assumption) (by assumption) hal (by assumption) (by assumption) (by assumption) (by assumption) (by assumption) (by assumption)
    exact EndW.of Fz Nz [(_, _)] ⟨.head _, trivial⟩ ⟨.tail _ (.head _), trivial⟩ ⟨⟨.inl (Nat.ne_of_lt (hI _ (.head _))), trivial⟩, trivial⟩ ⟨rfl, _, _, h7.1, h7.2, by with_unfolding_all rfl, by with_unfolding_all rfl⟩
  · intro h' tk5 m5 n5 F5 N5 hJ
    clear F1 N1
    obtain ⟨rfl, acc, t1, hacc, hal, hs, hm⟩ := hJ
    replace F5 := Mine.Fr.as F5 (sg_as2 hs hm)
    have e : acc = sg n := hacc
    subst e
    walk_at "go"
    exact hret _ _ _ (Fr.keep (by assumption)) ⟨_, rfl⟩
  · intro h' tk5 m5 n5 F5 N5 hJ
    exact False.elim hJ
theorem call_signs {w : World} {q : Program} {loose mean mg mb} {A : Around} {h₀ : Heap} {L : Addr} {m : Str → Option Value} {news : List (Addr × Obj)} {s : Shared} {Q : Value → Shared → Prop} {E : Value → Shared → Prop} {n : Int} {tk : Tok}
   (hA : A.handled = none) (hd : A.depth + 2 < recursionLimit) (hu : A.units + 20 < cLine) (F : Fr h₀ L s.heap m) (N : News h₀ L s.heap news) (X : Frag.In (H.KR w.params) h₀) (T : Top q loose mean mg mb h₀) (h0 : 0 ≤ n) (h1 : n < 53248)
   (h : ∀ v h' tk', Fr h₀ L h' m → News h₀ L h' news → (∃ t, v = .str (sg n) t) → Q v {s with heap := h', toks := tk'}) :
   wpAny (model pw w) A (call (.ref 255) [.int n tk] []) Q E s := by
  obtain ⟨ha, dp, fr, gd, un⟩ := A
  dsimp only at hA hd hu
  subst hA
  exact wpAny_call (signs_spec (X.keeps F.keep) (T.keeps F.keep) hd hu h0 h1 fun v h' tk' k p => h v h' tk' (F.keeps k) (N.grown k) p)
end Mine

end
section
namespace Mine

local macro_rules | `(tactic| walk_at "call builtin:issubclass") => `(tactic| (k_here; (rename News _ _ _ _ => lN'); (refine' Mine.call_issubclass_str ?h ?_); (case h => exact ⟨_, (lN' _ (.head _)).1, rfl, _, rfl⟩)))

theorem fspath_spec {w : World} {q : Program} {loose mean mg mb} {dp un : Nat} {fr gd} {s : Shared} {R : Result → Shared → Prop} {x : Str} {tk : Tok}
   (X : Frag.In (H.KR w.params) s.heap) (T : Top q loose mean mg mb s.heap) (hd : dp + 2 < recursionLimit) (hu : un + 20 < cLine) (hx : x.length ≤ 1000)
   (hret : ∀ v h' tk', Ext s.heap h' → v = .str x tk → R (.ok (.ret v)) {s with heap := h', toks := tk'}) :
   codeAny (model pw w) (⟨none, dp, fr, gd, un⟩ : Around) (.call (.ref 94) ⟨[.str x tk], []⟩) R s := by
  (refine' enterP ?k3 ?k5 ?k6 ?k7 ?k8 ?k9 ?kB ?c2 ?c3 ?c4 ?c5 ?_; (case k3 => assumption); (case k5 => assumption); (case k6 => k_is); (case k7 => k_is); (case k8 => (dsimp only; omega)); (case k9 => first | exact BindsTo.of_eq rfl | exact binds_K (by assumption) rfl (by k_is) rfl rfl rfl); (case c5 => decide); (case kB => exact locs rfl); (case c2 => exact rfl); (case c3 => exact rfl); (case c4 => exact rfl); k_whole; intro _ _ _ _ _; (try dsimp only); (try k_fold))
  walk_at "go"
  subst_vars; exact hret _ _ _ (Fr.keep (by assumption)) rfl

theorem call_fspath {w : World} {q : Program} {loose mean mg mb} {A : Around} {h₀ : Heap} {L : Addr} {m : Str → Option Value} {news : List (Addr × Obj)} {s : Shared} {Q : Value → Shared → Prop} {E : Value → Shared → Prop} {x : Str} {tk : Tok}
   (hA : A.handled = none) (hd : A.depth + 2 < recursionLimit) (hu : A.units + 20 < cLine) (F : Fr h₀ L s.heap m) (N : News h₀ L s.heap news) (X : Frag.In (H.KR w.params) h₀) (T : Top q loose mean mg mb h₀) (hx : x.length ≤ 1000)
   (h : ∀ v h' tk', Fr h₀ L h' m → News h₀ L h' news → v = .str x tk → Q v {s with heap := h', toks := tk'}) :
   wpAny (model pw w) A (call (.ref 94) [.str x tk] []) Q E s := by
  obtain ⟨ha, dp, fr, gd, un⟩ := A
  dsimp only at hA hd hu
  subst hA
  exact wpAny_call (fspath_spec (X.keeps F.keep) (T.keeps F.keep) hd hu hx fun v h' tk' k p => h v h' tk' (F.keeps k) (N.grown k) p)
end Mine

end
section
namespace Mine

noncomputable def jn (x y : Str) : Str := if Txt.endswith x (Str.ofString "/") = true then x ++ y else x ++ (Str.ofString "/" ++ y)
theorem lookup_path {m : Str → Option Value} {v : Value} (h : m (Str.ofString "path") = some v) : ∀ y, m y = if y = Str.ofString "path" then some v else m y := fun y => by by_cases e : y = Str.ofString "path"; rw [if_pos e, e, h]; rw [if_neg e]
local macro_rules | `(tactic| walk_at "call ref") => `(tactic| (k_here; (with_reducible show wpAny _ _ (call (Value.ref 94) [_] _) _ _ _); (refine' Mine.call_fspath rfl (by walk_at "dep") (by walk_at "uni") (by k_asm) (by k_asm) (by k_asm) (by k_asm) (by walk_at "fact") ?_); walk_at "got0"))
local macro_rules | `(tactic| walk_at "call ref") => `(tactic| (k_here; (with_reducible show wpAny _ _ (call (Value.ref 108) [_] _) _ _ _); (refine' Mine.call_getsep rfl (by walk_at "dep") (by walk_at "uni") (by k_asm) (by k_asm) (by k_asm) (by k_asm) (by walk_at "fact") ?_); walk_at "got1"))

local macro_rules | `(tactic| walk_at $s) => Mine.stopS s ["pyIter ref", "pyIter"]

theorem join_spec {w : World} {q : Program} {loose mean mg mb} {dp un : Nat} {fr gd} {s : Shared} {R : Result → Shared → Prop} {x y : Str} {tk tk2 : Tok}
   (X : Frag.In (H.KR w.params) s.heap) (T : Top q loose mean mg mb s.heap) (hd : dp + 6 < recursionLimit) (hu : un + 60 < cLine) (hx : x.length ≤ 500) (hy : y.length ≤ 500) (hx0 : x.length ≠ 0) (hy0 : Txt.startswith y (Str.ofString "/") = false)
   (hret : ∀ v h' tk', Ext s.heap h' → (∃ t, v = .str (jn x y) t) → R (.ok (.ret v)) {s with heap := h', toks := tk'}) :
   codeAny (model pw w) (⟨none, dp, fr, gd, un⟩ : Around) (.call (.ref 115) ⟨[.str x tk, .str y tk2], []⟩) R s := by
  have hx1 : x.length ≤ 1000 := by omega
  have hy1 : y.length ≤ 1000 := by omega
  refine' enterR (vs := [_]) ?k3 ?k5 ?k6 ?k7 ?k8 ?k9 ?k10 ?kB ?c2 ?c3 ?c4 ?c5 ?_; (case k3 => assumption); (case k5 => assumption); (case k6 => k_is); (case k7 => k_is); (case k8 => (dsimp only; omega)); (case k9 => exact rfl); (case k10 => exact fun D => rfl); (case kB => exact fun D => locs rfl); (case c2 => exact rfl); (case c3 => exact rfl); (case c4 => exact rfl); (case c5 => decide); k_whole; intro D L' hE tkE Fe Ne; (try dsimp only); (try k_fold)
  replace Fe := Mine.Fr.as (m' := fun z => List.lookup z [(Str.ofString "p", .ref D), (Str.ofString "a", .str x tk)]) Fe (fun z => by kernel_rfl)
  walk_at "go"
  refine Stop.on ?_
  rename Fr _ _ _ _ => F1
  rename News _ _ _ _ => N1
  refine src_tupleN (l := D) (o := ({ cls := .type "tuple", data := .seq [Value.str y tk2].toArray } : Obj)) (J := fun i m n => n = [(D, ({ cls := .type "tuple", data := .seq [Value.str y tk2].toArray } : Obj))] ∧ (i = 0 → m = _) ∧ (i = 1 → ∃ t, m (Str.ofString "path") = some (.str (jn x y) t))) (Jb := fun _ _ => False) (items := [Value.str y tk2].toArray) rfl F1 N1 (.head _) (isTup_of N1 (.head _)) ⟨rfl, fun _ => rfl, fun e => by cases e⟩ (fun i m n h => h.1 ▸ .head _) ?_ ?_ ?_
  · intro I hI i xv h tk5 m1 n1 hx5 hJ F2
    obtain ⟨rfl, hm, _⟩ := hJ
    have hi : i = 0 := by rcases i with _ | i; rfl; simp at hx5
    subst hi
    obtain rfl := hm rfl
    have hx6 : Value.str y tk2 = xv := Option.some.inj hx5
    subst hx6
    refine AllObj.cons fun o5 ho5 => AllObj.nil fun N2 => ?_
    clear F1 N1
    walk_at "go"
    all_goals first | (exfalso; rename Txt.startswith y _ = true => h1; rw [hy0] at h1; cases h1) | (exfalso; omega) | skip
    all_goals (rename Fr _ _ _ _ => Fz; rename News _ _ _ _ => Nz; refine EndW.of Fz Nz [(D, _)] ⟨.head _, trivial⟩ ⟨.tail _ (.head _), trivial⟩ ⟨⟨.inl (Nat.ne_of_lt (hI _ (.head _))), trivial⟩, trivial⟩ ?_; refine And.intro rfl (And.intro (fun e => absurd e (Nat.succ_ne_zero _)) (fun _ => ?_)))
    all_goals (rename Txt.endswith x _ = _ => he; subst_vars; unfold jn; rw [he]; simp only [if_true, Bool.false_eq_true, if_false])
    all_goals exact ⟨_, rfl⟩
  · intro h' tk5 m5 n5 F5 N5 hJ
    clear F1 N1
    obtain ⟨rfl, -, hp⟩ := hJ
    obtain ⟨t, hp⟩ := hp rfl
    replace F5 := Mine.Fr.as F5 (lookup_path hp)
    walk_at "go"
    subst_vars; exact hret _ _ _ (Fr.keep (by assumption)) ⟨_, rfl⟩
  · intro h' tk5 m5 n5 F5 N5 hJ
    exact False.elim hJ

theorem call_join {w : World} {q : Program} {loose mean mg mb} {A : Around} {h₀ : Heap} {L : Addr} {m : Str → Option Value} {news : List (Addr × Obj)} {s : Shared} {Q : Value → Shared → Prop} {E : Value → Shared → Prop} {x y : Str} {tk tk2 : Tok}
   (hA : A.handled = none) (hd : A.depth + 6 < recursionLimit) (hu : A.units + 60 < cLine) (F : Fr h₀ L s.heap m) (N : News h₀ L s.heap news) (X : Frag.In (H.KR w.params) h₀) (T : Top q loose mean mg mb h₀) (hx : x.length ≤ 500) (hy : y.length ≤ 500) (hx0 : x.length ≠ 0) (hy0 : Txt.startswith y (Str.ofString "/") = false)
   (h : ∀ v h' tk', Fr h₀ L h' m → News h₀ L h' news → (∃ t, v = .str (jn x y) t) → Q v {s with heap := h', toks := tk'}) :
   wpAny (model pw w) A (call (.ref 115) [.str x tk, .str y tk2] []) Q E s := by
  obtain ⟨ha, dp, fr, gd, un⟩ := A
  dsimp only at hA hd hu
  subst hA
  exact wpAny_call (join_spec (X.keeps F.keep) (T.keeps F.keep) hd hu hx hy hx0 hy0 fun v h' tk' k p => h v h' tk' (F.keeps k) (N.grown k) p)
end Mine

end
section
namespace Mine

local macro_rules | `(tactic| walk_at "assign Tuple") => `(tactic| (k_here; (with_reducible show wpAny _ _ (assign (Expr.Tuple _ _ _) _ (Value.ref _)) _ _ _); (rename Fr _ _ _ _ => lF'); (rename News _ _ _ _ => lN'); (rename IsTup _ _ _ => lT'); k_dflt (refine' unpackN_ lF' lN' lT' ?k0 ?k1 ?k2 ?_; (case k0 => exact rfl); (case k1 => exact rfl); (case k2 => exact rfl)); clear lT'; clear lF' lN'; intro h' F' N'))
theorem filemode_spec {w : World} {q : Program} {loose mean mg mb} {dp un : Nat} {fr gd} {s : Shared} {R : Result → Shared → Prop} {n : Int} {tkn : Tok}
   (X : Frag.In (H.KR w.params) s.heap) (T : Top q loose mean mg mb s.heap) (hd : dp + 4 < recursionLimit) (hu : un + 30 < cLine) (h0 : 0 ≤ n) (h1 : n < 53248)
   (hret : ∀ v h' tk', Ext s.heap h' → (∃ t, v = .str (fm n) t) → R (.ok (.ret v)) {s with heap := h', toks := tk'}) :
   codeAny (model pw w) (⟨none, dp, fr, gd, un⟩ : Around) (.call (.ref 167) ⟨[.int n tkn], []⟩) R s := by
  (refine' enterP ?k3 ?k5 ?k6 ?k7 ?k8 ?k9 ?kB ?c2 ?c3 ?c4 ?c5 ?_; (case k3 => assumption); (case k5 => assumption); (case k6 => k_is); (case k7 => k_is); (case k8 => (dsimp only; omega)); (case k9 => first | exact BindsTo.of_eq rfl | exact binds_K (by assumption) rfl (by k_is) rfl rfl rfl); (case c5 => decide); (case kB => exact locs rfl); (case c2 => exact rfl); (case c3 => exact rfl); (case c4 => exact rfl); k_whole; intro _ _ _ _ _; (try dsimp only); (try k_fold))
  rename Fr _ _ _ _ => Fe
  have Fe := Mine.Fr.as (m' := fun y => List.lookup y [(Str.ofString "mode", Value.int n tkn)]) Fe (fun y => by kernel_rfl)
  have Fe := Mine.Fr.as (m' := fun y => if y = Str.ofString "mode" then some (.int n tkn) else none) Fe (fun y => lookup_one)
  walk_at "go"
  rename Fr _ _ _ _ => F'
  rename News _ _ _ _ => N'
  obtain ⟨its, hI, hsz, hat⟩ := tabs_at X
  obtain ⟨P, F0, N0⟩ : ∃ P, Fr s.heap _ _ (fmM P n tkn none none none none) ∧ News s.heap _ _ [(P, W.listOf #[] 0)] := ⟨_, fm_start F', N'⟩
  clear F' N'
  refine src_enumT (items := its) (fmJ P n tkn) (fun _ _ => False) rfl F0 N0 hI fmJ0 ?_ ?_ ?_
  · rintro I hlt i x t T h tk' m₁ news₁ hx hT ⟨⟨vi, vt, vb, vc, rfl⟩, vs, ep, rfl, hvs⟩ F₁
    obtain ⟨T', ent, ht, rfl, its2, hI2, hsz2, hat2⟩ := hat i x hx
    have hvz := cols_size hvs
    refine AllObj.cons fun oe hoe => AllObj.cons fun oi hoi => AllObj.nil fun N₁ => ?_
    clear N0 F0
    simp only [List.cons_append, List.nil_append] at N₁
    walk_at "go"
    rename Fr _ _ _ _ => F2
    rename News _ _ _ _ => N2
    have F2 := fm_it F2
    refine src_tup (items := its2) (fmI P n tkn i (some (.int i t)) (some (.ref T')) ent vs ep [(I + 1, oe), (I, oi)]) (fmB P n tkn i (some (.int i t)) (some (.ref T')) ent vs [(I + 1, oe), (I, oi)]) rfl F2 N2 hI2 ⟨⟨_, _, rfl⟩, rfl, by simp⟩ ?_ ?_ ?_
    · rintro I2 hlt2 j x2 h2 tk2 m2 news2 hx2 ⟨⟨vb', vc', rfl⟩, rfl, hno⟩ F3
      obtain ⟨e, b, c, tb, tc, hj, rfl, hTe⟩ := hat2 j x2 hx2
      refine AllObj.cons fun oj hoj => AllObj.nil fun N3 => ?_
      have hTe' : IsTup h2 e #[.int b tb, .str c tc] := hTe.at fun o q => F3.keep _ _ q
      clear F2 N2 hTe
      k_lt hlt
      k_lt hlt2
      simp only [List.cons_append, List.nil_append] at N3
      walk_at "go"
      · rename Fr _ _ _ _ => Fz
        rename News _ _ _ _ => Nz
        rename Builtin.bitAnd _ _ = _ => hb
        rename (_ : Int) = 0 => hi
        have Fz := fm_bc Fz
        show EndW _ _ _ _ _ _ _ _
        refine EndW.of (f := .brk) Fz Nz [(I + 1, oe), (I, oi), (P, W.listOf (vs.push (.str c tc)) (ep + 1))] ⟨by simp, trivial⟩ ⟨by simp, by simp, by simp, trivial⟩ (by refine ⟨⟨.inl ?_, trivial⟩, ⟨.inl ?_, trivial⟩, ⟨.inl ?_, trivial⟩, trivial⟩ <;> k_ne) ⟨⟨_, _, rfl⟩, tc, ep + 1, ?_⟩
        rw [colOf_hit hno hj (by rw [hits0 hi, hb, beq_self_eq_true])]
        rfl
      · rename Fr _ _ _ _ => Fz
        rename News _ _ _ _ => Nz
        rename Builtin.bitAnd _ _ ≠ _ => hb
        rename (_ : Int) = 0 => hi
        have Fz := fm_bc Fz
        show EndW _ _ _ _ _ _ _ _
        exact EndW.of (f := .next) Fz Nz [(I + 1, oe), (I, oi), (P, W.listOf vs ep)] ⟨by simp, trivial⟩ ⟨by simp, by simp, by simp, trivial⟩ (by refine ⟨⟨.inl ?_, trivial⟩, ⟨.inl ?_, trivial⟩, ⟨.inl ?_, trivial⟩, trivial⟩ <;> k_ne) ⟨⟨_, _, rfl⟩, rfl, no_succ hno hj (by rw [hits0 hi]; exact beq_eq_false_iff_ne.mpr hb)⟩
      · rename Fr _ _ _ _ => Fz
        rename News _ _ _ _ => Nz
        rename Builtin.bitAnd _ _ = _ => hb
        rename (_ : Int) ≠ 0 => hi
        have Fz := fm_bc Fz
        show EndW _ _ _ _ _ _ _ _
        refine EndW.of (f := .brk) Fz Nz [(I + 1, oe), (I, oi), (P, W.listOf (vs.push (.str c tc)) (ep + 1))] ⟨by simp, trivial⟩ ⟨by simp, by simp, by simp, trivial⟩ (by refine ⟨⟨.inl ?_, trivial⟩, ⟨.inl ?_, trivial⟩, ⟨.inl ?_, trivial⟩, trivial⟩ <;> k_ne) ⟨⟨_, _, rfl⟩, tc, ep + 1, ?_⟩
        rw [colOf_hit hno hj (by rw [hits1 hi, hb, beq_self_eq_true])]
        rfl
      · rename Fr _ _ _ _ => Fz
        rename News _ _ _ _ => Nz
        rename Builtin.bitAnd _ _ ≠ _ => hb
        rename (_ : Int) ≠ 0 => hi
        have Fz := fm_bc Fz
        show EndW _ _ _ _ _ _ _ _
        exact EndW.of (f := .next) Fz Nz [(I + 1, oe), (I, oi), (P, W.listOf vs ep)] ⟨by simp, trivial⟩ ⟨by simp, by simp, by simp, trivial⟩ (by refine ⟨⟨.inl ?_, trivial⟩, ⟨.inl ?_, trivial⟩, ⟨.inl ?_, trivial⟩, trivial⟩ <;> k_ne) ⟨⟨_, _, rfl⟩, rfl, no_succ hno hj (by rw [hits1 hi]; exact beq_eq_false_iff_ne.mpr hb)⟩
    · rintro h5 tk5 m5 news5 F5 N5 ⟨⟨vb5, vc5, rfl⟩, rfl, hno⟩
      rw [hsz2, List.take_length] at hno
      have hcol := colOf_none hno
      clear F2 N2
      k_lt hlt
      simp only [List.cons_append, List.nil_append] at N5
      walk_at "go"
      · rename Fr _ _ _ _ => Fz
        rename News _ _ _ _ => Nz
        rename (_ : Int) = 0 => hi
        show EndW _ _ _ _ _ _ _ _
        rw [dflt0 hi] at hcol
        exact EndW.of2 (f := .next) Fz Nz (by k_ne) (by k_ne) (fmJ_next hcol hvs ht)
      · rename Fr _ _ _ _ => Fz
        rename News _ _ _ _ => Nz
        rename (_ : Int) ≠ 0 => hi
        show EndW _ _ _ _ _ _ _ _
        rw [dflt1 hi] at hcol
        exact EndW.of2 (f := .next) Fz Nz (by k_ne) (by k_ne) (fmJ_next hcol hvs ht)
    · rintro h5 tk5 m5 news5 F5 N5 ⟨⟨vb5, vc5, rfl⟩, t5, ep5, rfl⟩
      clear F2 N2
      k_lt hlt
      simp only [List.cons_append, List.nil_append] at N5
      walk_at "go"
      rename Fr _ _ _ _ => Fz
      rename News _ _ _ _ => Nz
      show EndW _ _ _ _ _ _ _ _
      exact EndW.of2 (f := .next) Fz Nz (by k_ne) (by k_ne) (fmJ_next rfl hvs ht)
  · rintro h5 tk5 m5 news5 F5 N5 ⟨⟨vi, vt, vb, vc, rfl⟩, vs, ep, rfl, hvs⟩
    rw [hsz] at hvs
    walk_at "go"
    refine join_listW ⟨_, (N5 (P, W.listOf vs ep) (by simp)).1, rfl, _, rfl⟩ hvs (by decide +kernel) (cols_weight n) fun t9 k9 => ?_
    exact hret _ _ _ F5.keep ⟨t9, rfl⟩
  · intro h' tk m' news' F'' N'' hJ; exact hJ.elim

end Mine

end
section
namespace Mine

local macro_rules | `(tactic| walk_at "call type:frozenset") => `(tactic| (k_here; (rename Fr _ _ _ _ => lF'); (rename News _ _ _ _ => lN'); (refine' Mine.call_fs_0 ?_); intro h' hx' hS' hz' ho'; (have F' := Fr.keeps lF' hx'); (have N' := News.grown lN' hx'); clear lF' lN' hz' ho'))
local macro_rules | `(tactic| walk_at $s) => Mine.stopS s ["exec While"]
theorem old_spec {w : World} {q : Program} {loose mean mg mb} {dp un : Nat} {fr gd} {s : Shared} {R : Result → Shared → Prop} {x : Str} {p : Nat} {tk1 tk2 : Tok}
   (X : Frag.In (H.KR w.params) s.heap) (T : Top q loose mean mg mb s.heap) (hd : dp + 4 < recursionLimit) (hu : un + 30 < cLine) (hx : x.length ≤ 1000) (hp : p ≤ x.length)
   (hret : ∀ v h' tk', Ext s.heap h' → (∃ k t, v = .int (k : Nat) t ∧ OldIs x.cps.toList p k) → R (.ok (.ret v)) {s with heap := h', toks := tk'}) :
   codeAny (model pw w) (⟨none, dp, fr, gd, un⟩ : Around) (.call (.ref 267) ⟨[.str x tk1, .int (p : Nat) tk2], []⟩) R s := by
  (refine' enterP ?k3 ?k5 ?k6 ?k7 ?k8 ?k9 ?kB ?c2 ?c3 ?c4 ?c5 ?_; (case k3 => assumption); (case k5 => assumption); (case k6 => k_is); (case k7 => k_is); (case k8 => (dsimp only; omega)); (case k9 => first | exact BindsTo.of_eq rfl | exact binds_K (by assumption) rfl (by k_is) rfl rfl rfl); (case c5 => decide); (case kB => exact locs rfl); (case c2 => exact rfl); (case c3 => exact rfl); (case c4 => exact rfl); k_whole; intro _ _ _ _ _; (try dsimp only); (try k_fold))
  rename Fr _ _ _ _ => Fe
  have Fe := Mine.Fr.as (m' := fun y => List.lookup y [(Str.ofString "place", Value.int p tk2), (Str.ofString "text", Value.str x tk1)]) Fe (fun y => by kernel_rfl)
  walk_at "go"
  rename Fr _ _ _ _ => F'
  rename News _ _ _ _ => N'
  have F' := oldM_start F'
  refine Stop.on ?_
  refine While_E (oldJ x tk1 p tk2) F' N' (oldJ0 hp) ?_
  rintro n m₁ news₁ h₁ tk₁ F₁ N₁ ⟨k, t, vp, rfl, rfl, hn, hk, hall⟩
  clear F' N'
  walk_at "go"
  · rename Fr _ _ _ _ => F2
    rename News _ _ _ _ => N2
    rename FSet _ _ _ _ _ => hS
    rename (_ : Int) < _ => hlt
    have hlt' : p + k < x.length := by omega
    obtain ⟨i, r, ho, hip, hoc, hno⟩ := occ_piece (slice_list hlt' (a := p) (b := p + k + 1) rfl (by omega)) hlt'
    refine call_skip rfl (by simp only [depth_deeper]; omega) (by simp only [units_deeper]; omega) F2 N2 X T hx (by omega) ho (by omega) hS ?_
    rintro v h5 tk5 F5 N5 ⟨t5, rfl⟩
    clear F2 N2 hS
    walk_at "go"
    · rename (_ : Int) ≤ _ => hge
      have e : i = p := by omega
      subst e
      exact hret _ _ _ F5.keep ⟨k, t, rfl, old_end hk hall fun _ => hno⟩
    · rename ¬ _ => hge
      rename Fr _ _ _ _ => F6
      rename News _ _ _ _ => N6
      have F6 := oldM_next F6
      exact ⟨_, _, _, _, x.length - p - (k + 1), rfl, F6, N6, by omega, k + 1, _, _, rfl, rfl, rfl, by omega, all_succ hall (by omega) hoc⟩
  · rename ¬ _ => hge
    exact hret _ _ _ F₁.keep ⟨k, t, rfl, old_end hk hall fun q => absurd q (by omega)⟩

end Mine

end
section
namespace Mine

local macro_rules | `(tactic| walk_at "call builtin:frozenset.issuperset") => `(tactic| (k_here; (rename Txt.slice _ _ _ = _ => hsl'); (rw [hsl']); (refine' Mine.fs_issuperset ?h ?F ?N ?S ?hx ?_); (case h => rfl); (case F => assumption); (case N => assumption); (case S => assumption); (case hx => exact hx4_mem (Nat.mod_lt _ (by decide)) (Nat.mod_lt _ (by decide)) (Nat.mod_lt _ (by decide)) (Nat.mod_lt _ (by decide))); intro h' tk' F' N'))
local macro_rules | `(tactic| walk_at "call type:int") => `(tactic| (k_here; (rename Txt.slice _ _ _ = _ => hsl'); (rw [hsl']); (refine' Mine.call_hex4 (Nat.mod_lt _ (by decide)) (Nat.mod_lt _ (by decide)) (Nat.mod_lt _ (by decide)) (Nat.mod_lt _ (by decide)) ?_); (rw [hxN_val (by omega)]); intro t1 tk1))
local macro_rules | `(tactic| walk_at "call ref") => `(tactic| (k_here; (with_reducible show wpAny _ _ (call (Value.ref 248) [Value.int _ _]) _ _ _); (refine' Mine.call_scalar rfl (by walk_at "dep") (by walk_at "uni") (by k_asm) (by k_asm) (by k_asm) (by k_asm) (by walk_at "fact") (by walk_at "fact") ?_); walk_at "got0"))

theorem hex_spec {w : World} {q : Program} {loose mean mg mb} {dp un : Nat} {fr gd} {s : Shared} {R : Result → Shared → Prop} {x : Str} {tk tk2 tk3 : Tok} {i n : Nat}
   (X : Frag.In (H.KR w.params) s.heap) (T : Top q loose mean mg mb s.heap) (hd : dp + 4 < recursionLimit) (hu : un + 30 < cLine) (hx : x.length ≤ 1000) (hi : i + 4 ≤ x.length) (h1 : n < 53248) (hsl : Txt.slice x (some (i : Int)) (some ((i : Int) + 4)) = hxN n)
   (hret : ∀ v h' tk', Ext s.heap h' → (∃ T t u, v = .ref T ∧ h'.get? T = some { cls := .type "tuple", data := .seq #[.int ((i : Int) + 4) t, .str ⟨#[n]⟩ u] } ∧ s.heap.get? T = none) → R (.ok (.ret v)) {s with heap := h', toks := tk'}) :
   codeAny (model pw w) (⟨none, dp, fr, gd, un⟩ : Around) (.call (.ref 234) ⟨[.str x tk, .int i tk2, .int 4 tk3], []⟩) R s := by
  have hF := fset168 X
  (refine' enterP ?k3 ?k5 ?k6 ?k7 ?k8 ?k9 ?kB ?c2 ?c3 ?c4 ?c5 ?_; (case k3 => assumption); (case k5 => assumption); (case k6 => k_is); (case k7 => k_is); (case k8 => (dsimp only; omega)); (case k9 => first | exact BindsTo.of_eq rfl | exact binds_K (by assumption) rfl (by k_is) rfl rfl rfl); (case c5 => decide); (case kB => exact locs rfl); (case c2 => exact rfl); (case c3 => exact rfl); (case c4 => exact rfl); k_whole; intro _ _ _ _ _; (try dsimp only); (try k_fold))
  walk_at "go"
  · exfalso
    rename _ ≠ _ => hne
    rw [hsl] at hne
    exact hne rfl
  · rename News _ _ _ _ => Nz
    have z := Nz _ (.head _)
    exact hret _ _ _ (Fr.keep (by assumption)) ⟨_, _, _, rfl, z.1, z.2.2⟩

theorem call_hex {w : World} {q : Program} {loose mean mg mb} {A : Around} {h₀ : Heap} {L : Addr} {m : Str → Option Value} {news : List (Addr × Obj)} {s : Shared} {Q : Value → Shared → Prop} {E : Value → Shared → Prop} {x : Str} {tk tk2 tk3 : Tok} {i n : Nat}
   (hA : A.handled = none) (hd : A.depth + 4 < recursionLimit) (hu : A.units + 30 < cLine) (F : Fr h₀ L s.heap m) (N : News h₀ L s.heap news) (X : Frag.In (H.KR w.params) h₀) (T : Top q loose mean mg mb h₀) (hx : x.length ≤ 1000) (hi : i + 4 ≤ x.length) (h1 : n < 53248) (hsl : Txt.slice x (some (i : Int)) (some ((i : Int) + 4)) = hxN n)
   (h : ∀ v h' tk', Fr h₀ L h' m → News h₀ L h' news → (∃ T t u, v = .ref T ∧ h'.get? T = some { cls := .type "tuple", data := .seq #[.int ((i : Int) + 4) t, .str ⟨#[n]⟩ u] } ∧ s.heap.get? T = none) → Q v {s with heap := h', toks := tk'}) :
   wpAny (model pw w) A (call (.ref 234) [.str x tk, .int i tk2, .int 4 tk3] []) Q E s := by
  obtain ⟨ha, dp, fr, gd, un⟩ := A
  dsimp only at hA hd hu
  subst hA
  exact wpAny_call (hex_spec (X.keeps F.keep) (T.keeps F.keep) hd hu hx hi h1 hsl fun v h' tk' k p => h v h' tk' (F.keeps k) (N.grown k) p)
end Mine

end
section
namespace Mine

local macro_rules | `(tactic| walk_at "eval ListComp") => `(tactic| (k_here; (rename Fr _ _ _ _ => lF'); k_dflt (refine LCg.ListComp_U (F₀ := lF') (by with_unfolding_all rfl) (by decide) (by rfl) (by decide) (by rfl) ?_)))
local macro_rules | `(tactic| walk_at $s) => Mine.stopS s ["CompSrc"]

local macro_rules | `(tactic| walk_at "subscriptTail") => `(tactic| (k_here; (with_reducible show wpAny _ _ (subscriptTail _ _ (Value.str _ _) (Value.int _ _)) _ _ _); (refine' Mine.item_strs (n := 16) (by decide +kernel) (by omega) (by omega) (by decide) ?_)))
local macro_rules | `(tactic| walk_at "binaryOp FloorDiv int int") => `(tactic| (k_here; (refine floordiv_int (by decide) ?_)))

theorem figs_spec {w : World} {q : Program} {loose mean mg mb} {dp un : Nat} {fr gd} {s : Shared} {R : Result → Shared → Prop} {n : Nat} {tk : Tok}
   (X : Frag.In (H.KR w.params) s.heap) (T : Top q loose mean mg mb s.heap) (hd : dp + 4 < recursionLimit) (hu : un + 30 < cLine) (h1 : n < 53248)
   (hret : ∀ v h' tk', Ext s.heap h' → (∃ t, v = .str (hxN n) t) → R (.ok (.ret v)) {s with heap := h', toks := tk'}) :
   codeAny (model pw w) (⟨none, dp, fr, gd, un⟩ : Around) (.call (.ref 260) ⟨[.int n tk], []⟩) R s := by
  (refine' enterC ?k3 ?k5 ?k6 ?k7 ?k8 ?k9 ?kB ?c5 ?c2 ?c3 ?c4 ?_; (case k3 => assumption); (case k5 => assumption); (case k6 => k_is); (case k7 => k_is); (case k8 => (dsimp only; omega)); (case k9 => first | exact BindsTo.of_eq rfl | exact binds_K (by assumption) rfl (by k_is) rfl rfl rfl); (case c5 => decide +kernel); (case kB => exact rfl); (case c2 => exact rfl); (case c3 => exact rfl); (case c4 => exact rfl); k_whole; intro _ _ _ _ _ NqC YqC; k_cells YqC; (try simp only [List.cons_append, List.nil_append] at NqC); (try dsimp only); (try k_fold))
  walk_at "go"
  rename Fr _ _ _ _ => F'
  rename News _ _ _ _ => N'
  rename IsRange _ _ _ _ _ _ _ _ => hr
  refine Stop.on ?_
  refine LCg.CompSrc.range rfl F' N' hr (by decide) (by rfl) (by first | size_fits | exact Nat.le_of_ble_eq_true rfl) ?_
  intro g
  refine comp_inv (n := 4) (figJ _ _ n) ?_ ?_ 4 0 [] _ rfl figJ0
  · rintro i v ys news I oI C oC D m₂ h tk5 E5 hi ⟨t, rfl⟩ ⟨rfl, hys⟩ hC hx F N off ne
    clear F' N'
    obtain rfl | rfl | rfl | rfl : i = 0 ∨ i = 1 ∨ i = 2 ∨ i = 3 := by omega
    · walk_at "go"
      rename Fr _ _ _ _ => Fz
      rename News _ _ _ _ => Nz
      exact LCg.CompEnd.intro Fz Nz [(_, _)] (fun p hp => hp) off trivial (figJ_next hys (dig_eq (e := 4096) (by decide) (by decide) (by rfl)))
    · walk_at "go"
      rename Fr _ _ _ _ => Fz
      rename News _ _ _ _ => Nz
      exact LCg.CompEnd.intro Fz Nz [(_, _)] (fun p hp => hp) off trivial (figJ_next hys (dig_eq (e := 256) (by decide) (by decide) (by rfl)))
    · walk_at "go"
      rename Fr _ _ _ _ => Fz
      rename News _ _ _ _ => Nz
      exact LCg.CompEnd.intro Fz Nz [(_, _)] (fun p hp => hp) off trivial (figJ_next hys (dig_eq (e := 16) (by decide) (by decide) (by rfl)))
    · walk_at "go"
      rename Fr _ _ _ _ => Fz
      rename News _ _ _ _ => Nz
      exact LCg.CompEnd.intro Fz Nz [(_, _)] (fun p hp => hp) off trivial (figJ_next hys (dig_eq (e := 1) (by decide) (by decide) (by rfl)))
  · rintro ys news ⟨rfl, hys⟩
    unfold LCg.FinE
    intro D h5 tk5 F5 N5 o5
    walk_at "go"
    refine join_listW ⟨_, (N5 (D, LCg.lst ys) (.head _)).1, rfl, _, rfl⟩ (by simpa using hys) (by decide +kernel) (digs_weight n) fun t9 k9 => ?_
    rw [digs_join]
    exact hret _ _ _ F5.keep ⟨t9, rfl⟩

theorem call_figs {w : World} {q : Program} {loose mean mg mb} {A : Around} {h₀ : Heap} {L : Addr} {m : Str → Option Value} {news : List (Addr × Obj)} {s : Shared} {Q : Value → Shared → Prop} {E : Value → Shared → Prop} {n : Nat} {tk : Tok}
   (hA : A.handled = none) (hd : A.depth + 4 < recursionLimit) (hu : A.units + 30 < cLine) (F : Fr h₀ L s.heap m) (N : News h₀ L s.heap news) (X : Frag.In (H.KR w.params) h₀) (T : Top q loose mean mg mb h₀) (h1 : n < 53248)
   (h : ∀ v h' tk', Fr h₀ L h' m → News h₀ L h' news → (∃ t, v = .str (hxN n) t) → Q v {s with heap := h', toks := tk'}) :
   wpAny (model pw w) A (call (.ref 260) [.int n tk] []) Q E s := by
  obtain ⟨ha, dp, fr, gd, un⟩ := A
  dsimp only at hA hd hu
  subst hA
  exact wpAny_call (figs_spec (X.keeps F.keep) (T.keeps F.keep) hd hu h1 fun v h' tk' k p => h v h' tk' (F.keeps k) (N.grown k) p)
end Mine

end
section
namespace Mine

theorem noE {α : Type} {M : Model} {A : Around} {t : Sem α} {Q : α → Shared → Prop} {E : Value → Shared → Prop} {s : Shared} (h : wpAny M A t Q (fun _ _ => False) s) : wpAny M A t Q E s := wpAny_mono h (fun _ _ q => q) fun _ _ e => e.elim
noncomputable def sl : Str := Str.ofString "/"
noncomputable def spJ (ob : List Value → Obj) (N0 : List (Addr × Obj)) (px py : List Str) (i : Nat) (ys : List Value) (news : List (Addr × Obj)) : Prop :=
  (i = 0 ∧ ys = [] ∧ news = N0) ∨ (i = 1 ∧ ∃ D1 v1, ys = [.ref D1] ∧ StrsAre v1 px ∧ news = (D1, ob v1) :: N0) ∨
  (i = 2 ∧ ∃ D1 D2 v1 v2, ys = [.ref D1, .ref D2] ∧ StrsAre v1 px ∧ StrsAre v2 py ∧ news = (D2, ob v2) :: (D1, ob v1) :: N0)
theorem sp_turn {ob : List Value → Obj} {N0 : List (Addr × Obj)} {f : Str → List Str} {x y : Str} {i : Nat} {ys : List Value} {news : List (Addr × Obj)} (hi : i < 2) (hJ : spJ ob N0 (f x) (f y) i ys news) :
    ∃ z, ((i = 0 ∧ z = x) ∨ (i = 1 ∧ z = y)) ∧ (∀ p ∈ N0, p ∈ news) ∧ ∀ D v, StrsAre v (f z) → spJ ob N0 (f x) (f y) (i + 1) (ys ++ [.ref D]) ((D, ob v) :: news) := by
  rcases hJ with ⟨rfl, rfl, rfl⟩ | ⟨rfl, D1, v1, rfl, hv1, rfl⟩ | ⟨rfl, _⟩
  · exact ⟨x, .inl ⟨rfl, rfl⟩, fun p h => h, fun D v h => .inr (.inl ⟨rfl, _, _, rfl, h, rfl⟩)⟩
  · exact ⟨y, .inr ⟨rfl, rfl⟩, fun p h => .tail _ h, fun D v h => .inr (.inr ⟨rfl, _, _, _, _, rfl, hv1, h, rfl⟩)⟩
  · exact absurd hi (Nat.lt_irrefl 2)
noncomputable def keep (c : Str) : Bool := (c.length != 0) && (c != Str.ofString ".")
noncomputable def parts (x : Str) : List Str := (Txt.split x sl).filter keep
noncomputable def cpJ (N0 : List (Addr × Obj)) (m0 : Str → Option Value) (p1 p2 : List Str) (i : Nat) (m : Str → Option Value) (n : List (Addr × Obj)) : Prop :=
  n = N0 ∧ (∀ z, z ≠ Str.ofString "i" → z ≠ Str.ofString "c" → m z = m0 z) ∧ p1.take i = p2.take i
noncomputable def cpB (N0 : List (Addr × Obj)) (p1 p2 : List Str) (m : Str → Option Value) (n : List (Addr × Obj)) : Prop :=
  ∃ K o vs, n = (K, o) :: N0 ∧ o.cls = .type "list" ∧ (∃ k, o.data = .seq vs.toArray k) ∧ m (Str.ofString "common") = some (.ref K) ∧ m (Str.ofString "isabs") = some (.bool true) ∧ StrsAre vs (cmn p1 p2)
section
variable {prog : Program} {w : World} {A : Around} {E : Value → Shared → Prop} {s : Shared} {env : Env} {h₀ : Heap} {target : Expr} {body orelse : List Stmt} {Q : Flow → Shared → Prop}
theorem src_cp {elts : List Expr} {k : Nat} {pos : Pos} {l : Addr} {o : Obj} {items : Array Value} {m₀ : Str → Option Value} {news : List (Addr × Obj)} (p1 p2 : List Str)
    (hh : A.handled = none) (F : Fr h₀ env.locals s.heap m₀) (N : News h₀ env.locals s.heap news) (hm : (l, o) ∈ news) (hl : s.heap.IsList l items)
    (step : ∀ I : Addr, (∀ p ∈ news, p.1 < I) → ∀ i x t T h tk m₁ news₁, items[i]? = some x → IsTup h T #[.int (i : Nat) t, x] → cpJ news m₀ p1 p2 i m₁ news₁ → Fr h₀ env.locals h m₁ → ∀ (Jn Jb : (Str → Option Value) → List (Addr × Obj) → Prop), (∀ m n, cpJ news m₀ p1 p2 (i + 1) m n → Jn m n) → (∀ m n, cpB news p1 p2 m n → Jb m n) → AllObj [(I + 1, "enumerate"), (I, "list_iterator")] (fun its => News h₀ env.locals h (its ++ news₁) →
      wpAny (model prog w) A (assign (.Tuple elts k pos) env (.ref T)) (fun _ s₂ => wpAny (model prog w) A (execs body env) (EndW h₀ env.locals { s with heap := h, toks := tk } its Jn Jb) (fun _ _ => False) s₂) (fun _ _ => False) { s with heap := h, toks := tk }))
    (done : ∀ Q : Flow → Shared → Prop, (∀ h' tk m' news', Fr h₀ env.locals h' m' → News h₀ env.locals h' news' → cpB news p1 p2 m' news' → Q .next { s with heap := h', toks := tk }) → ∀ h' tk m' news', Fr h₀ env.locals h' m' → News h₀ env.locals h' news' → cpJ news m₀ p1 p2 items.size m' news' → wpAny (model prog w) A (execs orelse env) Q E { s with heap := h', toks := tk })
    (hb : ∀ h' tk m' news', Fr h₀ env.locals h' m' → News h₀ env.locals h' news' → cpB news p1 p2 m' news' → Q .next { s with heap := h', toks := tk }) :
    wpAny (model prog w) A (call (.type "enumerate") [.ref l]) (fun xv s₁ => wpAny (model prog w) A (pyIter xv) (fun it s₂ => LoopE prog w A h₀ env (.Tuple elts k pos) body orelse Q E it s₂) E s₁) E s :=
  src_enumN (cpJ news m₀ p1 p2) (cpB news p1 p2) hh F N hm hl ⟨rfl, fun _ _ _ => rfl, rfl⟩ (fun i m n h => h.1 ▸ hm) (fun I hI i x t T h tk m₁ news₁ a b c d => by
    refine AllObj.cons fun oe hoe => AllObj.cons fun oi hoi => AllObj.nil fun N₁ => ?_
    have := (step I hI i x t T h tk m₁ news₁ a b c d _ _ (fun _ _ q => q) (fun _ _ q => q)).at (its := [(I + 1, oe), (I, oi)]) ⟨⟨rfl, hoe⟩, ⟨rfl, hoi⟩, trivial⟩ N₁
    exact wpAny_mono this (fun _ _ q => noE q) fun _ _ e => e.elim) (done Q hb) hb
end
theorem offW_of {its : List (Addr × Obj)} : ∀ {l : List (Addr × Obj)}, (∀ p ∈ l, ∀ q ∈ its, p.1 ≠ q.1) → OffW its l := by
  have one : ∀ (p : Addr × Obj) (its : List (Addr × Obj)), (∀ q ∈ its, p.1 ≠ q.1) → OffW1 p its := by
    intro p its
    induction its with
    | nil => intro _; trivial
    | cons q r ih => intro h; exact ⟨.inl (h q (.head _)), ih fun q' hq => h q' (.tail _ hq)⟩
  intro l
  induction l with
  | nil => intro _; trivial
  | cons p r ih => intro h; exact ⟨one p its (h p (.head _)), ih fun p' hp => h p' (.tail _ hp)⟩
theorem subL_of : ∀ {l all : List (Addr × Obj)}, (∀ p ∈ l, p ∈ all) → SubL l all
  | [], _, _ => trivial
  | p :: r, all, h => ⟨h p (.head _), subL_of fun q hq => h q (.tail _ hq)⟩
theorem end_brk {h₀ : Heap} {L K I : Addr} {oK oe oi : Obj} {N0 : List (Addr × Obj)} {Jn Jb : (Str → Option Value) → List (Addr × Obj) → Prop} {s₁ : Shared} {h' : Heap} {tk : Nat} {m' : Str → Option Value}
    (F : Fr h₀ L h' m') (N : News h₀ L h' ((K, oK) :: ([(I + 1, oe), (I, oi)] ++ N0))) (hI : ∀ p ∈ N0, p.1 < I) (c1 : oK.cls ≠ oe.cls) (c2 : oK.cls ≠ oi.cls) (r : Jb m' ((K, oK) :: N0)) :
    EndW h₀ L s₁ [(I + 1, oe), (I, oi)] Jn Jb .brk { s₁ with heap := h', toks := tk } :=
  EndW.of F N ((K, oK) :: N0) ⟨.tail _ (.head _), .tail _ (.tail _ (.head _)), trivial⟩ ⟨.head _, subL_of fun p hp => .tail _ (.tail _ (.tail _ hp))⟩
    ⟨⟨.inr c1, .inr c2, trivial⟩, offW_of fun p hp q hq e => by
      have := hI p hp
      rcases List.mem_cons.mp hq with rfl | hq
      · exact absurd e (Nat.ne_of_lt (Nat.lt_succ_of_lt this))
      · rw [List.mem_singleton.mp hq] at e; exact absurd e (Nat.ne_of_lt this)⟩ r
theorem end_nxt {h₀ : Heap} {L I : Addr} {oe oi : Obj} {N0 : List (Addr × Obj)} {Jn Jb : (Str → Option Value) → List (Addr × Obj) → Prop} {s₁ : Shared} {h' : Heap} {tk : Nat} {m' : Str → Option Value}
    (F : Fr h₀ L h' m') (N : News h₀ L h' ([(I + 1, oe), (I, oi)] ++ N0)) (hI : ∀ p ∈ N0, p.1 < I) (r : Jn m' N0) :
    EndW h₀ L s₁ [(I + 1, oe), (I, oi)] Jn Jb .next { s₁ with heap := h', toks := tk } :=
  EndW.of F N N0 ⟨.head _, .tail _ (.head _), trivial⟩ (subL_of fun p hp => .tail _ (.tail _ hp))
    (offW_of fun p hp q hq e => by
      have := hI p hp
      rcases List.mem_cons.mp hq with rfl | hq
      · exact absurd e (Nat.ne_of_lt (Nat.lt_succ_of_lt this))
      · rw [List.mem_singleton.mp hq] at e; exact absurd e (Nat.ne_of_lt this)) r
theorem cls_ne {a b : String} (h : a ≠ b) : Value.type a ≠ Value.type b := fun e => h (by injection e)
theorem cmn_mem : ∀ {x y : List Str} {c : Str}, c ∈ cmn x y → c ∈ x
  | [], _, _, h => by simp [cmn] at h
  | _ :: _, [], _, h => by simp [cmn] at h
  | a :: x, b :: y, c, h => by
    unfold cmn at h
    split at h
    · rcases List.mem_cons.mp h with rfl | h
      · exact .head _
      · exact .tail _ (cmn_mem h)
    · cases h
theorem cmn_le : ∀ {x y : List Str}, (cmn x y).length ≤ x.length
  | [], _ => by simp [cmn]
  | _ :: _, [] => by simp [cmn]
  | a :: x, b :: y => by
    unfold cmn
    split
    · exact Nat.succ_le_succ cmn_le
    · exact Nat.zero_le _
theorem sum_le_of {k : Nat} : ∀ (l : List Str), (∀ c ∈ l, c.length ≤ k) → (l.map (·.length)).sum ≤ l.length * k
  | [], _ => Nat.zero_le _
  | a :: l, h => by
    have h1 := sum_le_of l fun c hc => h c (.tail _ hc)
    have h2 := h a (.head _)
    simp only [List.map_cons, List.sum_cons, List.length_cons, Nat.succ_mul]
    omega
theorem cmn_weight {x y : Str} (hsx : (Txt.split x sl).length ≤ 1000) (hlx : ∀ c ∈ Txt.split x sl, c.length ≤ 1000) : ((cmn (parts x) (parts y)).map (·.length)).sum + (cmn (parts x) (parts y)).length ≤ 1048576 := by
  have h1 : (cmn (parts x) (parts y)).length ≤ 1000 := Nat.le_trans cmn_le (Nat.le_trans (List.length_filter_le _ _) hsx)
  have h2 := sum_le_of (k := 1000) (cmn (parts x) (parts y)) fun c hc => hlx c (List.mem_filter.mp (cmn_mem hc)).1
  have h3 := Nat.mul_le_mul_right 1000 h1
  omega
theorem cp_fin {w : World} {A : Around} {E : Value → Shared → Prop} {s : Shared} {Q : Value → Shared → Prop} {r : List Str} {t u : Tok} (hw : (r.map (·.length)).sum + r.length ≤ 1048576)
    (h : ∀ t' tk', Q (.str (sl ++ Txt.join sl r) t') { s with toks := tk' }) : wpAny (model pw w) A (binaryOp .Add (.str (Str.ofString "/") t) (.str (Txt.join (Str.ofString "/") r) u)) Q E s := by
  have h1 : (Txt.join (Str.ofString "/") r).length ≤ 4 * (1048576 + 1) := len_join_le (n := 1048576) (Nat.le_succ_of_le hw) (by decide +kernel)
  have h2 : (Str.ofString "/").length = 1 := by decide +kernel
  exact add_strs (fun z hz hl t' tk' => hz ▸ h t' tk') (by rw [h2, sizeLine_eq]; omega)
theorem keep_f0 {c : Str} (h : (c.length : Int) = 0) : keep c = false := by
  have : c.length = 0 := by omega
  unfold keep; rw [this]; rfl
theorem keep_f1 {c : Str} (h : (c != Str.ofString ".") = false) : keep c = false := by
  unfold keep; rw [h, Bool.and_false]
theorem keep_t {c : Str} (h0 : (c.length : Int) ≠ 0) (h : (c != Str.ofString ".") = true) : keep c = true := by
  have : (c.length != 0) = true := by simp; omega
  unfold keep; rw [h, this]; rfl
theorem keep_step {l : List Str} {i : Nat} {c : Str} (h : l[i]? = some c) : (l.take (i + 1)).filter keep = (l.take i).filter keep ++ (if keep c then [c] else []) := by
  rw [List.take_succ, h, List.filter_append]
  congr 1
  show List.filter keep [c] = _
  cases hk : keep c <;> simp [hk]
theorem keep_no {l : List Str} {i : Nat} {c : Str} {ys : List Value} (h : l[i]? = some c) (hys : StrsAre ys ((l.take i).filter keep)) (hk : keep c = false) : StrsAre ys ((l.take (i + 1)).filter keep) := by
  rw [keep_step h, hk]; simpa using hys
theorem keep_yes {l : List Str} {i : Nat} {c : Str} {t : Tok} {ys : List Value} (h : l[i]? = some c) (hys : StrsAre ys ((l.take i).filter keep)) (hk : keep c = true) : StrsAre (ys ++ [.str c t]) ((l.take (i + 1)).filter keep) := by
  rw [keep_step h, hk]; exact hys.append' (.cons c t .nil)
theorem sub4 {α : Type} {a b c n : α} {L : List α} : ∀ p ∈ a :: b :: c :: n :: L, p ∈ n :: a :: b :: c :: L := by
  intro p hp
  simp only [List.mem_cons] at hp ⊢
  rcases hp with h | h | h | h | h <;> simp [h]

theorem sub6 {α : Type} {a b c n : α} {L L2 : List α} (h : ∀ p ∈ L, p ∈ L2) : ∀ p ∈ a :: b :: c :: n :: L, p ∈ n :: a :: b :: c :: L2 := fun p hp => by
  rcases List.mem_cons.mp hp with rfl | hp
  · exact .tail _ (.head _)
  rcases List.mem_cons.mp hp with rfl | hp
  · exact .tail _ (.tail _ (.head _))
  rcases List.mem_cons.mp hp with rfl | hp
  · exact .tail _ (.tail _ (.tail _ (.head _)))
  rcases List.mem_cons.mp hp with rfl | hp
  · exact .head _
  · exact .tail _ (.tail _ (.tail _ (.tail _ (h p hp))))
theorem news_sub {h₀ : Heap} {L : Addr} {h : Heap} {a b c : Addr × Obj} {M news : List (Addr × Obj)} (N : News h₀ L h (a :: b :: c :: news)) (hs : ∀ p ∈ M, p ∈ news) : News h₀ L h (a :: b :: c :: (M ++ news)) := fun p hp => by
  refine N p ?_
  rcases List.mem_cons.mp hp with rfl | hp
  · exact .head _
  rcases List.mem_cons.mp hp with rfl | hp
  · exact .tail _ (.head _)
  rcases List.mem_cons.mp hp with rfl | hp
  · exact .tail _ (.tail _ (.head _))
  rcases List.mem_append.mp hp with hp | hp
  · exact .tail _ (.tail _ (.tail _ (hs p hp)))
  · exact .tail _ (.tail _ (.tail _ hp))
theorem at_fspath {w : World} {q : Program} {loose mean mg mb} {A : Around} {s : Shared} {Q : Value → Shared → Prop} {E : Value → Shared → Prop} {x : Str} {tk : Tok}
   (hA : A.handled = none) (hd : A.depth + 2 < recursionLimit) (hu : A.units + 20 < cLine) (X : Frag.In (H.KR w.params) s.heap) (T : Top q loose mean mg mb s.heap) (hx : x.length ≤ 1000)
   (h : ∀ h' tk', Ext s.heap h' → Q (.str x tk) {s with heap := h', toks := tk'}) :
   wpAny (model pw w) A (call (.ref 94) [.str x tk] []) Q E s := by
  obtain ⟨ha, dp, fr, gd, un⟩ := A
  dsimp only at hA hd hu
  subst hA
  exact wpAny_call (fspath_spec X T hd hu hx fun v h' tk' k p => p ▸ h h' tk' k)

local macro_rules | `(tactic| walk_at "clrF") => `(tactic| repeat (first | (rename Fr _ _ _ _ => Fx; clear Fx) | (rename News _ _ _ _ => Fx; clear Fx)))
local macro_rules | `(tactic| walk_at "call builtin:str.split") => `(tactic| (k_here; (with_reducible show wpAny _ _ (call (Value.builtin "str.split") _) _ _ _); (refine KSpl.split1 ?F ?N ?hy ?_ ?sz); (case F => k_asm); (case N => k_asm); (case hy => decide +kernel); (case sz => (rw [sizeLine_eq]; omega)); k_whole; intro D' l' h' k' e' a' F' N' l1))
local macro_rules | `(tactic| walk_at "exec Try") => `(tactic| (k_here; refine wpAny_Try_except (Mine.noE ?_)))
local macro_rules | `(tactic| walk_at $s) => Mine.stopS s ["call type:map", "subscriptTail Name Name ref int", "binaryOp Add str str", "call type:tuple", "pyIter ref", "CompSrc", "CompSrcT", "exec Assign cons ListComp", "eval SetComp", "assign Tuple"]

theorem cp_spec {w : World} {q : Program} {loose mean mg mb} {dp un : Nat} {fr gd} {s : Shared} {R : Result → Shared → Prop} {x y : Str} {tkx tky : Tok} {l : Addr}
   (X : Frag.In (H.KR w.params) s.heap) (T : Top q loose mean mg mb s.heap) (hd : dp + 8 < recursionLimit) (hu : un + 80 < cLine) (hx : x.length ≤ 500) (hy : y.length ≤ 500) (hxs : Txt.startswith x (Str.ofString "/") = true) (hys : Txt.startswith y (Str.ofString "/") = true) (hsx : (Txt.split x sl).length ≤ 1000) (hsy : (Txt.split y sl).length ≤ 1000) (hlx : ∀ c ∈ Txt.split x sl, c.length ≤ 1000) (hly : ∀ c ∈ Txt.split y sl, c.length ≤ 1000) (hl : s.heap.IsList l #[.str x tkx, .str y tky])
   (hret : ∀ v h' tk', Ext s.heap h' → (∃ t, v = .str (sl ++ Txt.join sl (cmn (parts x) (parts y))) t) → R (.ok (.ret v)) {s with heap := h', toks := tk'}) :
   codeAny (model pw w) (⟨none, dp, fr, gd, un⟩ : Around) (.call (.ref 120) ⟨[.ref l], []⟩) R s := by
  have hx1 : x.length ≤ 1000 := by omega
  have hy1 : y.length ≤ 1000 := by omega
  refine' enterC ?k3 ?k5 ?k6 ?k7 ?k8 ?k9 ?kB ?c5 ?c2 ?c3 ?c4 ?_; (case k3 => assumption); (case k5 => assumption); (case k6 => k_is); (case k7 => k_is); (case k8 => (dsimp only; omega)); (case k9 => first | exact BindsTo.of_eq rfl | exact binds_K (by assumption) rfl (by k_is) rfl rfl rfl); (case c5 => decide +kernel); (case kB => exact rfl); (case c2 => exact rfl); (case c3 => exact rfl); (case c4 => exact rfl); k_whole; intro L' hE tkE cells Fe Ne Ye; k_cells Ye; (try simp only [List.cons_append, List.nil_append] at Ne); (try dsimp only); (try k_fold)

  replace Fe := Mine.Fr.as (m' := fun z => if z = Str.ofString "paths" then some (.ref l) else none) Fe (fun z => by kernel_rfl)
  walk_at "go"
  refine Stop.on ?_
  rename Fr _ _ _ _ => F1
  rename News _ _ _ _ => N1
  have hl1 := hl.at fun o e => F1.keep l o e
  refine map_make hl1 ?_
  have F2 := F1.keeps (mapHeap_ext _ l (.ref 94))
  have N2 := N1.grown (mapHeap_ext _ l (.ref 94))
  walk_at "go"
  refine Stop.on ?_
  clear F2 N2
  refine' tuple_of_mapH rfl rfl hl1 (Nat.le_of_ble_eq_true rfl) ?_ ?_
  · rintro s' v Q ⟨i, hi⟩ hk hq
    have hv : v = .str x tkx ∨ v = .str y tky := by
      rcases i with _ | _ | i
      · exact .inl (Option.some.inj hi).symm
      · exact .inr (Option.some.inj hi).symm
      · simp at hi
    rcases hv with rfl | rfl
    · exact at_fspath rfl (by simp only [depth_in1, depth_deeper]; omega) (by simp only [units_in1, units_deeper]; omega) (X.keeps fun a o e => hk a o (F1.keep a o e)) (T.keeps fun a o e => hk a o (F1.keep a o e)) hx1 hq
    · exact at_fspath rfl (by simp only [depth_in1, depth_deeper]; omega) (by simp only [units_in1, units_deeper]; omega) (X.keeps fun a o e => hk a o (F1.keep a o e)) (T.keeps fun a o e => hk a o (F1.keep a o e)) hy1 hq
  · intro t h5 tk5 k5 hlt ht
    have F3 := F1.keeps k5
    have N3 := news_cons F1 (N1.grown k5) ht hlt
    clear F1 N1
    walk_at "go"
    refine Stop.on ?_
    rename Fr _ _ _ _ => F4
    rename News _ _ _ _ => N4
    refine Assign_ListComp_W F4 rfl (by with_unfolding_all rfl) (by with_unfolding_all rfl) (by decide) (by rfl) (by decide) (by rfl) (by rfl) (by rfl) ?_
    walk_at "go"
    refine Stop.on ?_
    rename Fr _ _ _ _ => F4
    rename News _ _ _ _ => N4
    refine srcW_tuple rfl F4 N4 (.head _) (Nat.le_of_ble_eq_true rfl) ?_
    intro g
    refine comp_inv (n := 2) (spJ (fun v => listOf v.toArray 0) _ (Txt.split x sl) (Txt.split y sl)) ?_ ?_ 2 0 [] _ rfl (.inl ⟨rfl, rfl, rfl⟩)
    · rintro i v ys news I oI C oC D m₂ h tk5 E5 hi hv hJ hC hx' F N off ne
      clear F4 N4
      have h1 := sp_turn (f := fun z => Txt.split z sl) (x := x) (y := y) hi hJ
      obtain ⟨z, hz, hsub, hnx⟩ := h1
      clear hJ
      replace N := news_sub N hsub
      simp only [List.cons_append, List.nil_append] at N
      have h1 : ∃ tz, v = .str z tz ∧ z.length ≤ 500 ∧ (Txt.split z sl).length ≤ 1000 := by
        rcases hz with ⟨rfl, rfl⟩ | ⟨rfl, rfl⟩
        · exact ⟨_, (Option.some.inj hv).symm, hx, hsx⟩
        · exact ⟨_, (Option.some.inj hv).symm, hy, hsy⟩
      obtain ⟨tz, rfl, hz1, hz2⟩ := h1
      clear hz hv
      have lt0 := fun p hp => Heap.lt_size (N p hp).1
      walk_at "go"
      rename Fr _ _ _ _ => Fz
      rename News _ _ _ _ => Nz
      rename StrsAre _ _ => hs
      rename List.map _ _ = Txt.split _ _ => hsp
      rw [hsp] at hs
      exact LCg.CompEnd.intro Fz Nz ((_, _) :: news) (sub6 (fun p hp => by repeat (first | exact hp | refine List.Mem.tail _ ?_))) ⟨⟨Nat.ne_of_gt (lt0 _ (.head _)), Nat.ne_of_gt (lt0 _ (.tail _ (.head _))), Nat.ne_of_gt (lt0 _ (.tail _ (.tail _ (.head _))))⟩, off⟩ (.tail _ (hsub _ (.head _))) (hnx _ _ hs)
    · rintro ys news hJ
      rcases hJ with ⟨e, _⟩ | ⟨e, _⟩ | ⟨-, D1, D2, v1, v2, rfl, hv1, hv2, rfl⟩
      · cases e
      · cases e
      unfold LCg.FinA
      intro D h6 tk6 F6 N6 o6
      clear F4 N4
      walk_at "go"
      refine Stop.on ?_
      rename Fr _ _ _ _ => F4
      rename News _ _ _ _ => N4
      refine SetComp_true F4 (by with_unfolding_all rfl) (by decide) (by rfl) (by decide) (by rfl) ?_
      walk_at "go"
      rename Fr _ _ _ _ => F4
      rename News _ _ _ _ => N4
      refine Stop.mk ⟨t, #[.str x tkx, .str y tky], 0, _, rfl, rfl, F4, N4, .tail _ (.tail _ (.tail _ (.head _))), Nat.succ_pos _, ?_, ?_⟩
      · intro i v I oI C oC D' oD m₂ h tk7 E' hv hC hx' F N off ne
        clear F4 N4
        have hv' : ∃ z tz, v = .str z tz ∧ z.length ≤ 500 ∧ Txt.startswith z (Str.ofString "/") = true := by
          rcases i with _ | _ | i
          · exact ⟨_, _, (Option.some.inj hv).symm, hx, hxs⟩
          · exact ⟨_, _, (Option.some.inj hv).symm, hy, hys⟩
          · simp at hv
        obtain ⟨z, tz, rfl, hz1, hzs⟩ := hv'
        walk_at "go"
        rename Fr _ _ _ _ => Fz
        rename News _ _ _ _ => Nz
        exact Stop.mk ⟨by rw [hzs], _, _, rfl, Fz, Nz⟩
      · intro D5 h7 tk7 F7 N7 o7
        clear F4 N4
        walk_at "go"
        refine Stop.on ?_
        refine unpack_setT rfl (N7 _ (.head _)).1 rfl rfl ?_
        intro h8 k8
        have F8 := F7.keeps k8
        have N8 := N7.grown k8
        clear F7 N7
        walk_at "go"
        refine Stop.on ?_
        rename Fr _ _ _ _ => F4
        rename News _ _ _ _ => N4
        refine LCg.Assign_ListComp_U F4 rfl (by with_unfolding_all rfl) (by with_unfolding_all rfl) (by decide) (by rfl) (by decide) (by rfl) (by rfl) (by rfl) ?_
        walk_at "go"
        refine Stop.on ?_
        rename Fr _ _ _ _ => F4
        rename News _ _ _ _ => N4
        clear hl1 k5 hlt ht
        refine LCg.CompSrc.ledger rfl F4 N4 (.tail _ (.head _)) (Nat.le_of_ble_eq_true rfl) ?_
        intro g
        refine comp_inv (n := 2) (spJ LCg.lst _ (parts x) (parts y)) ?_ ?_ 2 0 [] _ rfl (.inl ⟨rfl, rfl, rfl⟩)
        · rintro i v ys news I oI C oC D' m₂ h tk9 E9 hi hv hJ hC hx' F N off ne
          clear F4 N4
          have h1 := sp_turn (f := parts) (x := x) (y := y) hi hJ
          obtain ⟨z, hz, hsub, hnx⟩ := h1
          clear hJ
          replace N := news_sub N hsub
          simp only [List.cons_append, List.nil_append] at N
          have h1 : ∃ D0 v0, v = .ref D0 ∧ StrsAre v0 (Txt.split z sl) ∧ (Txt.split z sl).length ≤ 1000 ∧ (∀ c ∈ Txt.split z sl, c.length ≤ 1000) ∧ ((D0 = D1 ∧ v0 = v1) ∨ (D0 = D2 ∧ v0 = v2)) := by
            rcases hz with ⟨rfl, rfl⟩ | ⟨rfl, rfl⟩
            · exact ⟨D1, v1, (Option.some.inj hv).symm, hv1, hsx, hlx, .inl ⟨rfl, rfl⟩⟩
            · exact ⟨D2, v2, (Option.some.inj hv).symm, hv2, hsy, hly, .inr ⟨rfl, rfl⟩⟩
          obtain ⟨D0, v0, rfl, hv0, hsz, hlz, hd0⟩ := h1
          have hmem : (D0, listOf v0.toArray 0) ∈ news := hsub _ (by rcases hd0 with ⟨rfl, rfl⟩ | ⟨rfl, rfl⟩ <;> simp)
          clear hz hv hd0
          have lt0 := fun p hp => Heap.lt_size (N p hp).1
          refine LCt.ListComp_T F (by with_unfolding_all rfl) (by decide) (by rfl) (by decide) (by rfl) ?_
          walk_at "go"
          refine Stop.on ?_
          rename Fr _ _ _ _ => F5
          rename News _ _ _ _ => N5
          refine LCt.CompSrcT.ledger rfl F5 N5 (its := v0.toArray) (k := 0) (by simp [hmem]) (by rw [List.size_toArray, hv0.len_eq, sizeLine_eq]; omega) ?_
          intro g2
          refine comp_invT (n := v0.toArray.size) (fun i ys news => StrsAre ys (((Txt.split z sl).take i).filter keep) ∧ news = _) ?_ ?_ v0.toArray.size 0 [] _ (Nat.zero_add _) ⟨.nil, rfl⟩
          · rintro i v ys news' I2 oI2 C2 oC2 D3 m3 h tk11 E11 hi2 hvi ⟨hys2, rfl⟩ hC2 hx2 F N off2 ne2
            clear F5 N5
            obtain ⟨c, tc, rfl, hc⟩ := hv0.item i v (by simpa using hvi)
            have hcl := hlz c (List.mem_of_getElem? hc)
            walk_at "go"
            all_goals (rename Fr _ _ _ _ => Fz; rename News _ _ _ _ => Nz)
            all_goals exact LCg.CompEnd.intro Fz Nz _ (fun p hp => hp) off2 (.inr ⟨listOf v0.toArray 0, by simp [hmem], rfl, _, rfl⟩) ⟨by first
              | exact keep_no hc hys2 (keep_f0 (by assumption))
              | exact keep_no hc hys2 (keep_f1 (by assumption))
              | exact keep_yes hc hys2 (keep_t (by assumption) (by assumption)), rfl⟩
          · rintro ys' news' ⟨hys2, rfl⟩
            unfold LCg.FinE
            intro G h12 tk12 F12 N12 o12
            rw [List.size_toArray, hv0.len_eq, List.take_length] at hys2
            exact LCg.CompEnd.intro F12 N12 ((G, LCg.lst ys') :: news) (sub6 (fun p hp => by repeat (first | exact hp | refine List.Mem.tail _ ?_))) ⟨⟨Ne.symm o12.1, Ne.symm o12.2.1, Ne.symm o12.2.2.1⟩, off⟩ (.inr ⟨_, .tail _ (hsub _ (.tail _ (.head _))), rfl, _, rfl⟩) (hnx _ _ hys2)
        · rintro ys news hJ
          rcases hJ with ⟨e, _⟩ | ⟨e, _⟩ | ⟨-, G1, G2, w1, w2, rfl, hw1, hw2, rfl⟩
          · cases e
          · cases e
          unfold LCg.FinA
          intro G h13 tk13 F13 N13 o13
          clear F4 N4
          walk_at "go"
          refine min_two (c := ltL (parts y) (parts x)) rfl (isList_of N13 (.head _)) (fun s' Q' E' hk hq => rich_lt hw2 hw1 (hk _ _ (N13 _ (.tail _ (.head _))).1) (hk _ _ (N13 _ (.tail _ (.tail _ (.head _)))).1) (by simp only [units_in1, units_deeper]; omega) hq) ?_
          intro h14 tk14 k14
          have F14 := F13.keeps k14
          have N14 := N13.grown k14
          clear F13 N13
          obtain ⟨S1, u1, p1, e1, N15, hu1, q1⟩ : ∃ S1 u1 p1, (if ltL (parts y) (parts x) = true then Value.ref G2 else Value.ref G1) = Value.ref S1 ∧ News s.heap L' h14 ((S1, LCg.lst u1) :: _) ∧ StrsAre u1 p1 ∧ ((ltL (parts y) (parts x) = true ∧ p1 = parts y) ∨ (ltL (parts y) (parts x) = false ∧ p1 = parts x)) := by
            cases hc : ltL (parts y) (parts x) with
            | true => exact ⟨G2, w2, _, rfl, news_also N14 (.tail _ (.head _)), hw2, .inl ⟨rfl, rfl⟩⟩
            | false => exact ⟨G1, w1, _, rfl, news_also N14 (.tail _ (.tail _ (.head _))), hw1, .inr ⟨rfl, rfl⟩⟩
          rw [e1]
          clear N14 e1
          walk_at "go"
          rename Fr _ _ _ _ => F14
          rename News _ _ _ _ => N14
          refine max_two (c := ltL (parts x) (parts y)) rfl (isList_of N14 (.tail _ (.head _))) (fun s' Q' E' hk hq => rich_gt hw2 hw1 (hk _ _ (N14 _ (.tail _ (.tail _ (.head _)))).1) (hk _ _ (N14 _ (.tail _ (.tail _ (.tail _ (.head _))))).1) (by simp only [units_in1, units_deeper]; omega) hq) ?_
          intro h16 tk16 k16
          have F16 := F14.keeps k16
          have N16 := N14.grown k16
          clear F14 N14
          obtain ⟨S2, u2, p2, e2, N17, hu2, q2⟩ : ∃ S2 u2 p2, (if ltL (parts x) (parts y) = true then Value.ref G2 else Value.ref G1) = Value.ref S2 ∧ News s.heap L' h16 ((S2, LCg.lst u2) :: _) ∧ StrsAre u2 p2 ∧ ((ltL (parts x) (parts y) = true ∧ p2 = parts y) ∨ (ltL (parts x) (parts y) = false ∧ p2 = parts x)) := by
            cases hc : ltL (parts x) (parts y) with
            | true => exact ⟨G2, w2, _, rfl, news_also N16 (.tail _ (.tail _ (.head _))), hw2, .inl ⟨rfl, rfl⟩⟩
            | false => exact ⟨G1, w1, _, rfl, news_also N16 (.tail _ (.tail _ (.tail _ (.head _)))), hw1, .inr ⟨rfl, rfl⟩⟩
          rw [e2]
          clear N16 e2
          obtain ⟨hle, hcm⟩ := pick_mm q1 q2
          walk_at "go"
          rename Fr _ _ _ _ => F18
          rename News _ _ _ _ => N18
          have hp1 : p1.length ≤ 1000 := by
            rcases q1 with ⟨_, rfl⟩ | ⟨_, rfl⟩
            · exact Nat.le_trans (List.length_filter_le _ _) hsy
            · exact Nat.le_trans (List.length_filter_le _ _) hsx
          clear q1 q2 k8 k14 k16 o13 hw1 hw2 hv1 hv2 o6
          revert F18 N18
          walk_at "clrF"
          intro F18 N18
          refine src_cp (l := S1) (o := LCg.lst u1) (items := u1.toArray) p1 p2 rfl F18 N18 (.tail _ (.head _)) (isList_of N18 (.tail _ (.head _))) ?_ ?_ ?_
          · intro I hI i xv ti T' h tk20 m1 n1 hx20 hT ⟨e20, hm, htk⟩ F20 Jn Jb hJn hJb
            subst e20
            refine AllObj.cons fun oe hoe => AllObj.cons fun oi hoi => AllObj.nil fun N20 => ?_
            obtain ⟨c, tc, rfl, hc⟩ := hu1.item i xv (by simpa using hx20)
            clear F18 N18
            refine unpackN_ F20 N20 hT rfl rfl rfl ?_
            intro h21 F21 N21
            clear F20 N20 hT hx20
            have hmI : ∀ z, m1 z = (fun z => if z = Str.ofString "s2" then some (.ref S2) else if z = Str.ofString "s1" then some (.ref S1) else if z = Str.ofString "isabs" then some (.bool true) else m1 z) z := fun z => by
              by_cases e1 : z = Str.ofString "s2"
              · rw [e1, hm _ (by decide) (by decide)]; kernel_rfl
              by_cases e2 : z = Str.ofString "s1"
              · rw [e2, hm _ (by decide) (by decide)]; kernel_rfl
              by_cases e3 : z = Str.ofString "isabs"
              · rw [e3, hm _ (by decide) (by decide)]; kernel_rfl
              dsimp only
              rw [if_neg e1, if_neg e2, if_neg e3]
            replace F21 := Mine.Fr.as F21 hmI
            have hi64 : i < p1.length := (List.getElem?_eq_some_iff.mp hc).1
            obtain ⟨b, hb⟩ : ∃ b, p2[i]? = some b := ⟨_, List.getElem?_eq_getElem (ltL_len hle htk hi64)⟩
            obtain ⟨tb, hb2⟩ := hu2.at hb
            walk_at "go"
            refine Stop.on ?_
            rename News _ _ _ _ => N23
            refine kim_list N23 (a := S2) (lo := LCg.lst u2) (.tail _ (.tail _ (.head _))) rfl rfl (by omega) (by omega) (by simpa using hb2) ?_
            walk_at "go"
            · dsimp only
              rename Fr _ _ _ _ => Fz
              rename News _ _ _ _ => Nz
              rename (c != b) = true => hne
              refine end_brk Fz Nz hI (by rw [hoe]; exact cls_ne (a := "list") (b := "enumerate") (by decide)) (by rw [hoi]; exact cls_ne (a := "list") (b := "list_iterator") (by decide)) (hJb _ _ ⟨_, _, (u1.take i), rfl, rfl, ⟨0, ?_⟩, ?_, ?_, ?_⟩)
              · rw [slicePick_upto']
              · exact if_pos rfl
              · kernel_rfl
              · rw [cmn_brk htk hc hb (by simpa using hne)]
                exact hu1.take' i
            · rename Fr _ _ _ _ => Fz
              rename News _ _ _ _ => Nz
              rename (c != b) = false => hne
              have hcb : c = b := by simpa using hne
              subst hcb
              refine end_nxt Fz Nz hI (hJn _ _ ⟨rfl, fun z hz1 hz2 => ?_, take_snoc htk hc hb⟩)
              dsimp only
              rw [if_neg hz2, if_neg hz1]
              exact (hmI z).symm.trans (hm z hz1 hz2)
          · intro Q' hB h22 tk22 m22 n22 F22 N22 ⟨e22, hm, htk⟩
            subst e22
            have hcm2 : cmn p1 p2 = p1 := cmn_end (by simpa [hu1.len_eq] using htk)
            have hco := (hm (Str.ofString "common") (by decide) (by decide)).trans (show _ = some (Value.ref S1) by kernel_rfl)
            have hia := (hm (Str.ofString "isabs") (by decide) (by decide)).trans (show _ = some (Value.bool true) by kernel_rfl)
            clear hm F18 N18
            refine wpAny_execs_nil ?_
            exact hB _ _ _ _ F22 (news_also N22 (.tail _ (.head _))) ⟨S1, LCg.lst u1, u1, rfl, rfl, ⟨_, rfl⟩, hco, hia, by rw [hcm2]; exact hu1⟩
          · intro h22 tk22 m22 n22 F22 N22 ⟨K, o, vs, e22, ho, ⟨k, hd2⟩, hco, hia, hvs⟩
            subst e22
            have hmI : ∀ z, m22 z = (fun z => if z = Str.ofString "common" then some (.ref K) else if z = Str.ofString "isabs" then some (.bool true) else m22 z) z := fun z => by
              by_cases e1 : z = Str.ofString "common"
              · rw [e1, hco]; kernel_rfl
              by_cases e3 : z = Str.ofString "isabs"
              · rw [e3, hia]; kernel_rfl
              dsimp only
              rw [if_neg e1, if_neg e3]
            replace F22 := Mine.Fr.as F22 hmI
            clear hmI F18 N18
            walk_at "go"
            rename Fr _ _ _ _ => Fz
            rename News _ _ _ _ => Nz
            refine join_listW (items := vs.toArray) ⟨_, (Nz _ (.head _)).1, ho, _, hd2⟩ (by simpa using hvs) (by decide +kernel) (by rw [hcm]; exact cmn_weight hsx hlx) fun t9 k9 => ?_
            rw [hcm]
            walk_at "go"
            refine Stop.on ?_
            exact cp_fin (cmn_weight hsx hlx) fun t' tk' => hret _ _ _ Fz.keep ⟨_, rfl⟩

theorem call_cp {w : World} {q : Program} {loose mean mg mb} {A : Around} {h₀ : Heap} {L : Addr} {m : Str → Option Value} {news : List (Addr × Obj)} {s : Shared} {Q : Value → Shared → Prop} {E : Value → Shared → Prop} {x y : Str} {tkx tky : Tok} {l : Addr}
   (hA : A.handled = none) (hd : A.depth + 8 < recursionLimit) (hu : A.units + 80 < cLine) (F : Fr h₀ L s.heap m) (N : News h₀ L s.heap news) (X : Frag.In (H.KR w.params) h₀) (T : Top q loose mean mg mb h₀) (hx : x.length ≤ 500) (hy : y.length ≤ 500) (hxs : Txt.startswith x (Str.ofString "/") = true) (hys : Txt.startswith y (Str.ofString "/") = true) (hsx : (Txt.split x sl).length ≤ 1000) (hsy : (Txt.split y sl).length ≤ 1000) (hlx : ∀ c ∈ Txt.split x sl, c.length ≤ 1000) (hly : ∀ c ∈ Txt.split y sl, c.length ≤ 1000) (hl : s.heap.IsList l #[.str x tkx, .str y tky])
   (h : ∀ v h' tk', Fr h₀ L h' m → News h₀ L h' news → (∃ t, v = .str (sl ++ Txt.join sl (cmn (parts x) (parts y))) t) → Q v {s with heap := h', toks := tk'}) :
   wpAny (model pw w) A (call (.ref 120) [.ref l] []) Q E s := by
  obtain ⟨ha, dp, fr, gd, un⟩ := A
  dsimp only at hA hd hu
  subst hA
  exact wpAny_call (cp_spec (X.keeps F.keep) (T.keeps F.keep) hd hu hx hy hxs hys hsx hsy hlx hly hl fun v h' tk' k p => h v h' tk' (F.keeps k) (N.grown k) p)
end Mine

end
section
namespace Mine

noncomputable def yy (y : Str) : Str := Str.ofString "/." ++ y ++ Str.ofString "/"
local macro_rules | `(tactic| walk_at "call ref") => `(tactic| (k_here; (with_reducible show wpAny _ _ (call (Value.ref 120) [_] _) _ _ _); refine Mine.Stop.mk ?_))


theorem shared_spec {w : World} {q : Program} {loose mean mg mb} {dp un : Nat} {fr gd} {s : Shared} {R : Result → Shared → Prop} {x y B : Str} {k : Nat} {tkx tky : Tok}
   (X : Frag.In (H.KR w.params) s.heap) (T : Top q loose mean mg mb s.heap) (hd : dp + 10 < recursionLimit) (hu : un + 100 < cLine) (hx : x.length ≤ 200) (hy : y.length ≤ 200) (hxs : Txt.startswith x (Str.ofString "/") = true) (hys : Txt.startswith (yy y) (Str.ofString "/") = true) (hsx : (Txt.split x sl).length ≤ 1000) (hsy : (Txt.split (yy y) sl).length ≤ 1000) (hlx : ∀ c ∈ Txt.split x sl, c.length ≤ 1000) (hly : ∀ c ∈ Txt.split (yy y) sl, c.length ≤ 1000)
   (hB : sl ++ Txt.join sl (cmn (parts x) (parts (yy y))) = B) (hBl : B.length ≤ 500) (hk : k ≤ 14) (hk0 : k = 0 → B = Str.ofString "/") (hk1 : 0 < k → B ≠ Str.ofString "/") (hc : 0 < k → Txt.count B (Str.ofString "/") = (k : Int)) (hs : Txt.slice x none (some (if 11 * (k : Int) > 1 then 11 * (k : Int) else 1)) = B)
   (hret : ∀ v h' tk', Ext s.heap h' → (∃ t, v = .int (k : Int) t) → R (.ok (.ret v)) {s with heap := h', toks := tk'}) :
   codeAny (model pw w) (⟨none, dp, fr, gd, un⟩ : Around) (.call (.ref 274) ⟨[.str x tkx, .str y tky], []⟩) R s := by
  refine' enterP ?k3 ?k5 ?k6 ?k7 ?k8 ?k9 ?kB ?c2 ?c3 ?c4 ?c5 ?_; (case k3 => assumption); (case k5 => assumption); (case k6 => k_is); (case k7 => k_is); (case k8 => (dsimp only; omega)); (case k9 => first | exact BindsTo.of_eq rfl | exact binds_K (by assumption) rfl (by k_is) rfl rfl rfl); (case c5 => decide); (case kB => exact locs rfl); (case c2 => exact rfl); (case c3 => exact rfl); (case c4 => exact rfl); k_whole; intro L' hE tkE Fe Ne; (try dsimp only); (try k_fold)

  walk_at "go"
  refine Stop.on ?_
  rename Fr _ _ _ _ => F1
  rename News _ _ _ _ => N1
  have hyl : (yy y).length ≤ 500 := by
    have e1 : (Str.ofString "/.").length = 2 := by decide +kernel
    have e2 : (Str.ofString "/").length = 1 := by decide +kernel
    show (Str.ofString "/." ++ y ++ Str.ofString "/").length ≤ 500
    simp only [Str.length_append]; omega
  have hx5 : x.length ≤ 500 := by omega
  refine' Mine.call_cp (x := x) (y := yy y) (tkx := tkx) rfl ?dd ?uu F1 N1 X T hx5 hyl hxs hys hsx hsy hlx hly (isList_of N1 (.head _)) ?_
  case dd => simp only [depth_deeper]; omega
  case uu => simp only [units_deeper]; omega
  rintro v h5 tk5 F5 N5 ⟨t5, rfl⟩
  rw [hB]
  clear F1 N1
  rcases Nat.eq_zero_or_pos k with hz | hpos
  · have hB0 := hk0 hz
    subst hz
    have hs0 : Txt.slice x none (some 1) = Str.ofString "/" := hs.trans hB0
    rw [hB0]
    clear hs hc hk1 hk0
    walk_at "go"
    · rename Fr _ _ _ _ => Fz
      exact hret _ _ _ Fz.keep ⟨_, rfl⟩
    · rename (_ == _) = false => hh
      replace hh : (Str.ofString "/" == Txt.slice x none (some 1)) = false := hh
      rw [hs0] at hh
      simp at hh
  · have hne := hk1 hpos
    have hcc := hc hpos
    clear hk0 hk1 hc
    walk_at "go"
    all_goals first
      | (exfalso; rename (B == Str.ofString "/") = true => hh; exact hne (by simpa using hh))
      | (rename (B == Txt.slice _ _ _) = false => hh; rw [hcc, hs] at hh; simp at hh)
      | (rename Fr _ _ _ _ => Fz; exact hret _ _ _ Fz.keep ⟨_, by rw [hcc]⟩)

theorem call_shared {w : World} {q : Program} {loose mean mg mb} {A : Around} {h₀ : Heap} {L : Addr} {m : Str → Option Value} {news : List (Addr × Obj)} {s : Shared} {Q : Value → Shared → Prop} {E : Value → Shared → Prop} {x y B : Str} {k : Nat} {tkx tky : Tok}
   (hA : A.handled = none) (hd : A.depth + 10 < recursionLimit) (hu : A.units + 100 < cLine) (F : Fr h₀ L s.heap m) (N : News h₀ L s.heap news) (X : Frag.In (H.KR w.params) h₀) (T : Top q loose mean mg mb h₀) (hx : x.length ≤ 200) (hy : y.length ≤ 200) (hxs : Txt.startswith x (Str.ofString "/") = true) (hys : Txt.startswith (yy y) (Str.ofString "/") = true) (hsx : (Txt.split x sl).length ≤ 1000) (hsy : (Txt.split (yy y) sl).length ≤ 1000) (hlx : ∀ c ∈ Txt.split x sl, c.length ≤ 1000) (hly : ∀ c ∈ Txt.split (yy y) sl, c.length ≤ 1000)
   (hB : sl ++ Txt.join sl (cmn (parts x) (parts (yy y))) = B) (hBl : B.length ≤ 500) (hk : k ≤ 14) (hk0 : k = 0 → B = Str.ofString "/") (hk1 : 0 < k → B ≠ Str.ofString "/") (hc : 0 < k → Txt.count B (Str.ofString "/") = (k : Int)) (hs : Txt.slice x none (some (if 11 * (k : Int) > 1 then 11 * (k : Int) else 1)) = B)
   (h : ∀ v h' tk', Fr h₀ L h' m → News h₀ L h' news → (∃ t, v = .int (k : Int) t) → Q v {s with heap := h', toks := tk'}) :
   wpAny (model pw w) A (call (.ref 274) [.str x tkx, .str y tky] []) Q E s := by
  obtain ⟨ha, dp, fr, gd, un⟩ := A
  dsimp only at hA hd hu
  subst hA
  exact wpAny_call (shared_spec (X.keeps F.keep) (T.keeps F.keep) hd hu hx hy hxs hys hsx hsy hlx hly hB hBl hk hk0 hk1 hc hs fun v h' tk' k p => h v h' tk' (F.keeps k) (N.grown k) p)
end Mine

end
section
namespace Mine

local macro_rules | `(tactic| walk_at "call ref") => `(tactic| (k_here; (with_reducible show wpAny _ _ (call (Value.ref 279) [_] _) _ _ _); refine Mine.Stop.mk ?_))
local macro_rules | `(tactic| walk_at $s) => Mine.stopS s ["eval ListComp", "pyIter ref", "subscriptTail Name Name ref str", "subscriptTail"]
theorem nests_spec {w : World} {q : Program} {loose mean mg mb} : ∀ (d : Nat) {dp un : Nat} {fr gd} {s : Shared} {R : Result → Shared → Prop} {a : Addr} {n : Nat}
   (X : Frag.In (H.KR w.params) s.heap) (T : Top q loose mean mg mb s.heap) (hd : dp + 2 * d < recursionLimit) (hu : un + 20 * d < cLine) (hn : NestAt w s.heap d a n)
   (hret : ∀ v h' tk', Ext s.heap h' → (∃ t, v = .int (n : Int) t) → R (.ok (.ret v)) {s with heap := h', toks := tk'}),
   codeAny (model pw w) (⟨none, dp, fr, gd, un⟩ : Around) (.call (.ref 279) ⟨[.ref a], []⟩) R s
  | 0, _, _, _, _, _, _, _, _, _, _, _, _, hn, _ => hn.elim
  | d + 1, dp, un, fr, gd, s, R, a, n, X, T, hd, hu, ⟨kvs, hdict, hlen, hsys, hsub, hsum⟩, hret => by
    refine' enterC ?k3 ?k5 ?k6 ?k7 ?k8 ?k9 ?kB ?c5 ?c2 ?c3 ?c4 ?_; (case k3 => assumption); (case k5 => assumption); (case k6 => k_is); (case k7 => k_is); (case k8 => (dsimp only; omega)); (case k9 => first | exact BindsTo.of_eq rfl | exact binds_K (by assumption) rfl (by k_is) rfl rfl rfl); (case c5 => decide +kernel); (case kB => exact rfl); (case c2 => exact rfl); (case c3 => exact rfl); (case c4 => exact rfl); k_whole; intro L' hE tkE cells Fe Ne Ye; k_cells Ye; (try simp only [List.cons_append, List.nil_append] at Ne); (try dsimp only); (try k_fold)

    walk_at "go"
    refine Stop.on ?_
    rename Fr _ _ _ _ => F1
    rename News _ _ _ _ => N1
    refine ListComp_W F1 (by with_unfolding_all rfl) (by decide) (by rfl) (by decide) (by rfl) ?_
    walk_at "go"
    refine Stop.on ?_
    rename Fr _ _ _ _ => F1
    rename News _ _ _ _ => N1
    refine srcW_dict (knd := strKind pw w) rfl F1 N1 hsys hdict (by rw [List.length_map, sizeLine_eq]; omega) ?_
    intro g
    refine comp_inv (n := (kvs.map fun p => (p.1, Value.ref p.2.1)).length) (nsJ _ kvs) ?_ ?_ _ 0 [] _ (Nat.zero_add _) ⟨rfl, .nil⟩
    · rintro i v ys news I oI C oC D m₂ h tk5 E5 hi ⟨k, x, hkx, hkv⟩ ⟨rfl, hys⟩ hC hx' F N off ne
      clear F1 N1
      have hi' : i < kvs.length := by simpa using hi
      have hp : kvs[i]? = some kvs[i] := List.getElem?_eq_getElem hi'
      have hkx' : (kvs[i].1, Value.ref kvs[i].2.1) = (k, x) := by simpa [hi'] using hkx
      obtain ⟨rfl, rfl⟩ := Prod.mk.inj hkx'
      obtain ⟨tt, rfl⟩ := Value.isStrOf_shape hkv
      walk_at "go"
      refine Stop.on ?_
      rename Fr _ _ _ _ => F2
      rename News _ _ _ _ => N2
      have hd2 : Heap.DictOf (strKind pw w) _ a _ := hdict.keep F2.keep
      obtain ⟨_, _, _, _, _, _, _, _, hnd⟩ := id hdict
      refine item_dict (knd := strKind pw w) hd2 hkv (valueAt_get hnd hkx) ?_ (by with_unfolding_all rfl) (by intro _; with_unfolding_all rfl)
      walk_at "go"
      refine Stop.on ?_
      rename Fr _ _ _ _ => F3
      rename News _ _ _ _ => N3
      refine wpAny_call (nests_spec d (X.keeps F3.keep) (T.keeps F3.keep) (by show dp + 1 + 2 * d < _; omega) (by show un + 3 + 20 * d < _; omega) ((hsub _ (List.getElem_mem hi')).keeps F3.keep) ?_)
      rintro v h7 tk7 k7 ⟨t7, rfl⟩
      have F4 := F3.keeps k7
      have N4 := N3.grown k7
      clear F3 N3
      walk_at "go"
      rename Fr _ _ _ _ => Fz
      rename News _ _ _ _ => Nz
      exact LCg.CompEnd.intro Fz Nz _ (fun p hp => hp) off trivial ⟨rfl, nsJ_next hys hp⟩
    · rintro ys news ⟨rfl, hys⟩
      unfold LCg.FinE
      intro D h5 tk5 F5 N5 o5
      clear F1 N1
      walk_at "go"
      rename Fr _ _ _ _ => Fz
      rw [nsum (List.length_map ..), ← hsum]
      exact hret _ _ _ Fz.keep ⟨_, rfl⟩
end Mine

end
section
namespace Mine

noncomputable def ndDict (w : World) (t : Tok) (d0 : Addr) : Obj := dictOf [⟨PyData.keyHash w.params (Str.ofString "dict"), .str (Str.ofString "dict") t, .ref d0⟩] 1
theorem call_nd {w : World} {q : Program} {loose mean mg mb} {A : Around} {h₀ : Heap} {L : Addr} {m : Str → Option Value} {news : List (Addr × Obj)} {s : Shared} {Q : Value → Shared → Prop} {E : Value → Shared → Prop}
   (hA : A.handled = none) (hd : A.depth + 4 < recursionLimit) (hu : A.units + 30 < cLine) (F : Fr h₀ L s.heap m) (N : News h₀ L s.heap news) (X : Frag.In (H.KR w.params) h₀) (T : Top q loose mean mg mb h₀)
   (h : ∀ x dx d0 o0 t h' tk', Fr h₀ L h' m → News h₀ L h' ((d0, o0) :: (x, instObj 216 dx) :: (dx, ndDict w t d0) :: news) → o0.IsDictOf (strKind pw w) [] → (d0 == sysModules) = false → (∀ p ∈ news, p.1 < dx) → dx < x → x < d0 → Q (.ref x) {s with heap := h', toks := tk'}) :
   wpAny (model pw w) A (call (.ref 216) []) Q E s := by
  obtain ⟨ha, dp, fr, gd, un⟩ := A
  dsimp only at hA hd hu
  subst hA
  refine wpAny_call (make_K (K := H.KR w.params) (fI := 198) F N (X.keeps F.keep) (by k_is) (by k_is) (by k_is) ?_)
  intro x dx h1 F1 N1 l1 l2
  replace N1 : News h₀ L h1 ((x, instObj 216 dx) :: (dx, dictOf [] 0) :: news) := N1
  refine' enterF (K := H.KR w.params) F1 N1 X T ?k6 ?k7 ?k8 ?k9 ?kB ?c2 ?c3 ?c4 ?c5 ?_; (case k6 => k_is); (case k7 => k_is); (case k8 => (show dp + 1 < recursionLimit; omega)); (case k9 => first | exact BindsTo.of_eq rfl | exact binds_K (X.keeps (Fr.keep F1)) rfl (by k_is) rfl rfl rfl); (case c5 => decide); (case kB => exact locs rfl); (case c2 => exact rfl); (case c3 => exact rfl); (case c4 => exact rfl); k_whole; intro oL L' hE tkE Fe Ne ltN ltL back; (try dsimp only); (try k_fold)

  have hxL : x ≠ L := (N1 _ (.head _)).2.1
  have hdL : dx ≠ L := (N1 _ (.tail _ (.head _))).2.1
  have hnL : ∀ p ∈ news, p.1 ≠ L := fun p hp => (N1 _ (.tail _ (.tail _ hp))).2.1
  clear F N F1 N1
  walk_at "go"
  rename Fr _ _ _ _ => F2
  rename News _ _ _ _ => N2
  rename L < _ ∧ _ => l3
  obtain ⟨l3a, l3b, l3c, l3d⟩ := l3
  rename Obj.IsDictOf (strKind pw w) _ [] => hs2
  rename (_ == sysModules) = false => hsys
  refine set_dict (K := H.KR w.params) (C := 216) (dx := dx) (es := []) (n := 0) F2 X N2 (InstAt.of_news N2 (.tail _ (.tail _ (.head _))) (.tail _ (.tail _ (.tail _ (.head _))))) rfl (by k_is) (by k_is) (by k_is) (by k_is) rfl rfl
    (.tail (Nat.ne_of_gt l3c) (.tail (Ne.symm hdL) (.tail (Nat.ne_of_gt l2) (.head fun p hp => Nat.ne_of_lt (l1 p hp))))) (Nat.le_of_ble_eq_true rfl) ?_
  intro h7 F7 N7
  clear F2 N2
  walk_at "go"
  obtain ⟨F8, N8⟩ := back _ _ _ F7 (news_swap N7) (fun p hp => by
    rcases List.mem_cons.mp hp with rfl | hp
    · exact Nat.ne_of_gt l3a
    rcases List.mem_cons.mp hp with rfl | hp
    · exact hxL
    rcases List.mem_cons.mp hp with rfl | hp
    · exact hdL
    · exact hnL p hp)
  exact ⟨rfl, h x dx _ _ _ _ _ F8 N8 hs2 hsys l1 l2 l3b⟩
end Mine

end
section
namespace Mine

local macro_rules | `(tactic| walk_at $s) => Mine.stopS s ["pyIter ref", "subscriptTail Name Name ref str", "subscriptTail", "compareOp NotIn str ref", "call builtin:isinstance", "setItem ref", "setItem"]
theorem lookup_cont {m : Str → Option Value} {v : Value} (h : m (Str.ofString "cont") = some v) (ha : m (Str.ofString "access_lists") = some (.bool true)) : ∀ y, m y = (fun y => if y = Str.ofString "cont" then some v else if y = Str.ofString "access_lists" then some (.bool true) else m y) y := fun y => by
  by_cases e : y = Str.ofString "cont"
  · dsimp only; rw [if_pos e, e, h]
  by_cases e2 : y = Str.ofString "access_lists"
  · dsimp only; rw [if_neg e, if_pos e2, e2, ha]
  dsimp only; rw [if_neg e, if_neg e2]
noncomputable def geJ (w : World) (pre : List (Addr × Obj)) (ts : TS) (ks : List Str) (i : Nat) (m : Str → Option Value) (n : List (Addr × Obj)) : Prop :=
  ∃ t : TS, n = pre ++ t.news ∧ WF w t ∧ t.ρ [] = ts.ρ [] ∧ ks.take i ∈ t.W ∧ addW ts.W [] ks = addW t.W (ks.take i) (ks.drop i) ∧ m (Str.ofString "cont") = some (.ref (t.ρ (ks.take i))) ∧ m (Str.ofString "access_lists") = some (.bool true) ∧
    (∀ p ∈ pre, ∀ u ∈ t.W, p.1 ≠ t.ρ u) ∧ t.W.length ≤ ts.W.length + i
theorem call_get {w : World} {q : Program} {loose mean mg mb} {A : Around} {h₀ : Heap} {L : Addr} {m : Str → Option Value} {pre : List (Addr × Obj)} {ts : TS} {s : Shared} {Q : Value → Shared → Prop} {E : Value → Shared → Prop}
   {x dx T : Addr} {tt : Tok} {vals : List Value} {ks : List Str} {c : Nat}
   (hA : A.handled = none) (hd : A.depth + 4 < recursionLimit) (hu : A.units + 30 < cLine) (F : Fr h₀ L s.heap m) (N : News h₀ L s.heap (pre ++ ts.news)) (X : Frag.In (H.KR w.params) h₀) (Tp : Top q loose mean mg mb h₀)
   (hx : (x, instObj 216 dx) ∈ pre) (hdx : (dx, ndDict w tt (ts.ρ [])) ∈ pre) (hT : (T, ({ cls := .type "tuple", data := .seq vals.toArray c } : Obj)) ∈ pre) (hks : StrsAre vals ks) (wf : WF w ts)
   (hoff : ∀ p ∈ pre, ∀ u ∈ ts.W, p.1 ≠ ts.ρ u) (hsz : ts.W.length ≤ 1000) (hkl : ks.length ≤ 100)
   (h : ∀ v h' tk' (t : TS), Fr h₀ L h' m → News h₀ L h' (pre ++ t.news) → WF w t → t.ρ [] = ts.ρ [] → t.W = addW ts.W [] ks → (∀ p ∈ pre, ∀ u ∈ t.W, p.1 ≠ t.ρ u) → Q v {s with heap := h', toks := tk'}) :
   wpAny (model pw w) A (call (.ref 206) [.ref x, .ref T]) Q E s := by
  obtain ⟨ha, dp, fr, gd, un⟩ := A
  dsimp only at hA hd hu
  subst hA
  refine wpAny_call ?_
  refine' enterF (K := H.KR w.params) (binds := [(Str.ofString "self", .ref x), (Str.ofString "key", .ref T), (Str.ofString "access_lists", .bool true)]) F N X Tp ?k6 ?k7 ?k8 ?k9 ?kB ?c2 ?c3 ?c4 ?c5 ?_; (case k6 => k_is); (case k7 => k_is); (case k8 => (show dp < recursionLimit; omega)); (case k9 => exact binds_peek (X.keeps (Fr.keep F)) (fun S => by kernel_rfl)); (case c5 => decide); (case kB => exact locs rfl); (case c2 => exact rfl); (case c3 => exact rfl); (case c4 => exact rfl); k_whole; intro oL L' hE tkE Fe Ne ltN ltL back; (try dsimp only); (try k_fold)

  clear F
  have hLu : ∀ u ∈ ts.W, L ≠ ts.ρ u := fun u hu e => (N (ts.ρ u, ts.ob u) (List.mem_append_right _ (List.mem_map.mpr ⟨u, hu, rfl⟩))).2.1 e.symm
  have hpL : ∀ p ∈ pre, p.1 ≠ L := fun p hp => (N p (List.mem_append_left _ hp)).2.1
  clear N
  walk_at "go"
  refine get_own (K := H.KR w.params) (C := 216) (v := .ref (ts.ρ [])) (attr := none) Fe X (InstAt.of_news Ne (.tail _ (List.mem_append_left _ hx)) (.tail _ (List.mem_append_left _ hdx))) (by k_is) (by k_is) (by k_is) (by k_is) rfl rfl ?_
  walk_at "go"
  refine Stop.on ?_
  rename Fr _ _ _ _ => F1
  rename News _ _ _ _ => N1
  have mT : (T, ({ cls := .type "tuple", data := .seq vals.toArray c } : Obj)) ∈ (L, oL) :: pre := .tail _ hT
  refine src_tupleN (l := T) (o := ({ cls := .type "tuple", data := .seq vals.toArray c } : Obj)) (items := vals.toArray) (J := geJ w ((L, oL) :: pre) ts ks) (Jb := fun _ _ => False) rfl F1 N1 (List.mem_append_left _ mT) (isTup_of N1 (List.mem_append_left _ mT))
    ⟨ts, rfl, wf, rfl, wf.root, rfl, if_pos rfl, by kernel_rfl, ?_, Nat.le_refl _⟩ (fun i m n hj => by obtain ⟨t, rfl, _⟩ := hj; exact List.mem_append_left _ mT) ?_ ?_ ?_
  · intro p hp u hu
    rcases List.mem_cons.mp hp with rfl | hp
    · exact hLu u hu
    · exact hoff p hp u hu
  · rintro I hI i xv h2 tk5 m1 n1 hx5 ⟨t, rfl, wft, hr, hin, hadd, hco, hal, hof, hln⟩ F2
    refine AllObj.cons fun oi hoi => AllObj.nil fun N2 => ?_
    have hIp : ∀ p ∈ (L, oL) :: pre, p.1 < I := fun p hp => hI p (by rcases List.mem_cons.mp hp with rfl | hp; exact .head _; exact .tail _ (List.mem_append_left _ hp))
    clear F1 N1
    obtain ⟨cc, tc, rfl, hc⟩ := hks.item i xv (by simpa using hx5)
    replace F2 := Mine.Fr.as F2 (lookup_cont hco hal)
    have htk : ks.take (i + 1) = ks.take i ++ [cc] := by
      obtain ⟨hi, e⟩ := List.getElem?_eq_some_iff.mp hc
      rw [List.take_succ_eq_append_getElem hi, e]
    walk_at "go"
    refine Stop.on ?_
    rename Fr _ _ _ _ => F3
    rename News _ _ _ _ => N3
    have hd3 := WF.dict (pre := (I, oi) :: (L, oL) :: pre) wft N3 hin
    refine wpAny_notIn_of (knd := strKind pw w) (strKind_is pw w cc tc) (wft.sys _ hin) hd3.mapOf ?_
    by_cases hw : ks.take i ++ [cc] ∈ t.W
    · rw [wft.here hin hw]
      simp only [Option.isSome_some, Bool.not_true]
      walk_at "go"
      refine Stop.on ?_
      rename Fr _ _ _ _ => F6
      rename News _ _ _ _ => N6
      have hd6 := WF.dict (pre := (I, oi) :: (L, oL) :: pre) wft N6 hin
      refine item_dict (knd := strKind pw w) hd6 (strKind_is pw w cc tc) (wft.here hin hw) ?_ (by with_unfolding_all rfl) (by intro _; with_unfolding_all rfl)
      walk_at "go"
      refine Stop.on ?_
      rename Fr _ _ _ _ => F7
      rename News _ _ _ _ => N7
      obtain ⟨o7, ho7, hc7⟩ := WF.obj (pre := (I, oi) :: (L, oL) :: pre) wft N7 hw
      refine dict_not_list ho7 hc7 fun tk8 => ?_
      walk_at "go"
      refine Stop.on ?_
      rename Fr _ _ _ _ => F8
      rename News _ _ _ _ => N8
      obtain ⟨o8, ho8, hc8⟩ := WF.obj (pre := (I, oi) :: (L, oL) :: pre) wft N8 hw
      refine dict_is_dict ho8 hc8 ?_
      walk_at "go"
      rename Fr _ _ _ _ => Fz
      rename News _ _ _ _ => Nz
      refine EndW.of Fz Nz ((L, oL) :: pre ++ t.news) ⟨.head _, trivial⟩ (subL_of' fun p hp => .tail _ hp) (offW_of' fun p hp q hq e => ?_) (show geJ _ _ _ _ _ _ _ from ⟨t, rfl, wft, hr, htk ▸ hw, ?_, ?_, ?_, hof, ?_⟩)
      · rw [List.mem_singleton.mp hq] at e
        exact off_iter wft Nz hoi hIp p hp e
      · rw [hadd, addW_take hc, if_pos hw]
      · rw [htk]; exact if_pos rfl
      · kernel_rfl
      · omega
    · rw [wft.away hin hw]
      simp only [Option.isSome_none, Bool.not_false]
      walk_at "go"
      rename Fr _ _ _ _ => F4
      rename News _ _ _ _ => N4
      rename Obj.IsDictOf (strKind pw w) _ [] => hempty
      rename (_ == sysModules) = false => hsysA
      rename AllLt _ _ => hlt
      replace hlt := allLt_mem hlt
      rename_i dA hA4 oA _ _ _
      refine Stop.on ?_
      have mem4 : ∀ v ∈ t.W, (t.ρ v, t.ob v) ∈ [(I, oi)] ++ ((L, oL) :: pre ++ t.news) := fun v hv => .tail _ (mem_news hv)
      have hAlt : ∀ v ∈ t.W, t.ρ v ≠ dA := fun v hv => Nat.ne_of_lt (hlt _ (mem4 v hv))
      refine wpAny_setItem_pairs (knd := strKind pw w) (strKind_is pw w cc tc) (WF.dict (pre := (dA, oA) :: (I, oi) :: (L, oL) :: pre) wft N4 hin) (fun h5 hd5 hs5 => ?_) ?_
      · obtain ⟨oU, hoU, hU⟩ := Heap.dictOf_iff.mp hd5
        rw [stored_absent (wft.away hin hw)] at hU
        have wf2 := wft.grow hin hw hAlt hsysA hempty hU
        have N5 := grow_news (pre := (I, oi) :: (L, oL) :: pre) wft hin hw N4 hs5 hoU hAlt (fun p hp e => by
          rcases List.mem_cons.mp hp with rfl | hp
          · exact off_iter wft (fun p hp => N4 p (.tail _ hp)) hoi hIp _ (mem_news hin) e.symm
          · exact hof p hp _ hin e)
        have F5 := F4.change hs5 (N4 _ (.tail _ (mem4 _ hin))).2.1 (N4 _ (.tail _ (mem4 _ hin))).2.2
        have hof2 : ∀ p ∈ (L, oL) :: pre, ∀ u ∈ (t.grow (ks.take i) cc dA oA oU).W, p.1 ≠ (t.grow (ks.take i) cc dA oA oU).ρ u := by
          intro p hp u hu e
          have e' : p.1 = (if u = ks.take i ++ [cc] then dA else t.ρ u) := e
          by_cases eu : u = ks.take i ++ [cc]
          · rw [if_pos eu] at e'
            exact Nat.ne_of_lt (hlt p (List.mem_append_right _ (List.mem_append_left _ hp))) e'
          · rw [if_neg eu] at e'
            exact hof p hp u ((List.mem_append.mp hu).resolve_right fun h => eu (List.mem_singleton.mp h)) e'
        have hin2 : ks.take i ∈ (t.grow (ks.take i) cc dA oA oU).W := List.mem_append_left _ hin
        have hw2 : ks.take i ++ [cc] ∈ (t.grow (ks.take i) cc dA oA oU).W := List.mem_append_right _ (List.mem_singleton.mpr rfl)
        have hρ : (t.grow (ks.take i) cc dA oA oU).ρ (ks.take i) = t.ρ (ks.take i) := if_neg (snoc_ne _ _).symm
        have hr2 : (t.grow (ks.take i) cc dA oA oU).ρ [] = ts.ρ [] := (if_neg (fun e => by have := congrArg List.length e; simp at this)).trans hr
        have hln2 : (t.grow (ks.take i) cc dA oA oU).W.length ≤ ts.W.length + (i + 1) := by
          show (t.W ++ [_]).length ≤ _
          rw [List.length_append, List.length_singleton]; omega
        have hadd2 : addW ts.W [] ks = addW (t.grow (ks.take i) cc dA oA oU).W (ks.take (i + 1)) (ks.drop (i + 1)) := by rw [hadd, addW_take hc, if_neg hw]; rfl
        generalize t.grow (ks.take i) cc dA oA oU = t2 at *
        clear F4 N4 hs5 hoU hU hd5 hempty hlt mem4
        walk_at "go"
        refine Stop.on ?_
        rename Fr _ _ _ _ => F6
        rename News _ _ _ _ => N6
        have hd6 := WF.dict (pre := (I, oi) :: (L, oL) :: pre) wf2 N6 hin2
        rw [hρ] at hd6
        refine item_dict (knd := strKind pw w) hd6 (strKind_is pw w cc tc) (wf2.here hin2 hw2) ?_ (by with_unfolding_all rfl) (by intro _; with_unfolding_all rfl)
        walk_at "go"
        refine Stop.on ?_
        rename Fr _ _ _ _ => F7
        rename News _ _ _ _ => N7
        obtain ⟨o7, ho7, hc7⟩ := WF.obj (pre := (I, oi) :: (L, oL) :: pre) wf2 N7 hw2
        refine dict_not_list ho7 hc7 fun tk8 => ?_
        walk_at "go"
        refine Stop.on ?_
        rename Fr _ _ _ _ => F8
        rename News _ _ _ _ => N8
        obtain ⟨o8, ho8, hc8⟩ := WF.obj (pre := (I, oi) :: (L, oL) :: pre) wf2 N8 hw2
        refine dict_is_dict ho8 hc8 ?_
        walk_at "go"
        rename Fr _ _ _ _ => Fz
        rename News _ _ _ _ => Nz
        refine EndW.of Fz Nz ((L, oL) :: pre ++ t2.news) ⟨.head _, trivial⟩ (subL_of' fun p hp => .tail _ hp) (offW_of' fun p hp q hq e => ?_) (show geJ _ _ _ _ _ _ _ from ⟨t2, rfl, wf2, hr2, htk ▸ hw2, ?_, ?_, ?_, hof2, ?_⟩)
        · rw [List.mem_singleton.mp hq] at e
          exact off_iter wf2 Nz hoi hIp p hp e
        · exact hadd2
        · rw [htk]; exact if_pos rfl
        · kernel_rfl
        · exact hln2
      · have := wft.sz _ hin
        have hi' := (List.getElem?_eq_some_iff.mp hc).1
        show (t.kvs _).length ≤ _
        unfold TS.kvs
        rw [List.length_map, sizeLine_eq]
        omega
  · rintro h2 tk5 m5 n5 F5 N5 ⟨t, rfl, wft, hr, hin, hadd, hco, hal, hof, hln⟩
    clear F1 N1
    replace F5 := Mine.Fr.as F5 (lookup_cont hco hal)
    have hlen : vals.toArray.size = ks.length := by rw [List.size_toArray]; exact hks.len_eq
    rw [hlen, List.take_length, List.drop_length] at hadd
    walk_at "go"
    rename Fr _ _ _ _ => Fz
    rename News _ _ _ _ => Nz
    have hne : ∀ p ∈ pre ++ t.news, p.1 ≠ L := by
      intro p hp e
      rcases List.mem_append.mp hp with hp | hp
      · exact hpL p hp e
      · obtain ⟨v, hv, rfl⟩ := List.mem_map.mp hp
        exact hof _ (.head _) v hv e.symm
    obtain ⟨F9, N9⟩ := back _ _ (pre ++ t.news) Fz Nz hne
    exact h _ _ _ t F9 N9 wft hr hadd.symm (fun p hp => hof p (.tail _ hp))
  · intro h2 tk5 m5 n5 F5 N5 hJ
    exact False.elim hJ
end Mine

end
section
namespace Mine
section
variable {T : Type} (le : T → T → Prop) (f : T → T → Nat)
noncomputable def adj : List T → List Nat
  | a :: b :: r => f a b :: adj (b :: r)
  | _ => []
noncomputable def mx (x : T) : List T → Nat
  | [] => 0
  | y :: r => max (f x y) (mx x r)
variable [DecidableRel le]
noncomputable def ins (x : T) : List T → List T
  | [] => [x]
  | y :: r => if le x y then x :: y :: r else y :: ins x r
noncomputable def shs (l : List T) : List Nat := match l with
  | [] => []
  | _ => 0 :: adj f l
end
section
variable {T : Type} {le : T → T → Prop} {f : T → T → Nat} [DecidableRel le]
theorem mx_le {x : T} {k : Nat} : ∀ {l : List T}, (∀ y ∈ l, f x y ≤ k) → mx f x l ≤ k
  | [], _ => Nat.zero_le _
  | y :: r, h => Nat.max_le.mpr ⟨h y (.head _), mx_le fun z hz => h z (.tail _ hz)⟩
theorem le_mx {x y : T} : ∀ {l : List T}, y ∈ l → f x y ≤ mx f x l
  | z :: r, h => by
    rcases List.mem_cons.mp h with rfl | h
    · exact Nat.le_max_left _ _
    · exact Nat.le_trans (le_mx h) (Nat.le_max_right _ _)
variable (tot : ∀ a b, le a b ∨ le b a) (tr : ∀ a b c, le a b → le b c → le a c) (sy : ∀ a b, f a b = f b a)
  (mid : ∀ a x b, le a x → le x b → f a b = min (f a x) (f x b))
include tot tr sy mid
theorem ins_adj (x : T) : ∀ (y : T) (r : List T), (y :: r).Pairwise le → (0 :: adj f (ins le x (y :: r))).Perm (mx f x (y :: r) :: 0 :: adj f (y :: r)) := by
  intro y r
  induction r generalizing y with
  | nil =>
    intro _
    unfold ins
    by_cases h : le x y
    · rw [if_pos h]
      simp only [adj, mx, Nat.max_zero]
      exact List.Perm.swap ..
    · rw [if_neg h]
      simp only [ins, adj, mx, Nat.max_zero]
      rw [sy y x]
      exact List.Perm.swap ..
  | cons z r ih =>
    intro hp
    obtain ⟨hy, hz⟩ := List.pairwise_cons.mp hp
    obtain ⟨hz1, _⟩ := List.pairwise_cons.mp hz
    unfold ins
    by_cases h : le x y
    · rw [if_pos h]
      have hm : mx f x (y :: z :: r) = f x y := by
        refine Nat.le_antisymm (mx_le fun v hv => ?_) (le_mx (.head _))
        rcases List.mem_cons.mp hv with rfl | hv
        · exact Nat.le_refl _
        · rw [mid x y v h (hy v hv)]; exact Nat.min_le_left _ _
      rw [hm]
      show (0 :: f x y :: adj f (y :: z :: r)).Perm _
      exact List.Perm.swap ..
    · rw [if_neg h]
      have hyx : le y x := (tot x y).resolve_left h
      by_cases h2 : le x z
      · have e : ins le x (z :: r) = x :: z :: r := by unfold ins; rw [if_pos h2]
        rw [e]
        have e1 : f y z = min (f y x) (f x z) := mid y x z hyx h2
        have hm : mx f x (y :: z :: r) = max (f x y) (f x z) := by
          refine Nat.le_antisymm (mx_le fun v hv => ?_) (Nat.max_le.mpr ⟨le_mx (.head _), le_mx (.tail _ (.head _))⟩)
          rcases List.mem_cons.mp hv with rfl | hv
          · exact Nat.le_max_left _ _
          rcases List.mem_cons.mp hv with rfl | hv
          · exact Nat.le_max_right _ _
          · rw [mid x z v h2 (hz1 v hv)]
            exact Nat.le_trans (Nat.min_le_left _ _) (Nat.le_max_right _ _)
        rw [hm]
        show (0 :: f y x :: f x z :: adj f (z :: r)).Perm (max (f x y) (f x z) :: 0 :: f y z :: adj f (z :: r))
        rw [e1, sy x y]
        rcases Nat.le_total (f y x) (f x z) with q | q
        · rw [Nat.max_eq_right q, Nat.min_eq_left q]
          refine (List.Perm.cons _ (List.Perm.swap ..)).trans (List.Perm.swap ..)
        · rw [Nat.max_eq_left q, Nat.min_eq_right q]
          exact List.Perm.swap ..
      · have hzx : le z x := (tot x z).resolve_left h2
        have e : ins le x (z :: r) = z :: ins le x r := by
          rw [ins]; rw [if_neg h2]
        have ih' := ih z hz
        rw [e] at ih'
        have hm : mx f x (y :: z :: r) = mx f x (z :: r) := by
          refine Nat.max_eq_right ?_
          have : f x y ≤ f x z := by
            rw [sy x y, mid y z x (hy z (.head _)) hzx, sy x z]
            exact Nat.min_le_right _ _
          exact Nat.le_trans this (le_mx (.head _))
        rw [hm, e]
        show (0 :: f y z :: adj f (z :: ins le x r)).Perm (mx f x (z :: r) :: 0 :: f y z :: adj f (z :: r))
        refine (List.Perm.swap ..).trans ((List.Perm.cons _ ih').trans ?_)
        refine (List.Perm.swap ..).trans (List.Perm.cons _ (List.Perm.swap ..))
theorem ins_mem (x v : T) : ∀ l : List T, v ∈ ins le x l ↔ v = x ∨ v ∈ l
  | [] => by simp [ins]
  | y :: r => by
    unfold ins
    split
    · simp
    · rw [List.mem_cons, ins_mem x v r, List.mem_cons]
      constructor
      · rintro (h | h | h) <;> simp [h]
      · rintro (h | h | h) <;> simp [h]
theorem ins_sorted (x : T) : ∀ l : List T, l.Pairwise le → (ins le x l).Pairwise le
  | [], _ => by simp [ins]
  | y :: r, hp => by
    obtain ⟨hy, hr⟩ := List.pairwise_cons.mp hp
    unfold ins
    split
    · rename_i h
      refine List.pairwise_cons.mpr ⟨fun v hv => ?_, hp⟩
      rcases List.mem_cons.mp hv with rfl | hv
      · exact h
      · exact tr _ _ _ h (hy v hv)
    · rename_i h
      refine List.pairwise_cons.mpr ⟨fun v hv => ?_, ins_sorted x r hr⟩
      rcases (ins_mem tot tr sy mid x v r).mp hv with rfl | hv
      · exact (tot v y).resolve_left h
      · exact hy v hv
omit tot tr sy mid in
theorem ins_perm (x : T) : ∀ l : List T, (ins le x l).Perm (x :: l)
  | [] => List.Perm.refl _
  | y :: r => by
    unfold ins
    split
    · exact List.Perm.refl _
    · exact (List.Perm.cons _ (ins_perm x r)).trans (List.Perm.swap ..)
noncomputable def olds (f : T → T → Nat) : List T → List T → List Nat
  | _, [] => []
  | before, x :: r => mx f x before :: olds f (before ++ [x]) r
omit tot tr sy [DecidableRel le] mid in
theorem mx_perm {x : T} {l l' : List T} (h : l.Perm l') : mx f x l = mx f x l' :=
  Nat.le_antisymm (mx_le fun y hy => le_mx (h.mem_iff.mp hy)) (mx_le fun y hy => le_mx (h.mem_iff.mpr hy))
theorem olds_perm : ∀ (r before srt : List T), srt.Pairwise le → srt.Perm before → ∃ out : List T, out.Pairwise le ∧ out.Perm (before ++ r) ∧ (olds f before r ++ shs f srt).Perm (shs f out)
  | [], before, srt, h1, h2 => ⟨srt, h1, by simpa using h2, List.Perm.refl _⟩
  | x :: r, before, srt, h1, h2 => by
    obtain ⟨out, o1, o2, o3⟩ := olds_perm r (before ++ [x]) (ins le x srt) (ins_sorted tot tr sy mid x srt h1) ((ins_perm x srt).trans ((List.Perm.cons x h2).trans (List.perm_append_comm (l₁ := [x]))))
    refine ⟨out, o1, by simpa using o2, List.Perm.trans ?_ o3⟩
    have key : (shs f (ins le x srt)).Perm (mx f x srt :: shs f srt) := by
      cases srt with
      | nil => exact List.Perm.refl _
      | cons y r' =>
        have := ins_adj tot tr sy mid x y r' h1
        have e : shs f (ins le x (y :: r')) = 0 :: adj f (ins le x (y :: r')) := by
          unfold ins; split <;> rfl
        rw [e]; exact this
    show (mx f x before :: olds f (before ++ [x]) r ++ shs f srt).Perm _
    rw [← mx_perm h2]
    refine List.Perm.trans ?_ (List.Perm.append_left _ key.symm)
    exact (List.perm_middle (a := mx f x srt) (l₁ := olds f (before ++ [x]) r) (l₂ := shs f srt)).symm
theorem olds_shares (r : List T) (out : List T) (anti : ∀ a b, le a b → le b a → a = b) (h1 : out.Pairwise le) (h2 : out.Perm r) : (olds f [] r).Perm (shs f out) := by
  obtain ⟨o, o1, o2, o3⟩ := olds_perm tot tr sy mid r [] [] .nil (List.Perm.refl _)
  have e : o = out := List.Perm.eq_of_pairwise (fun a b _ _ => anti a b) o1 h1 ((by simpa using o2 : o.Perm r).trans h2.symm)
  subst e
  simpa [shs] using o3
end
end Mine

end
section
open PySem PySem.W
set_option Elab.async false
namespace Mine
section
variable {α : Type} [DecidableEq α]
noncomputable def lcpL : List α → List α → Nat
  | a :: x, b :: y => if a = b then lcpL x y + 1 else 0
  | _, _ => 0
theorem lcpL_comm : ∀ x y : List α, lcpL x y = lcpL y x
  | [], [] => rfl
  | [], _ :: _ => rfl
  | _ :: _, [] => rfl
  | a :: x, b :: y => by
    unfold lcpL
    by_cases h : a = b
    · rw [if_pos h, if_pos h.symm, lcpL_comm x y]
    · rw [if_neg h, if_neg fun e => h e.symm]
theorem lcpL_le : ∀ x y : List α, lcpL x y ≤ x.length
  | [], _ => by simp [lcpL]
  | _ :: _, [] => by simp [lcpL]
  | a :: x, b :: y => by
    unfold lcpL
    split
    · exact Nat.succ_le_succ (lcpL_le x y)
    · exact Nat.zero_le _
theorem take_pre_iff : ∀ (s b : List α) (j : Nat), j ≤ s.length → (s.take j <+: b ↔ j ≤ lcpL s b)
  | s, b, 0, _ => by simp
  | [], b, j + 1, h => by simp at h
  | a :: s, [], j + 1, h => by simp [lcpL]
  | a :: s, b :: t, j + 1, h => by
    rw [List.take_succ_cons, List.cons_prefix_cons]
    unfold lcpL
    by_cases e : a = b
    · rw [if_pos e, take_pre_iff s t j (Nat.le_of_succ_le_succ h)]
      simp [e]
    · rw [if_neg e]; simp [e]
theorem lcpL_mid_lex : True := trivial
end
noncomputable def Pre (W : List (List Str)) (before : List (List Str)) : Prop := W.Nodup ∧ ∀ v, v ∈ W ↔ v = [] ∨ ∃ b ∈ before, v <+: b
theorem addW_len {s : List Str} : ∀ (n i k : Nat) (W : List (List Str)), s.length - i = n → i ≤ k → k ≤ s.length → (∀ j ≤ s.length, s.take j ∈ W ↔ j ≤ k) → (addW W (s.take i) (s.drop i)).length = W.length + (s.length - k)
  | 0, i, k, W, hn, hik, hk, h => by
    have : k = s.length := by omega
    rw [List.drop_of_length_le (by omega)]
    show W.length = _
    omega
  | n + 1, i, k, W, hn, hik, hk, h => by
    have hi : i < s.length := by omega
    have hc : s[i]? = some s[i] := List.getElem?_eq_getElem hi
    rw [addW_take hc]
    have htk : s.take i ++ [s[i]] = s.take (i + 1) := by rw [List.take_succ_eq_append_getElem hi]
    rw [htk]
    by_cases hm : s.take (i + 1) ∈ W
    · rw [if_pos hm]
      exact addW_len n (i + 1) k W (by omega) ((h (i + 1) hi).mp hm) hk h
    · rw [if_neg hm]
      have hk' : k = i := by
        have : ¬ (i + 1 ≤ k) := fun q => hm ((h (i + 1) hi).mpr q)
        omega
      subst hk'
      rw [addW_len n (k + 1) (k + 1) _ (by omega) (Nat.le_refl _) hi (fun j hj => ?_), List.length_append, List.length_singleton]
      · omega
      · rw [List.mem_append, h j hj, List.mem_singleton]
        constructor
        · rintro (q | q)
          · omega
          · have := congrArg List.length q
            rw [List.length_take, List.length_take] at this
            omega
        · intro q
          by_cases e : j = k + 1
          · exact .inr (by rw [e])
          · exact .inl (by omega)
theorem addW_mem {s : List Str} : ∀ (n i : Nat) (W : List (List Str)) (v : List Str), s.length - i = n → (v ∈ addW W (s.take i) (s.drop i) ↔ v ∈ W ∨ ∃ j, i < j ∧ j ≤ s.length ∧ v = s.take j)
  | 0, i, W, v, hn => by
    rw [List.drop_of_length_le (by omega)]
    constructor
    · exact .inl
    · rintro (h | ⟨j, h1, h2, _⟩)
      · exact h
      · omega
  | n + 1, i, W, v, hn => by
    have hi : i < s.length := by omega
    have hc : s[i]? = some s[i] := List.getElem?_eq_getElem hi
    rw [addW_take hc]
    have htk : s.take i ++ [s[i]] = s.take (i + 1) := by rw [List.take_succ_eq_append_getElem hi]
    rw [htk, addW_mem n (i + 1) _ v (by omega)]
    have e : v ∈ (if s.take (i + 1) ∈ W then W else W ++ [s.take (i + 1)]) ↔ v ∈ W ∨ v = s.take (i + 1) := by
      split
      · rename_i hm
        exact ⟨.inl, fun h => h.elim id fun e => e ▸ hm⟩
      · rw [List.mem_append, List.mem_singleton]
    rw [e]
    constructor
    · rintro ((h | h) | ⟨j, h1, h2, h3⟩)
      · exact .inl h
      · exact .inr ⟨i + 1, by omega, hi, h⟩
      · exact .inr ⟨j, by omega, h2, h3⟩
    · rintro (h | ⟨j, h1, h2, h3⟩)
      · exact .inl (.inl h)
      · by_cases e : j = i + 1
        · exact .inl (.inr (e ▸ h3))
        · exact .inr ⟨j, by omega, h2, h3⟩
theorem addW_nodup {s : List Str} : ∀ (n i : Nat) (W : List (List Str)), s.length - i = n → W.Nodup → (addW W (s.take i) (s.drop i)).Nodup
  | 0, i, W, hn, h => by rw [List.drop_of_length_le (by omega)]; exact h
  | n + 1, i, W, hn, h => by
    have hi : i < s.length := by omega
    rw [addW_take (List.getElem?_eq_getElem hi)]
    refine addW_nodup n (i + 1) _ (by omega) ?_
    split
    · exact h
    · rename_i hm
      rw [List.nodup_append]
      exact ⟨h, by simp, fun a ha b hb e => hm ((List.mem_singleton.mp hb) ▸ e ▸ ha)⟩
theorem mx_lcp_iff {s : List Str} {before : List (List Str)} {j : Nat} (hj : j ≤ s.length) : (j = 0 ∨ ∃ b ∈ before, s.take j <+: b) ↔ j ≤ mx lcpL s before := by
  constructor
  · rintro (h | ⟨b, hb, h⟩)
    · omega
    · exact Nat.le_trans ((take_pre_iff s b j hj).mp h) (le_mx hb)
  · intro h
    induction before with
    | nil => exact .inl (Nat.le_zero.mp h)
    | cons b r ih =>
      rcases Nat.le_total (lcpL s b) (mx lcpL s r) with q | q
      · have : mx lcpL s (b :: r) = mx lcpL s r := Nat.max_eq_right q
        rw [this] at h
        rcases ih h with h | ⟨c, hc, h⟩
        · exact .inl h
        · exact .inr ⟨c, .tail _ hc, h⟩
      · have : mx lcpL s (b :: r) = lcpL s b := Nat.max_eq_left q
        rw [this] at h
        exact .inr ⟨b, .head _, (take_pre_iff s b j hj).mpr h⟩
theorem mx_lcp_le {s : List Str} {before : List (List Str)} : mx lcpL s before ≤ s.length := mx_le fun y _ => lcpL_le s y
theorem Pre.add {W before : List (List Str)} {s : List Str} (h : Pre W before) : Pre (addW W [] s) (before ++ [s]) ∧ (addW W [] s).length = W.length + (s.length - mx lcpL s before) := by
  have h0 : addW W [] s = addW W (s.take 0) (s.drop 0) := rfl
  refine ⟨⟨?_, fun v => ?_⟩, ?_⟩
  · rw [h0]; exact addW_nodup _ 0 W rfl h.1
  · rw [h0, addW_mem _ 0 W v rfl, h.2 v]
    constructor
    · rintro ((q | ⟨b, hb, q⟩) | ⟨j, _, h2, q⟩)
      · exact .inl q
      · exact .inr ⟨b, List.mem_append_left _ hb, q⟩
      · exact .inr ⟨s, List.mem_append_right _ (.head _), q ▸ List.take_prefix ..⟩
    · rintro (q | ⟨b, hb, q⟩)
      · exact .inl (.inl q)
      · rcases List.mem_append.mp hb with hb | hb
        · exact .inl (.inr ⟨b, hb, q⟩)
        · rw [List.mem_singleton.mp hb] at q
          by_cases e : v = []
          · exact .inl (.inl e)
          · refine .inr ⟨v.length, List.length_pos_iff.mpr e, q.length_le, (List.prefix_iff_eq_take.mp q)⟩
  · rw [h0, addW_len _ 0 (mx lcpL s before) W rfl (Nat.zero_le _) mx_lcp_le fun j hj => ?_]
    rw [h.2, ← mx_lcp_iff hj]
    constructor
    · rintro (q | q)
      · have := congrArg List.length q
        rw [List.length_take, List.length_nil] at this
        by_cases e : s.length = 0
        · left; omega
        · left; omega
      · exact .inr q
    · rintro (q | q)
      · exact .inl (by rw [q]; rfl)
      · exact .inr q
end Mine

end
section
open PySem PySem.W PyProof.Rows
set_option Elab.async false
namespace Mine
noncomputable def addAll : List (List Str) → List (List Str) → List (List Str)
  | W, [] => W
  | W, s :: r => addAll (addW W [] s) r
theorem addAll_len : ∀ (r before W : List (List Str)), Pre W before → (addAll W r).length + (olds lcpL before r).sum = W.length + (r.map List.length).sum
  | [], _, W, _ => by simp [addAll, olds]
  | s :: r, before, W, h => by
    obtain ⟨h1, h2⟩ := h.add (s := s)
    have ih := addAll_len r _ _ h1
    have hm : mx lcpL s before ≤ s.length := mx_lcp_le
    show (addAll (addW W [] s) r).length + (mx lcpL s before + (olds lcpL (before ++ [s]) r).sum) = W.length + (s.length + (r.map List.length).sum)
    omega
theorem pre_nil : Pre [[]] [] := ⟨by simp, fun v => by simp⟩
noncomputable def cnt (W : List (List Str)) (u : List Str) : Nat := (W.filter fun v => decide (u <+: v ∧ u ≠ v)).length
noncomputable def cntC (W : List (List Str)) (u : List Str) : Nat := (W.filter fun v => decide (u <+: v)).length
theorem filter_or {β : Type} (p q : β → Bool) (hd : ∀ v, p v = true → q v = true → False) : ∀ l : List β, (l.filter fun v => p v || q v).length = (l.filter p).length + (l.filter q).length
  | [] => rfl
  | v :: r => by
    have ih := filter_or p q hd r
    cases hp : p v <;> cases hq : q v
    · simp [hp, hq, ih]
    · simp [hp, hq, ih]; omega
    · simp [hp, hq, ih]; omega
    · exact (hd v hp hq).elim
theorem filter_none {u : List Str} : ∀ {W : List (List Str)}, u ∉ W → (W.filter fun v => decide (v = u)).length = 0
  | [], _ => rfl
  | v :: r, h => by
    have h1 : v ≠ u := fun e => h (e ▸ .head _)
    rw [List.filter_cons_of_neg (by simpa using h1)]
    exact filter_none fun q => h (.tail _ q)
theorem filter_one {u : List Str} : ∀ {W : List (List Str)}, W.Nodup → u ∈ W → (W.filter fun v => decide (v = u)).length = 1
  | v :: r, nd, h => by
    have nd' := List.nodup_cons.mp nd
    by_cases e : v = u
    · subst e
      rw [List.filter_cons_of_pos (by simp), List.length_cons, filter_none nd'.1]
    · rw [List.filter_cons_of_neg (by simpa using e)]
      exact filter_one nd'.2 ((List.mem_cons.mp h).resolve_left fun q => e q.symm)
theorem cntC_eq {W : List (List Str)} {u : List Str} (nd : W.Nodup) (hu : u ∈ W) : cntC W u = 1 + cnt W u := by
  have e : (fun v => decide (u <+: v)) = fun v => decide (v = u) || decide (u <+: v ∧ u ≠ v) := by
    funext v
    by_cases h : v = u
    · subst h; simp
    · by_cases h2 : u <+: v
      · have : u ≠ v := fun e => h e.symm
        simp [h, h2, this]
      · simp [h, h2]
  unfold cntC cnt
  rw [e, filter_or]
  · congr 1
    exact filter_one nd hu
  · intro v h1 h2
    have h1' := of_decide_eq_true h1
    exact (of_decide_eq_true h2).2 h1'.symm
theorem cnt_sum {W : List (List Str)} {u : List Str} : ∀ (C : List Str), C.Nodup → (W.filter fun v => decide (∃ c ∈ C, u ++ [c] <+: v)).length = (C.map fun c => cntC W (u ++ [c])).sum
  | [], _ => by simp
  | c :: C, nd => by
    have nd' := List.nodup_cons.mp nd
    have e : (fun v => decide (∃ c' ∈ c :: C, u ++ [c'] <+: v)) = fun v => decide (u ++ [c] <+: v) || decide (∃ c' ∈ C, u ++ [c'] <+: v) := by
      funext v
      simp
    rw [e, filter_or, cnt_sum C nd'.2]
    · rfl
    · intro v h1 h2
      obtain ⟨t1, e1⟩ := of_decide_eq_true h1
      obtain ⟨d, hd, t2, e2⟩ := of_decide_eq_true h2
      have : u ++ [c] = u ++ [d] := by
        have := e1.trans e2.symm
        exact (List.append_inj this (by simp)).1
      exact nd'.1 ((snoc_inj this).2 ▸ hd)
theorem up_closed {w : World} {t : TS} (wf : WF w t) : ∀ (r u : List Str), u ++ r ∈ t.W → u ∈ t.W := by
  intro r
  induction h : r.length generalizing r with
  | zero => intro u hu; rw [List.length_eq_zero_iff.mp h, List.append_nil] at hu; exact hu
  | succ n ih =>
    intro u hu
    obtain ⟨r', c, rfl⟩ : ∃ r' c, r = r' ++ [c] := ⟨r.dropLast, r.getLast (fun e => by rw [e] at h; cases h), (List.dropLast_concat_getLast _).symm⟩
    rw [← List.append_assoc] at hu
    exact ih r' (by simpa using h) u (wf.par _ _ hu).1
theorem cnt_kids {w : World} {t : TS} (wf : WF w t) {u : List Str} (hu : u ∈ t.W) : cnt t.W u = ((t.kids u).map fun c => 1 + cnt t.W (u ++ [c])).sum := by
  have e1 : cnt t.W u = (t.W.filter fun v => decide (∃ c ∈ t.kids u, u ++ [c] <+: v)).length := by
    unfold cnt
    congr 1
    refine List.filter_congr fun v hv => ?_
    refine decide_eq_decide.mpr ⟨?_, ?_⟩
    · rintro ⟨⟨r, rfl⟩, hne⟩
      cases r with
      | nil => exact absurd (List.append_nil u).symm hne
      | cons c r =>
        have h1 : (u ++ [c]) ++ r = u ++ c :: r := by simp
        have h2 := up_closed wf r (u ++ [c]) (h1 ▸ hv)
        exact ⟨c, (wf.par u c h2).2, r, h1⟩
    · rintro ⟨c, _, r, rfl⟩
      exact ⟨⟨c :: r, by simp⟩, fun e => by have := congrArg List.length e; simp at this⟩
  rw [e1, cnt_sum _ (wf.nodup hu)]
  congr 1
  exact List.map_congr_left fun c hc => cntC_eq wf.nd (wf.kid u hu c hc)
theorem wf_nest {w : World} {t : TS} {h₀ h : Heap} {L : Addr} {pre : List (Addr × Obj)} (wf : WF w t) (N : News h₀ L h (pre ++ t.news)) (hz : t.W.length ≤ 1000) : ∀ (d : Nat) (u : List Str), u ∈ t.W → (∀ v ∈ t.W, u <+: v → v.length < u.length + d) → NestAt w h d (t.ρ u) (cnt t.W u)
  | 0, u, hu, hl => absurd (hl u hu (List.prefix_refl _)) (by omega)
  | d + 1, u, hu, hl => by
    refine ⟨(t.kids u).map fun c => (c, t.ρ (u ++ [c]), cnt t.W (u ++ [c])), ?_, ?_, wf.sys u hu, ?_, ?_⟩
    · rw [List.map_map]; exact wf.dict N hu
    · rw [List.length_map]; exact Nat.le_trans (wf.sz u hu) hz
    · intro p hp
      obtain ⟨c, hc, rfl⟩ := List.mem_map.mp hp
      refine wf_nest wf N hz d (u ++ [c]) (wf.kid u hu c hc) fun v hv hpre => ?_
      have := hl v hv ((List.prefix_append u [c]).trans hpre)
      rw [List.length_append, List.length_singleton]; omega
    · rw [cnt_kids wf hu, List.map_map]; rfl
theorem cnt_root {W : List (List Str)} (nd : W.Nodup) (h : [] ∈ W) : 1 + cnt W [] = W.length := by
  rw [← cntC_eq nd h]
  unfold cntC
  congr 1
  exact List.filter_eq_self.mpr fun v _ => by simp
end Mine

end
section
open PySem PySem.W PyProof.Rows
set_option Elab.async false
namespace Mine
noncomputable def leL (x y : List Str) : Prop := ltL y x = false
theorem leL_tot (a b : List Str) : leL a b ∨ leL b a := by
  unfold leL
  cases h : ltL b a with
  | false => exact .inl rfl
  | true => exact .inr (ltL_asymm h)
theorem leL_anti (a b : List Str) (h1 : leL a b) (h2 : leL b a) : a = b := ltL_eq h2 h1
theorem str_lt_trans {a b c : Str} (h1 : a.cps.toList < b.cps.toList) (h2 : b.cps.toList < c.cps.toList) : a.cps.toList < c.cps.toList := List.lt_trans h1 h2
theorem str_tri {a b : Str} (h : a ≠ b) : a.cps.toList < b.cps.toList ∨ b.cps.toList < a.cps.toList := by
  by_cases h1 : a.cps.toList < b.cps.toList
  · exact .inl h1
  · by_cases h2 : b.cps.toList < a.cps.toList
    · exact .inr h2
    · exact absurd (str_eq_of h1 h2) h
theorem leL_cons {a b : Str} {x y : List Str} : leL (a :: x) (b :: y) ↔ (a = b ∧ leL x y) ∨ (a ≠ b ∧ a.cps.toList < b.cps.toList) := by
  unfold leL
  rw [ltL]
  by_cases e : b = a
  · rw [if_pos e]
    constructor
    · exact fun h => .inl ⟨e.symm, h⟩
    · rintro (⟨_, h⟩ | ⟨h, _⟩)
      · exact h
      · exact absurd e.symm h
  · rw [if_neg e, decide_eq_false_iff_not]
    constructor
    · intro h; exact .inr ⟨fun q => e q.symm, (str_tri (fun q => e q.symm)).resolve_right h⟩
    · rintro (⟨h, _⟩ | ⟨_, h⟩)
      · exact absurd h.symm e
      · exact str_lt_asymm h
theorem leL_nil (x : List Str) : leL [] x := by unfold leL; cases x <;> rfl
theorem leL_cons_nil {a : Str} {x : List Str} : ¬ leL (a :: x) [] := by unfold leL; simp [ltL]
theorem leL_trans : ∀ (a b c : List Str), leL a b → leL b c → leL a c
  | [], _, c, _, _ => leL_nil c
  | _ :: _, [], _, h, _ => (leL_cons_nil h).elim
  | _ :: _, _ :: _, [], _, h => (leL_cons_nil h).elim
  | a :: x, b :: y, c :: z, h1, h2 => by
    rcases leL_cons.mp h1 with ⟨rfl, q1⟩ | ⟨n1, q1⟩
    · rcases leL_cons.mp h2 with ⟨rfl, q2⟩ | ⟨n2, q2⟩
      · exact leL_cons.mpr (.inl ⟨rfl, leL_trans x y z q1 q2⟩)
      · exact leL_cons.mpr (.inr ⟨n2, q2⟩)
    · rcases leL_cons.mp h2 with ⟨rfl, q2⟩ | ⟨n2, q2⟩
      · exact leL_cons.mpr (.inr ⟨n1, q1⟩)
      · have q := str_lt_trans q1 q2
        exact leL_cons.mpr (.inr ⟨fun e => by rw [e] at q; exact str_lt_asymm q q, q⟩)
theorem lcpL_mid : ∀ (a x b : List Str), leL a x → leL x b → lcpL a b = min (lcpL a x) (lcpL x b)
  | [], x, b, _, _ => by cases x <;> cases b <;> simp [lcpL]
  | _ :: _, [], _, h, _ => (leL_cons_nil h).elim
  | _ :: _, _ :: _, [], _, h => (leL_cons_nil h).elim
  | a :: u, x :: v, b :: t, h1, h2 => by
    rcases leL_cons.mp h1 with ⟨rfl, q1⟩ | ⟨n1, q1⟩
    · rcases leL_cons.mp h2 with ⟨rfl, q2⟩ | ⟨n2, q2⟩
      · unfold lcpL
        rw [if_pos rfl, if_pos rfl, if_pos rfl, lcpL_mid u v t q1 q2]
        omega
      · unfold lcpL
        rw [if_neg n2, if_neg n2]; omega
    · rcases leL_cons.mp h2 with ⟨rfl, q2⟩ | ⟨n2, q2⟩
      · unfold lcpL
        rw [if_neg n1, if_neg n1, if_pos rfl]; omega
      · have q := str_lt_trans q1 q2
        have n3 : a ≠ b := fun e => by rw [e] at q; exact str_lt_asymm q q
        unfold lcpL
        rw [if_neg n3, if_neg n1]; omega
theorem olds_shares_L (r out : List (List Str)) (h1 : out.Pairwise leL) (h2 : out.Perm r) : (olds lcpL [] r).Perm (shs lcpL out) :=
  haveI : DecidableRel leL := fun x y => inferInstanceAs (Decidable (ltL y x = false))
  olds_shares (le := leL) leL_tot leL_trans (fun a b => lcpL_comm a b) lcpL_mid r out leL_anti h1 h2
theorem cmn_len_eq : ∀ x y : List Str, (cmn x y).length = lcpL x y
  | [], _ => by simp [cmn, lcpL]
  | _ :: _, [] => by simp [cmn, lcpL]
  | a :: x, b :: y => by
    unfold cmn lcpL
    split
    · rw [List.length_cons, cmn_len_eq x y]
    · rfl
theorem lcpL_map {α β : Type} [DecidableEq α] [DecidableEq β] {g : α → β} : ∀ (x y : List α), (∀ a ∈ x, ∀ b ∈ y, g a = g b → a = b) → lcpL (x.map g) (y.map g) = lcpL x y
  | [], _, _ => by simp [lcpL]
  | _ :: _, [], _ => by simp [lcpL]
  | a :: x, b :: y, h => by
    rw [List.map_cons, List.map_cons]
    unfold lcpL
    by_cases e : a = b
    · rw [if_pos e, if_pos (by rw [e]), lcpL_map x y fun c hc d hd => h c (.tail _ hc) d (.tail _ hd)]
    · rw [if_neg e, if_neg fun q => e (h a (.head _) b (.head _) q)]
theorem occ_iff {l : List Nat} {i p m : Nat} (hi : i ≤ p) (hm : p + m ≤ l.length) : OccAt l i p m ↔ m ≤ lcpL (l.drop p) (l.drop i) := by
  unfold OccAt
  have h1 : m ≤ (l.drop p).length := by rw [List.length_drop]; omega
  rw [← take_pre_iff _ _ _ h1]
  constructor
  · intro e; rw [← e]; exact List.take_prefix ..
  · intro h
    have := List.prefix_iff_eq_take.mp h
    rw [List.length_take, Nat.min_eq_left h1] at this
    exact this.symm
theorem old_eq {l : List Nat} {p k : Nat} (h : OldIs l p k) : k = mx lcpL (l.drop p) ((List.range p).map fun i => l.drop i) := by
  obtain ⟨h1, h2, h3⟩ := h
  refine Nat.le_antisymm ?_ (mx_le fun y hy => ?_)
  · rcases k with _ | k
    · exact Nat.zero_le _
    · obtain ⟨i, hi, ho⟩ := h2 k (Nat.lt_succ_self _)
      have := (occ_iff (Nat.le_of_lt hi) (by omega)).mp ho
      exact Nat.le_trans this (le_mx (List.mem_map.mpr ⟨i, List.mem_range.mpr hi, rfl⟩))
  · obtain ⟨i, hi, rfl⟩ := List.mem_map.mp hy
    have hi' := List.mem_range.mp hi
    rcases Nat.lt_or_ge (p + k) l.length with q | q
    · have hn := h3 q i hi'
      rw [occ_iff (Nat.le_of_lt hi') (by omega)] at hn
      omega
    · have := lcpL_le (l.drop p) (l.drop i)
      rw [List.length_drop] at this
      omega
theorem olds_range {β : Type} (f : β → β → Nat) (g : Nat → β) : ∀ (n i : Nat), olds f ((List.range i).map g) ((List.range' i n).map g) = (List.range' i n).map fun p => mx f (g p) ((List.range p).map g)
  | 0, _ => rfl
  | n + 1, i => by
    rw [List.range'_succ, List.map_cons, List.map_cons]
    have e : (List.range i).map g ++ [g i] = (List.range (i + 1)).map g := by rw [List.range_succ, List.map_append]; rfl
    show mx f (g i) ((List.range i).map g) :: olds f ((List.range i).map g ++ [g i]) _ = _
    rw [e, olds_range f g n (i + 1)]
noncomputable def ends {β : Type} (l : List β) : List (List β) := (List.range l.length).map fun p => l.drop p
theorem olds_ends {β : Type} [DecidableEq β] (l : List β) : olds lcpL [] (ends l) = (List.range l.length).map fun p => mx lcpL (l.drop p) ((List.range p).map fun i => l.drop i) := by
  have := olds_range lcpL (fun p => l.drop p) l.length 0
  rw [← List.range_eq_range'] at this
  exact this
theorem mx_map {β γ : Type} [DecidableEq β] [DecidableEq γ] {φ : β → γ} {x : List β} : ∀ {l : List (List β)}, (∀ y ∈ l, ∀ a ∈ x, ∀ b ∈ y, φ a = φ b → a = b) → mx lcpL (x.map φ) (l.map (List.map φ)) = mx lcpL x l
  | [], _ => rfl
  | y :: r, h => by
    show max (lcpL (x.map φ) (y.map φ)) (mx lcpL (x.map φ) (r.map (List.map φ))) = max (lcpL x y) (mx lcpL x r)
    rw [lcpL_map x y (h y (.head _)), mx_map fun z hz => h z (.tail _ hz)]
theorem olds_map {β γ : Type} [DecidableEq β] [DecidableEq γ] {φ : β → γ} {l : List β} (h : ∀ a ∈ l, ∀ b ∈ l, φ a = φ b → a = b) : olds lcpL [] (ends (l.map φ)) = olds lcpL [] (ends l) := by
  rw [olds_ends, olds_ends, List.length_map]
  refine List.map_congr_left fun p hp => ?_
  have e : (List.range p).map (fun i => (l.map φ).drop i) = ((List.range p).map fun i => l.drop i).map (List.map φ) := by
    rw [List.map_map]
    refine List.map_congr_left fun i _ => ?_
    show (l.map φ).drop i = (l.drop i).map φ
    rw [List.map_drop]
  rw [← List.map_drop, e]
  refine mx_map fun y hy a ha b hb => ?_
  obtain ⟨i, _, rfl⟩ := List.mem_map.mp hy
  exact h a (List.mem_of_mem_drop ha) b (List.mem_of_mem_drop hb)
theorem ends_lens {β : Type} (l : List β) : ((ends l).map List.length).sum * 2 = l.length * (l.length + 1) := by
  have : ∀ n, ((List.range n).map fun p => n - p).sum * 2 = n * (n + 1) := by
    intro n
    induction n with
    | zero => rfl
    | succ n ih =>
      have e : (List.range (n + 1)).map (fun p => n + 1 - p) = (n + 1) :: (List.range n).map fun p => n - p := by
        rw [List.range_succ_eq_map, List.map_cons, List.map_map]
        congr 1
        refine List.map_congr_left fun p _ => ?_
        show n + 1 - (p + 1) = n - p
        omega
      rw [e, List.sum_cons, Nat.add_mul, ih]
      have : (n + 1) * (n + 1 + 1) = (n + 1) * 2 + n * (n + 1) := by
        rw [Nat.mul_comm n (n + 1), ← Nat.mul_add]; congr 1; omega
      omega
  unfold ends
  rw [List.map_map]
  have e : (List.length ∘ fun p => l.drop p) = fun p => l.length - p := by funext p; exact List.length_drop
  rw [e]
  exact this l.length
end Mine

end
section
open PySem PySem.W PyProof.Rows
set_option Elab.async false
set_option maxRecDepth 10000
namespace Mine
theorem cut_uniq {c : Nat} : ∀ {p q A B : List Nat}, c ∉ p → c ∉ q → p ++ c :: A = q ++ c :: B → p = q ∧ A = B
  | [], [], _, _, _, _, e => ⟨rfl, (List.cons.inj e).2⟩
  | [], x :: q, _, _, _, h, e => absurd (List.cons.inj e).1 (fun k => h (k ▸ .head _))
  | x :: p, [], _, _, h, _, e => absurd (List.cons.inj e).1 (fun k => h (k ▸ .head _))
  | x :: p, y :: q, A, B, h1, h2, e => by
    obtain ⟨e1, e2⟩ := List.cons.inj e
    subst e1
    obtain ⟨a, b⟩ := cut_uniq (fun k => h1 (.tail _ k)) (fun k => h2 (.tail _ k)) e2
    exact ⟨by rw [a], b⟩
noncomputable def sep1 : Str := ⟨#[47]⟩
theorem sl_eq : sl = sep1 := by decide +kernel
theorem sl_eq' : Str.ofString "/" = sep1 := by decide +kernel
theorem toList_append (a b : Str) : (a ++ b).cps.toList = a.cps.toList ++ b.cps.toList := by
  show (a.cps ++ b.cps).toList = _
  exact Array.toList_append
theorem join_cons2 (p q : Str) (r : List Str) : (Str.join sep1 (p :: q :: r)).cps.toList = p.cps.toList ++ 47 :: (Str.join sep1 (q :: r)).cps.toList := by
  show (p ++ sep1 ++ Str.join sep1 (q :: r)).cps.toList = _
  rw [toList_append, toList_append, List.append_assoc]
  rfl
theorem str_ext {a b : Str} (h : a.cps.toList = b.cps.toList) : a = b := by
  cases a; cases b
  exact congrArg Str.mk (Array.toList_inj.mp h)
theorem join_uniq : ∀ {P Q : List Str}, P ≠ [] → Q ≠ [] → (∀ p ∈ P, 47 ∉ p.cps.toList) → (∀ q ∈ Q, 47 ∉ q.cps.toList) → Str.join sep1 P = Str.join sep1 Q → P = Q
  | [], _, h, _, _, _, _ => absurd rfl h
  | _ :: _, [], _, h, _, _, _ => absurd rfl h
  | [p], [q], _, _, _, _, e => by
    have : p = q := e
    rw [this]
  | [p], q :: q2 :: qs, _, _, hp, _, e => by
    have e' := congrArg (fun s : Str => s.cps.toList) e
    have e1 : p.cps.toList = q.cps.toList ++ 47 :: (Str.join sep1 (q2 :: qs)).cps.toList := e'.trans (join_cons2 q q2 qs)
    exact absurd (by rw [e1]; simp) (hp p (.head _))
  | p :: p2 :: ps, [q], _, _, _, hq, e => by
    have e' := congrArg (fun s : Str => s.cps.toList) e
    have e1 : p.cps.toList ++ 47 :: (Str.join sep1 (p2 :: ps)).cps.toList = q.cps.toList := (join_cons2 p p2 ps).symm.trans e'
    exact absurd (by rw [← e1]; simp) (hq q (.head _))
  | p :: p2 :: ps, q :: q2 :: qs, _, _, hp, hq, e => by
    have e' := congrArg (fun s : Str => s.cps.toList) e
    have e1 : p.cps.toList ++ 47 :: (Str.join sep1 (p2 :: ps)).cps.toList = q.cps.toList ++ 47 :: (Str.join sep1 (q2 :: qs)).cps.toList := (join_cons2 p p2 ps).symm.trans (e'.trans (join_cons2 q q2 qs))
    obtain ⟨a, b⟩ := cut_uniq (hp p (.head _)) (hq q (.head _)) e1
    have h := join_uniq (P := p2 :: ps) (Q := q2 :: qs) (by simp) (by simp) (fun x hx => hp x (.tail _ hx)) (fun x hx => hq x (.tail _ hx)) (str_ext b)
    rw [str_ext a, h]
theorem split_join {P : List Str} (h0 : P ≠ []) (h : ∀ p ∈ P, 47 ∉ p.cps.toList) : Txt.split (Str.join sep1 P) sep1 = P := by
  refine join_uniq (fun e => ?_) h0 (StrLaws.split_free _ 47) h (StrLaws.join_split _ _)
  have := split_pos (Str.join sep1 P) sep1
  rw [e] at this
  simp at this
noncomputable def Str0 : Str := ⟨#[]⟩
noncomputable def enc (u : List Str) : Str := Str.join sep1 (Str0 :: u)
noncomputable def Nm (c : Str) : Prop := c.length = 10 ∧ 47 ∉ c.cps.toList
theorem Nm.keep {c : Str} (h : Nm c) : keep c = true := by
  refine keep_t (by rw [h.1]; decide) ?_
  rw [bne_iff_ne]
  intro e
  have := h.1
  rw [e] at this
  revert this
  decide +kernel
theorem enc_cons (a : Str) (u : List Str) : (enc (a :: u)).cps.toList = 47 :: (a.cps.toList ++ (enc u).cps.toList) := by
  unfold enc
  rw [join_cons2]
  show [] ++ 47 :: _ = _
  rw [List.nil_append]
  congr 1
  cases u with
  | nil => show a.cps.toList = a.cps.toList ++ []; rw [List.append_nil]
  | cons b r =>
    rw [join_cons2, join_cons2]
    rfl
theorem enc_nil : enc [] = Str0 := rfl
theorem len_toList (x : Str) : x.length = x.cps.toList.length := by simp [Str.length]
theorem enc_len : ∀ {u : List Str}, (∀ c ∈ u, Nm c) → (enc u).length = 11 * u.length
  | [], _ => rfl
  | a :: u, h => by
    have ih := enc_len fun c hc => h c (.tail _ hc)
    rw [len_toList] at ih ⊢
    rw [enc_cons, List.length_cons, List.length_append, ih, ← len_toList, (h a (.head _)).1, List.length_cons]
    omega
theorem split_enc {u : List Str} (h : ∀ c ∈ u, Nm c) : Txt.split (enc u) sep1 = Str0 :: u :=
  split_join (by simp) fun p hp => by
    rcases List.mem_cons.mp hp with rfl | hp
    · intro q; cases q
    · exact (h p hp).2
noncomputable def dot : Str := Str.ofString "."
theorem dot_eq : dot.cps.toList = [46] := by decide +kernel
theorem yy_eq (u : List Str) (hu : u ≠ []) : yy (enc u) = Str.join sep1 (Str0 :: dot :: (u ++ [Str0])) := by
  refine str_ext ?_
  have e1 : (Str.ofString "/.").cps.toList = [47, 46] := by decide +kernel
  unfold yy
  rw [toList_append, toList_append, sl_eq', e1, join_cons2]
  have key : ∀ (d : Str) (v : List Str), (Str.join sep1 (d :: (v ++ [Str0]))).cps.toList = d.cps.toList ++ ((enc v).cps.toList ++ [47]) := by
    intro d v
    induction v generalizing d with
    | nil => rw [List.nil_append, join_cons2]; rfl
    | cons a r ih =>
      rw [List.cons_append, join_cons2, ih a, enc_cons]
      simp
  rw [key dot u, dot_eq]
  show [47, 46] ++ (enc u).cps.toList ++ [47] = [] ++ 47 :: ([46] ++ ((enc u).cps.toList ++ [47]))
  simp
theorem split_yy {u : List Str} (hu : u ≠ []) (h : ∀ c ∈ u, Nm c) : Txt.split (yy (enc u)) sep1 = Str0 :: dot :: (u ++ [Str0]) := by
  rw [yy_eq u hu]
  refine split_join (by simp) fun p hp => ?_
  rcases List.mem_cons.mp hp with rfl | hp
  · intro q; cases q
  rcases List.mem_cons.mp hp with rfl | hp
  · rw [dot_eq]; decide
  rcases List.mem_append.mp hp with hp | hp
  · exact (h p hp).2
  · rw [List.mem_singleton.mp hp]; intro q; cases q
theorem filter_nm {u : List Str} (h : ∀ c ∈ u, Nm c) : u.filter keep = u := List.filter_eq_self.mpr fun c hc => (h c hc).keep
theorem parts_enc {u : List Str} (h : ∀ c ∈ u, Nm c) : parts (enc u) = u := by
  unfold parts
  rw [sl_eq, split_enc h, List.filter_cons_of_neg (by decide), filter_nm h]
theorem parts_yy {u : List Str} (hu : u ≠ []) (h : ∀ c ∈ u, Nm c) : parts (yy (enc u)) = u := by
  unfold parts
  rw [sl_eq, split_yy hu h, List.filter_cons_of_neg (by decide), List.filter_cons_of_neg (by decide +kernel), List.filter_append, filter_nm h]
  have : [Str0].filter keep = [] := by decide
  rw [this, List.append_nil]
theorem pre_join {r : List Str} (h : r ≠ []) : sl ++ Txt.join sl r = enc r := by
  obtain ⟨a, v, rfl⟩ : ∃ a v, r = a :: v := by cases r with | nil => exact absurd rfl h | cons a v => exact ⟨a, v, rfl⟩
  refine str_ext ?_
  show (sl ++ Builtin.Str.glued sl (a :: v)).cps.toList = _
  rw [StrLaws.glued_eq_join, sl_eq, toList_append]
  unfold enc
  rw [join_cons2]
  rfl
theorem pre_join0 : sl ++ Txt.join sl [] = Str.ofString "/" := by decide +kernel
theorem count_enc {u : List Str} (h : ∀ c ∈ u, Nm c) : Txt.count (enc u) sep1 = (u.length : Int) := by
  have h1 := split_len (enc u) 47
  have h2 := count_is (enc u) 47
  have h3 : Txt.count (enc u) sep1 = PyProof.Rows.cnt 47 (enc u).cps.toList := h2
  have h4 := split_enc h
  have h5 : ((Txt.split (enc u) sep1).length : Int) = 1 + PyProof.Rows.cnt 47 (enc u).cps.toList := h1
  rw [h4] at h5
  rw [h3]
  simp only [List.length_cons] at h5
  push_cast at h5
  omega
theorem enc_take : ∀ {u : List Str} (k : Nat), (∀ c ∈ u, Nm c) → (enc (u.take k)).cps.toList = (enc u).cps.toList.take (11 * k)
  | u, 0, _ => by simp [enc_nil, Str0]
  | [], k + 1, _ => by rw [List.take_nil]; show [] = List.take _ []; rw [List.take_nil]
  | a :: u, k + 1, h => by
    have ha := (h a (.head _)).1
    rw [len_toList] at ha
    rw [List.take_succ_cons, enc_cons, enc_cons, enc_take k fun c hc => h c (.tail _ hc)]
    have e : 11 * (k + 1) = (10 + 11 * k) + 1 := by omega
    rw [e, List.take_succ_cons, ← ha, List.take_length_add_append]
theorem starts_enc {u : List Str} (hu : u ≠ []) (h : ∀ c ∈ u, Nm c) : Txt.startswith (enc u) (Str.ofString "/") = true := by
  obtain ⟨a, v, rfl⟩ : ∃ a v, u = a :: v := by cases u with | nil => exact absurd rfl hu | cons a v => exact ⟨a, v, rfl⟩
  have hl := enc_len h
  unfold Txt.startswith
  rw [sl_eq']
  refine Bool.and_eq_true_iff.mpr ⟨?_, ?_⟩
  · rw [decide_eq_true_eq, hl]
    show 0 + 1 ≤ 11 * (v.length + 1)
    omega
  · unfold Builtin.Str.subAt
    rw [beq_iff_eq]
    apply Array.toList_inj.mp
    rw [Array.toList_extract, enc_cons]
    simp [sep1, Str.length]
end Mine

end
section
open PySem PySem.W PySem.Calls PyProof.Rows
set_option Elab.async false
set_option maxRecDepth 100000
namespace Mine
theorem slice_to {x : Str} {j : Nat} (h : j ≤ x.length) : (Txt.slice x none (some (j : Int))).cps.toList = x.cps.toList.take j := by
  rw [eq_of_beq (slice_closes_to (x := x) (j := (j : Int)) ⟨by omega, by rw [← len_toList]; omega⟩)]
  show ((x.cps.toList.drop 0).take ((j : Int) - 0).toNat) = _
  rw [List.drop_zero, Int.sub_zero, Int.toNat_natCast]
theorem cmn_take : ∀ u v : List Str, cmn u v = u.take (cmn u v).length
  | [], _ => by simp [cmn]
  | _ :: _, [] => by simp [cmn]
  | a :: x, b :: y => by
    unfold cmn
    split
    · rw [List.length_cons, List.take_succ_cons, ← cmn_take x y]
    · rfl
theorem starts_yy (v : List Str) : Txt.startswith (yy (enc v)) (Str.ofString "/") = true := by
  have e1 : (Str.ofString "/.").cps.toList = [47, 46] := by decide +kernel
  have e2 : (yy (enc v)).cps.toList = 47 :: (46 :: ((enc v).cps.toList ++ (Str.ofString "/").cps.toList)) := by
    unfold yy
    rw [toList_append, toList_append, e1]
    simp
  unfold Txt.startswith
  rw [sl_eq']
  refine Bool.and_eq_true_iff.mpr ⟨?_, ?_⟩
  · rw [decide_eq_true_eq, len_toList (yy (enc v)), e2]
    show 0 + 1 ≤ _
    simp
  · unfold Builtin.Str.subAt
    rw [beq_iff_eq]
    apply Array.toList_inj.mp
    rw [Array.toList_extract, e2]
    simp [sep1, Str.length]
theorem call_shared_enc {w : World} {q : Program} {loose mean mg mb} {A : Around} {h₀ : Heap} {L : Addr} {m : Str → Option Value} {news : List (Addr × Obj)} {s : Shared} {Q : Value → Shared → Prop} {E : Value → Shared → Prop} {u v : List Str} {tkx tky : Tok}
   (hA : A.handled = none) (hd : A.depth + 10 < recursionLimit) (hun : A.units + 100 < cLine) (F : Fr h₀ L s.heap m) (N : News h₀ L s.heap news) (X : Frag.In (H.KR w.params) h₀) (T : Top q loose mean mg mb h₀)
   (hu : u ≠ []) (hv : v ≠ []) (nu : ∀ c ∈ u, Nm c) (nv : ∀ c ∈ v, Nm c) (lu : u.length ≤ 14) (lv : v.length ≤ 14)
   (h : ∀ r h' tk', Fr h₀ L h' m → News h₀ L h' news → (∃ t, r = .int ((lcpL u v : Nat) : Int) t) → Q r {s with heap := h', toks := tk'}) :
   wpAny (model pw w) A (call (.ref 274) [.str (enc u) tkx, .str (enc v) tky] []) Q E s := by
  have hlu := enc_len nu
  have hlv := enc_len nv
  have hk : (cmn u v).length ≤ u.length := cmn_le
  have hr : ∀ c ∈ cmn u v, Nm c := fun c hc => nu c (cmn_mem hc)
  have hlr := enc_len hr
  rw [← cmn_len_eq] at h
  have hB : sl ++ Txt.join sl (cmn (parts (enc u)) (parts (yy (enc v)))) = if cmn u v = [] then Str.ofString "/" else enc (cmn u v) := by
    rw [parts_enc nu, parts_yy hv nv]
    split
    · rename_i e; rw [e]; exact pre_join0
    · rename_i e; exact pre_join e
  have l1 : (Str.ofString "/").length = 1 := by decide +kernel
  have ld : dot.length ≤ 1000 := by decide +kernel
  have hsx := split_enc nu
  have hsy := split_yy hv nv
  rw [← sl_eq] at hsx hsy
  have hpos : 0 < (cmn u v).length → cmn u v ≠ [] := fun hp e => by rw [e] at hp; simp at hp
  refine call_shared hA hd hun F N X T (by omega) (by omega) (starts_enc hu nu) (starts_yy v) ?_ ?_ ?_ ?_ hB ?_ (Nat.le_trans hk lu) ?_ ?_ ?_ ?_ h
  · rw [hsx, List.length_cons]; omega
  · rw [hsy, List.length_cons, List.length_cons, List.length_append, List.length_singleton]; omega
  · rw [hsx]
    intro c hc
    rcases List.mem_cons.mp hc with rfl | hc
    · decide
    · rw [(nu c hc).1]; decide
  · rw [hsy]
    intro c hc
    rcases List.mem_cons.mp hc with rfl | hc
    · decide
    rcases List.mem_cons.mp hc with rfl | hc
    · exact ld
    rcases List.mem_append.mp hc with hc | hc
    · rw [(nv c hc).1]; decide
    · rw [List.mem_singleton.mp hc]; decide
  · split
    · rw [l1]; decide
    · rw [hlr]; omega
  · intro hz
    rw [if_pos (List.length_eq_zero_iff.mp hz)]
  · intro hp
    rw [if_neg (hpos hp)]
    intro e
    rw [e, l1] at hlr
    omega
  · intro hp
    rw [if_neg (hpos hp), sl_eq']
    exact count_enc hr
  · by_cases hz : (cmn u v).length = 0
    · rw [if_pos (List.length_eq_zero_iff.mp hz), hz]
      refine str_ext ?_
      have : (if 11 * ((0 : Nat) : Int) > 1 then 11 * ((0 : Nat) : Int) else 1) = ((1 : Nat) : Int) := by decide
      rw [this, slice_to (by have : u.length ≠ 0 := fun e => hu (List.length_eq_zero_iff.mp e); omega)]
      obtain ⟨a, r, rfl⟩ : ∃ a r, u = a :: r := by cases u with | nil => exact absurd rfl hu | cons a r => exact ⟨a, r, rfl⟩
      rw [enc_cons, sl_eq']
      rfl
    · have hp : 0 < (cmn u v).length := Nat.pos_of_ne_zero hz
      rw [if_neg (hpos hp)]
      have : (if 11 * (((cmn u v).length : Nat) : Int) > 1 then 11 * (((cmn u v).length : Nat) : Int) else 1) = ((11 * (cmn u v).length : Nat) : Int) := by
        rw [if_pos (by omega)]; push_cast; rfl
      refine str_ext ?_
      rw [this, slice_to (by omega), ← enc_take _ nu, ← cmn_take]
theorem app_lt {a b : List Nat} (hl : a.length = b.length) (hne : a ≠ b) {x y : List Nat} : a ++ x < b ++ y ↔ a < b := by
  induction a generalizing b with
  | nil => cases b with | nil => exact absurd rfl hne | cons _ _ => simp at hl
  | cons c a ih =>
    cases b with
    | nil => simp at hl
    | cons d b =>
      rw [List.cons_append, List.cons_append, List.cons_lt_cons_iff, List.cons_lt_cons_iff]
      by_cases e : c = d
      · subst e
        have := ih (b := b) (by simpa using hl) (fun q => hne (by rw [q]))
        simp [this]
      · simp [e]
theorem enc_lt : ∀ {u v : List Str}, (∀ c ∈ u, Nm c) → (∀ c ∈ v, Nm c) → ((enc u).cps.toList < (enc v).cps.toList ↔ ltL u v = true)
  | [], [], _, _ => by simp [enc_nil, Str0, ltL]
  | [], b :: v, _, _ => by
    rw [enc_cons]
    simp [enc_nil, Str0, ltL]
  | a :: u, [], _, _ => by
    rw [enc_cons]
    simp [enc_nil, Str0, ltL]
  | a :: u, b :: v, hu, hv => by
    rw [enc_cons, enc_cons, List.cons_lt_cons_iff]
    unfold ltL
    by_cases e : a = b
    · subst e
      rw [if_pos rfl, ← enc_lt (fun c hc => hu c (.tail _ hc)) (fun c hc => hv c (.tail _ hc))]
      have : ∀ (l x y : List Nat), l ++ x < l ++ y ↔ x < y := by
        intro l x y
        induction l with
        | nil => rfl
        | cons c l ih => rw [List.cons_append, List.cons_append, List.cons_lt_cons_iff]; simp [ih]
      simp [this]
    · rw [if_neg e, decide_eq_true_iff]
      have hne : a.cps.toList ≠ b.cps.toList := fun q => e (str_ext q)
      have hl : a.cps.toList.length = b.cps.toList.length := by rw [← len_toList, ← len_toList, (hu a (.head _)).1, (hv b (.head _)).1]
      rw [app_lt hl hne]
      simp
end Mine

end
section
open PySem PySem.W PyProof.Rows
set_option Elab.async false
set_option maxRecDepth 100000
namespace Mine
theorem bitAnd_nat (a b : Nat) : Builtin.bitAnd (a : Int) (b : Int) = ((a &&& b : Nat) : Int) := by
  rfl
theorem and_pow {m j : Nat} : (((m &&& 2 ^ j : Nat) : Int) == ((2 ^ j : Nat) : Int)) = m.testBit j := by
  apply Bool.eq_iff_iff.mpr
  rw [beq_iff_eq]
  constructor
  · intro e
    have e' : m &&& 2 ^ j = 2 ^ j := Int.ofNat.inj e
    have h1 := congrArg (fun x => Nat.testBit x j) e'
    simpa using h1
  · intro h1
    congr 1
    apply Nat.eq_of_testBit_eq
    intro k
    rw [Nat.testBit_and, Nat.testBit_two_pow]
    by_cases e1 : j = k
    · subst e1; simp [h1]
    · simp [e1]
theorem and_two {m i j : Nat} : (((m &&& (2 ^ i ||| 2 ^ j) : Nat) : Int) == ((2 ^ i ||| 2 ^ j : Nat) : Int)) = (m.testBit i && m.testBit j) := by
  apply Bool.eq_iff_iff.mpr
  rw [beq_iff_eq, Bool.and_eq_true]
  constructor
  · intro e
    have e' : m &&& (2 ^ i ||| 2 ^ j) = (2 ^ i ||| 2 ^ j) := Int.ofNat.inj e
    have h1 := congrArg (fun x => Nat.testBit x i) e'
    have h2 := congrArg (fun x => Nat.testBit x j) e'
    simp at h1 h2
    exact ⟨h1, h2⟩
  · rintro ⟨h1, h2⟩
    congr 1
    apply Nat.eq_of_testBit_eq
    intro k
    rw [Nat.testBit_and, Nat.testBit_or, Nat.testBit_two_pow, Nat.testBit_two_pow]
    by_cases e1 : i = k
    · subst e1; simp [h1]
    · by_cases e2 : j = k
      · subst e2; simp [h2]
      · simp [e1, e2]
theorem hit1 (m i j : Nat) (hi : i ≠ 0) {b : Int} (hb : b = ((2 ^ j : Nat) : Int)) : hits (m : Int) i b = m.testBit j := by
  unfold hits
  rw [if_neg hi, hb, bitAnd_nat, and_pow]
theorem hit2 (m i j k : Nat) (hi : i ≠ 0) {b : Int} (hb : b = ((2 ^ j ||| 2 ^ k : Nat) : Int)) : hits (m : Int) i b = (m.testBit j && m.testBit k) := by
  unfold hits
  rw [if_neg hi, hb, bitAnd_nat, and_two]
noncomputable def one (b : Bool) (c : String) : Str := if b then Str.ofString c else Str.ofString "-"
noncomputable def two (hi lo : Bool) (a b : String) : Str := if hi && lo then Str.ofString a else if hi then Str.ofString b else if lo then Str.ofString "x" else Str.ofString "-"
noncomputable def kindOf (n : Int) : Str := colOf n 0 [(40960, "l"), (49152, "s"), (32768, "-"), (24576, "b"), (16384, "d"), (8192, "c"), (4096, "p")]
theorem cols_eq (m : Nat) : cols (m : Int) 10 = [kindOf m, one (m.testBit 8) "r", one (m.testBit 7) "w", two (m.testBit 11) (m.testBit 6) "s" "S", one (m.testBit 5) "r", one (m.testBit 4) "w", two (m.testBit 10) (m.testBit 3) "s" "S",
    one (m.testBit 2) "r", one (m.testBit 1) "w", two (m.testBit 9) (m.testBit 0) "t" "T"] := by
  show [colOf m 0 _, colOf m 1 _, colOf m 2 _, colOf m 3 _, colOf m 4 _, colOf m 5 _, colOf m 6 _, colOf m 7 _, colOf m 8 _, colOf m 9 _] = _
  have a1 : ∀ (i j : Nat) (b : Int) (c : Str), i ≠ 0 → b = ((2 ^ j : Nat) : Int) → colOf (m : Int) i [(b, c)] = if m.testBit j then c else Str.ofString "-" := by
    intro i j b c hi hb
    unfold colOf colOf
    rw [hit1 m i j hi hb]
    unfold dflt
    rw [if_neg hi]
  have a3 : ∀ (i j k : Nat) (b1 b2 b3 : Int) (c1 c2 c3 : Str), i ≠ 0 → b1 = ((2 ^ j ||| 2 ^ k : Nat) : Int) → b2 = ((2 ^ j : Nat) : Int) → b3 = ((2 ^ k : Nat) : Int) →
      colOf (m : Int) i [(b1, c1), (b2, c2), (b3, c3)] = if m.testBit j && m.testBit k then c1 else if m.testBit j then c2 else if m.testBit k then c3 else Str.ofString "-" := by
    intro i j k b1 b2 b3 c1 c2 c3 hi h1 h2 h3
    unfold colOf colOf colOf colOf
    rw [hit2 m i j k hi h1, hit1 m i j hi h2, hit1 m i k hi h3]
    unfold dflt
    rw [if_neg hi]
  rw [a1 1 8 _ _ (by decide) (by decide), a1 2 7 _ _ (by decide) (by decide), a3 3 11 6 _ _ _ _ _ _ (by decide) (by decide) (by decide) (by decide),
    a1 4 5 _ _ (by decide) (by decide), a1 5 4 _ _ (by decide) (by decide), a3 6 10 3 _ _ _ _ _ _ (by decide) (by decide) (by decide) (by decide),
    a1 7 2 _ _ (by decide) (by decide), a1 8 1 _ _ (by decide) (by decide), a3 9 9 0 _ _ _ _ _ _ (by decide) (by decide) (by decide) (by decide)]
  rfl
theorem tb (m j : Nat) : m.testBit j = decide (m / 2 ^ j % 2 = 1) := Nat.testBit_eq_decide_div_mod_eq

theorem bits8 : ∀ y : Fin 8, decide (3 < ((y.val : Nat) : Int)) = y.val.testBit 2 ∧ (((y.val / 2 % 2 : Nat) : Int) == 1) = y.val.testBit 1 ∧ ((y.val % 2 : Nat) : Int) = if y.val.testBit 0 then 1 else 0 := by decide
theorem sgTg (m k j : Nat) (acc : Str) (c : Int) (a b : String) (e0 : (2 ^ c.toNat : Int) = ((2 ^ k : Nat) : Int)) (e9 : (2 ^ (9 + c.fdiv 3).toNat : Int) = ((2 ^ j : Nat) : Int))
    (last : ∀ hi lo : Bool, Txt.item (pick hi (pick (decide ((0 : Int) < c)) (Str.ofString "Ss") (Str.ofString "Tt")) (Str.ofString "-x")) (if lo then 1 else 0) = two hi lo a b) :
    sgT (m : Int) c acc = ((acc ++ one (m.testBit (2 + k)) "r") ++ one (m.testBit (1 + k)) "w") ++ two (m.testBit j) (m.testBit (0 + k)) a b := by
  have gd : ∀ x y : Nat, (x : Int).fdiv (y : Int) = ((x / y : Nat) : Int) := fun x y => by rw [Int.fdiv_eq_ediv_of_nonneg _ (Int.natCast_nonneg y)]; rfl
  have gm : ∀ x y : Nat, (x : Int).fmod (y : Int) = ((x % y : Nat) : Int) := fun x y => by rw [Int.fmod_eq_emod_of_nonneg _ (Int.natCast_nonneg y)]; rfl
  have g2 : ((m / 2 ^ k : Nat) : Int).fmod 8 = ((m / 2 ^ k % 8 : Nat) : Int) := gm _ 8
  have g3 : ((m / 2 ^ k % 8 : Nat) : Int).fdiv 2 = ((m / 2 ^ k % 8 / 2 : Nat) : Int) := gd _ 2
  have g4 : ((m / 2 ^ k % 8 / 2 : Nat) : Int).fmod 2 = ((m / 2 ^ k % 8 / 2 % 2 : Nat) : Int) := gm _ 2
  have g6 : ((m / 2 ^ j : Nat) : Int).fmod 2 = ((m / 2 ^ j % 2 : Nat) : Int) := gm _ 2
  have g7 : ((m / 2 ^ k % 8 : Nat) : Int).fmod 2 = ((m / 2 ^ k % 8 % 2 : Nat) : Int) := gm _ 2
  have h8 := bits8 ⟨m / 2 ^ k % 8, Nat.mod_lt _ (by decide)⟩
  have t : ∀ i, i < 3 → (m / 2 ^ k % 8).testBit i = m.testBit (i + k) := fun i hi => by
    rw [show (8 : Nat) = 2 ^ 3 from rfl, Nat.testBit_mod_two_pow, Nat.testBit_div_two_pow, decide_eq_true hi, Bool.true_and]
  obtain ⟨f1, f2, f4⟩ := h8
  replace f1 := f1.trans (t 2 (by decide))
  replace f2 := f2.trans (t 1 (by decide))
  replace f4 := f4.trans (by rw [t 0 (by decide)])
  have f3 : (((m / 2 ^ j % 2 : Nat) : Int) == 1) = m.testBit j := by
    rw [tb]
    have : ∀ y : Fin 2, (((y.val : Nat) : Int) == 1) = decide (y.val = 1) := by decide
    exact this ⟨m / 2 ^ j % 2, Nat.mod_lt _ (by decide)⟩
  unfold sgT
  rw [e0, e9, gd, g2, g3, g4, gd, g6, g7]
  dsimp only at f1 f2 f4
  rw [f1, f2, f3, f4, last]
  rfl
theorem sgT0 (m : Nat) (acc : Str) : sgT (m : Int) 0 acc = ((acc ++ one (m.testBit 2) "r") ++ one (m.testBit 1) "w") ++ two (m.testBit 9) (m.testBit 0) "t" "T" :=
  sgTg m 0 9 acc 0 _ _ (by decide) (by decide) (by decide +kernel)
theorem sgT3 (m : Nat) (acc : Str) : sgT (m : Int) 3 acc = ((acc ++ one (m.testBit 5) "r") ++ one (m.testBit 4) "w") ++ two (m.testBit 10) (m.testBit 3) "s" "S" :=
  sgTg m 3 10 acc 3 _ _ (by decide) (by decide) (by decide +kernel)
theorem sgT6 (m : Nat) (acc : Str) : sgT (m : Int) 6 acc = ((acc ++ one (m.testBit 8) "r") ++ one (m.testBit 7) "w") ++ two (m.testBit 11) (m.testBit 6) "s" "S" :=
  sgTg m 6 11 acc 6 _ _ (by decide) (by decide) (by decide +kernel)

theorem kind_eq : ∀ k : Fin 13, ∀ r : Bool, True := fun _ _ => trivial
theorem and_kind {m : Nat} (h : m < 65536) : m &&& 61440 = m / 4096 * 4096 := by
  have e : (61440 : Nat) = (2 ^ 4 - 1) * 2 ^ 12 := by decide
  apply Nat.eq_of_testBit_eq
  intro i
  rw [Nat.testBit_and, e, Nat.testBit_mul_two_pow, show m / 4096 * 4096 = (m / 2 ^ 12) * 2 ^ 12 from rfl, Nat.testBit_mul_two_pow, Nat.testBit_two_pow_sub_one, Nat.testBit_div_two_pow]
  by_cases h1 : 12 ≤ i
  · have e2 : i - 12 + 12 = i := by omega
    simp only [h1, decide_true, Bool.true_and, e2]
    by_cases h2 : i - 12 < 4
    · simp [h2]
    · simp only [h2, decide_false, Bool.and_false]
      rw [Nat.testBit_lt_two_pow]
      exact Nat.lt_of_lt_of_le h (Nat.pow_le_pow_right (by decide : 0 < 2) (by omega : 16 ≤ i))
  · simp [h1]
theorem kind_sg (m : Nat) (h : m < 53248) : kindOf (m : Int) = Txt.item (Str.ofString "?pc?d?b?-?l?s???") ((m : Int).fdiv 4096) := by
  have hq : (m : Int).fdiv 4096 = ((m / 4096 : Nat) : Int) := by rw [Int.fdiv_eq_ediv_of_nonneg _ (by decide)]; rfl
  have hb : Builtin.bitAnd (m : Int) 61440 = ((m / 4096 * 4096 : Nat) : Int) := by
    rw [show (61440 : Int) = ((61440 : Nat) : Int) from rfl, bitAnd_nat, and_kind (by omega)]
  rw [hq]
  unfold kindOf colOf colOf colOf colOf colOf colOf colOf colOf hits
  simp only [if_true, hb]
  have hk : m / 4096 < 13 := by omega
  generalize m / 4096 = k at hk
  revert k
  decide +kernel
end Mine

end
section
open PySem PySem.W PyProof.Rows
set_option Elab.async false
set_option maxRecDepth 100000
namespace Mine
noncomputable def pcs (m : Nat) : List Str := [kindOf m, one (m.testBit 8) "r", one (m.testBit 7) "w", two (m.testBit 11) (m.testBit 6) "s" "S", one (m.testBit 5) "r", one (m.testBit 4) "w", two (m.testBit 10) (m.testBit 3) "s" "S",
    one (m.testBit 2) "r", one (m.testBit 1) "w", two (m.testBit 9) (m.testBit 0) "t" "T"]
theorem join0 : ∀ l : List Str, (Str.join (Str.ofString "") l).cps.toList = l.flatMap fun p => p.cps.toList
  | [] => rfl
  | [x] => by
    show x.cps.toList = _
    simp
  | x :: y :: r => by
    show (x ++ Str.ofString "" ++ Str.join (Str.ofString "") (y :: r)).cps.toList = _
    have e : (Str.ofString "").cps.toList = [] := by decide +kernel
    rw [toList_append, toList_append, e, List.append_nil, join0 (y :: r)]
    rfl
theorem fm_list (m : Nat) : (fm (m : Int)).cps.toList = (pcs m).flatMap fun p => p.cps.toList := by
  unfold fm
  rw [cols_eq]
  show (Builtin.Str.glued _ _).cps.toList = _
  rw [StrLaws.glued_eq_join, join0]
  rfl
theorem sg_list (m : Nat) (h : m < 53248) : (sg (m : Int)).cps.toList = (pcs m).flatMap fun p => p.cps.toList := by
  unfold sg
  rw [← kind_sg m h, sgT6, sgT3, sgT0]
  simp only [toList_append]
  unfold pcs
  simp
theorem fm_sg (m : Nat) (h : m < 53248) : fm (m : Int) = sg (m : Int) := str_ext ((fm_list m).trans (sg_list m h).symm)
theorem one_len (b : Bool) : (one b "r").cps.toList.length = 1 ∧ (one b "w").cps.toList.length = 1 := by revert b; decide +kernel
theorem two_len (a b : Bool) : (two a b "s" "S").cps.toList.length = 1 ∧ (two a b "t" "T").cps.toList.length = 1 := by revert a b; decide +kernel
theorem one_no (b : Bool) : 47 ∉ (one b "r").cps.toList ∧ 47 ∉ (one b "w").cps.toList := by revert b; decide +kernel
theorem two_no (a b : Bool) : 47 ∉ (two a b "s" "S").cps.toList ∧ 47 ∉ (two a b "t" "T").cps.toList := by revert a b; decide +kernel
theorem kind_ok (m : Nat) (h : m < 53248) : (kindOf (m : Int)).cps.toList.length = 1 ∧ 47 ∉ (kindOf (m : Int)).cps.toList := by
  rw [kind_sg m h]
  have hq : (m : Int).fdiv 4096 = ((m / 4096 : Nat) : Int) := by rw [Int.fdiv_eq_ediv_of_nonneg _ (by decide)]; rfl
  rw [hq]
  have hk : m / 4096 < 13 := by omega
  generalize m / 4096 = k at hk
  revert k
  decide +kernel
theorem sg_nm (m : Nat) (h : m < 53248) : Nm (sg (m : Int)) := by
  obtain ⟨k1, k2⟩ := kind_ok m h
  refine ⟨?_, ?_⟩
  · rw [len_toList, sg_list m h]
    unfold pcs
    simp only [List.flatMap_cons, List.flatMap_nil, List.length_append, List.length_nil, k1, (one_len _).1, (one_len _).2, (two_len _ _).1, (two_len _ _).2]
  · rw [sg_list m h]
    unfold pcs
    simp only [List.flatMap_cons, List.flatMap_nil, List.mem_append, List.not_mem_nil, or_false, not_or]
    exact ⟨k2, (one_no _).1, (one_no _).2, (two_no _ _).1, (one_no _).1, (one_no _).2, (two_no _ _).1, (one_no _).1, (one_no _).2, (two_no _ _).2⟩
theorem one_inj (a b : Bool) : ((one a "r").cps.toList = (one b "r").cps.toList → a = b) ∧ ((one a "w").cps.toList = (one b "w").cps.toList → a = b) := by revert a b; decide +kernel
theorem two_inj (a b c d : Bool) : ((two a b "s" "S").cps.toList = (two c d "s" "S").cps.toList → a = c ∧ b = d) ∧ ((two a b "t" "T").cps.toList = (two c d "t" "T").cps.toList → a = c ∧ b = d) := by revert a b c d; decide +kernel
theorem sg_inj {m n : Nat} (hm : m < 53248) (hn : n < 53248) (hk : m / 4096 = n / 4096) (h : sg (m : Int) = sg (n : Int)) : m = n := by
  have e := (sg_list m hm).symm.trans ((congrArg (fun s : Str => s.cps.toList) h).trans (sg_list n hn))
  unfold pcs at e
  simp only [List.flatMap_cons, List.flatMap_nil, List.append_nil] at e
  obtain ⟨_, e⟩ := List.append_inj e (by rw [(kind_ok m hm).1, (kind_ok n hn).1])
  obtain ⟨b8, e⟩ := List.append_inj e (by rw [(one_len _).1, (one_len _).1])
  obtain ⟨b7, e⟩ := List.append_inj e (by rw [(one_len _).2, (one_len _).2])
  obtain ⟨b6, e⟩ := List.append_inj e (by rw [(two_len _ _).1, (two_len _ _).1])
  obtain ⟨b5, e⟩ := List.append_inj e (by rw [(one_len _).1, (one_len _).1])
  obtain ⟨b4, e⟩ := List.append_inj e (by rw [(one_len _).2, (one_len _).2])
  obtain ⟨b3, e⟩ := List.append_inj e (by rw [(two_len _ _).1, (two_len _ _).1])
  obtain ⟨b2, e⟩ := List.append_inj e (by rw [(one_len _).1, (one_len _).1])
  obtain ⟨b1, b0⟩ := List.append_inj e (by rw [(one_len _).2, (one_len _).2])
  have c8 := (one_inj _ _).1 b8
  have c7 := (one_inj _ _).2 b7
  have c6 := (two_inj _ _ _ _).1 b6
  have c5 := (one_inj _ _).1 b5
  have c4 := (one_inj _ _).2 b4
  have c3 := (two_inj _ _ _ _).1 b3
  have c2 := (one_inj _ _).1 b2
  have c1 := (one_inj _ _).2 b1
  have c0 := (two_inj _ _ _ _).2 b0
  apply Nat.eq_of_testBit_eq
  intro i
  by_cases hi : i < 12
  · rcases twelve hi with rfl | rfl | rfl | rfl | rfl | rfl | rfl | rfl | rfl | rfl | rfl | rfl
    · exact c0.2
    · exact c1
    · exact c2
    · exact c3.2
    · exact c4
    · exact c5
    · exact c6.2
    · exact c7
    · exact c8
    · exact c0.1
    · exact c3.1
    · exact c6.1
  · have h1 : i = 12 + (i - 12) := by omega
    have t1 : (m / 2 ^ 12).testBit (i - 12) = m.testBit (i - 12 + 12) := Nat.testBit_div_two_pow m (i - 12)
    have t2 : (n / 2 ^ 12).testBit (i - 12) = n.testBit (i - 12 + 12) := Nat.testBit_div_two_pow n (i - 12)
    have e2 : i - 12 + 12 = i := by omega
    rw [e2] at t1 t2
    rw [← t1, ← t2]
    show (m / 4096).testBit _ = (n / 4096).testBit _
    rw [hk]
end Mine

end
section
open PySem PySem.W PySem.Calls PyProof.Rows PySem.AutoIntOps
set_option Elab.async false
set_option maxRecDepth 100000
set_option linter.unusedVariables false
namespace Mine
theorem and_val (m p : Nat) : m &&& 2 ^ p = if m.testBit p then 2 ^ p else 0 := by
  apply Nat.eq_of_testBit_eq
  intro k
  rw [Nat.testBit_and, Nat.testBit_two_pow]
  by_cases e : p = k
  · subst e
    cases h : m.testBit p with
    | true => simp [Nat.testBit_two_pow]
    | false => simp
  · cases h : m.testBit p with
    | true => simp [Nat.testBit_two_pow, e]
    | false => simp [e]
noncomputable def turn (m p : Nat) : Nat := if m.testBit p then m - 2 ^ p else m + 2 ^ p
theorem bit_room {m p : Nat} (hp : p < 12) : (m.testBit p = true → 2 ^ p ≤ m % 4096) ∧ (m.testBit p = false → m % 4096 + 2 ^ p < 4096) := by
  have hl : m % 4096 < 2 ^ 12 := Nat.mod_lt _ (by decide)
  have t : (m % 4096).testBit p = m.testBit p := by rw [show (4096 : Nat) = 2 ^ 12 from rfl, Nat.testBit_mod_two_pow, decide_eq_true hp, Bool.true_and]
  constructor
  · intro h
    exact Nat.ge_two_pow_of_testBit (t.trans h)
  · intro h
    have h2 := Nat.ge_two_pow_of_testBit (x := 2 ^ 12 - (m % 4096 + 1)) (i := p) (by rw [Nat.testBit_two_pow_sub_succ hl, t, h, decide_eq_true hp]; rfl)
    have h3 := Nat.add_le_of_le_sub (Nat.succ_le_of_lt hl) h2
    rw [Nat.add_comm] at h3
    show Nat.succ _ ≤ _
    rw [← Nat.succ_add]
    exact h3
theorem turn_kind {m p : Nat} (hp : p < 12) : turn m p / 4096 = m / 4096 := by
  obtain ⟨h1, h2⟩ := bit_room (m := m) hp
  unfold turn
  cases h : m.testBit p with
  | true => have := h1 h; simp only [if_true]; generalize 2 ^ p = P at *; omega
  | false => have := h2 h; simp only [Bool.false_eq_true, if_false]; generalize 2 ^ p = P at *; omega
theorem turn_lt {m p : Nat} (hp : p < 12) (hm : m < 53248) : turn m p < 53248 := by
  have := turn_kind (m := m) hp
  omega
theorem turn_ne {m p : Nat} (hp : p < 12) : turn m p ≠ m := by
  obtain ⟨h1, _⟩ := bit_room (m := m) hp
  have := Nat.two_pow_pos p
  unfold turn
  cases h : m.testBit p with
  | true => have := h1 h; simp only [if_true]; omega
  | false => simp only [Bool.false_eq_true, if_false]; omega
theorem turn_ne2 {m p q : Nat} (hp : p < 12) (hq : q < 12) (hpq : p ≠ q) : turn m p ≠ turn m q := by
  obtain ⟨h1, _⟩ := bit_room (m := m) hp
  obtain ⟨h3, _⟩ := bit_room (m := m) hq
  have a := Nat.two_pow_pos p
  have b := Nat.two_pow_pos q
  have c : 2 ^ p ≠ 2 ^ q := fun e => hpq ((Nat.pow_right_inj (by decide)).mp e)
  unfold turn
  cases h : m.testBit p <;> cases h' : m.testBit q
  · simp only [Bool.false_eq_true, if_false]; omega
  · have := h3 h'; simp only [Bool.false_eq_true, if_false, if_true]; omega
  · have := h1 h; simp only [Bool.false_eq_true, if_false, if_true]; omega
  · have := h1 h; have := h3 h'; simp only [if_true]; omega
theorem xor_turn {m p : Nat} (hp : p < 12) : Builtin.bitXor (m : Int) ((2 ^ p : Nat) : Int) = ((turn m p : Nat) : Int) := by
  obtain ⟨h1, _⟩ := bit_room (m := m) hp
  rw [bitXor_and, bitAnd_nat, and_val]
  unfold turn
  cases h : m.testBit p with
  | true => have := h1 h; simp only [if_true]; omega
  | false => simp only [Bool.false_eq_true, if_false]; omega
section
variable {prog : Program} {w : World} {A : Around} {E : Value → Shared → Prop} {s : Shared}
theorem xor_small {x y : Int} {m p : Nat} {t u : Tok} {Q : Value → Shared → Prop} (hx : x = (m : Int)) (hy : y = ((2 ^ p : Nat) : Int)) (hp : p < 12) (h : ∀ t' tk', Q (.int ((turn m p : Nat) : Int) t') { s with toks := tk' }) : wpAny (model prog w) A (binaryOp .BitXor (.int x t) (.int y u)) Q E s := by
  subst hx hy
  refine xor_int ?_
  rw [xor_turn hp]
  exact h _ _
end
end Mine

end
section
open PySem PySem.W PySem.Calls PyProof.Rows
set_option Elab.async false
set_option maxRecDepth 100000
set_option linter.unusedVariables false
namespace Mine

theorem call_filemode {w : World} {q : Program} {loose mean mg mb} {A : Around} {h₀ : Heap} {L : Addr} {m : Str → Option Value} {news : List (Addr × Obj)} {s : Shared} {Q : Value → Shared → Prop} {E : Value → Shared → Prop} {n : Nat} {tkn : Tok}
   (hA : A.handled = none) (hd : A.depth + 4 < recursionLimit) (hu : A.units + 30 < cLine) (F : Fr h₀ L s.heap m) (N : News h₀ L s.heap news) (X : Frag.In (H.KR w.params) h₀) (T : Top q loose mean mg mb h₀) (h1 : n < 53248)
   (h : ∀ v h' tk', Fr h₀ L h' m → News h₀ L h' news → (∃ t, v = .str (sg n) t) → Q v {s with heap := h', toks := tk'}) :
   wpAny (model pw w) A (call (.ref 167) [.int n tkn] []) Q E s := by
  obtain ⟨ha, dp, fr, gd, un⟩ := A
  dsimp only at hA hd hu
  subst hA
  exact wpAny_call (filemode_spec (X.keeps F.keep) (T.keeps F.keep) hd hu (by omega) (by omega) fun v h' tk' k p => h v h' tk' (F.keeps k) (N.grown k) (by rw [← fm_sg n h1]; exact p))

theorem call_old {w : World} {q : Program} {loose mean mg mb} {A : Around} {h₀ : Heap} {L : Addr} {m : Str → Option Value} {news : List (Addr × Obj)} {s : Shared} {Q : Value → Shared → Prop} {E : Value → Shared → Prop} {x : Str} {p : Nat} {tk1 tk2 : Tok}
   (hA : A.handled = none) (hd : A.depth + 4 < recursionLimit) (hu : A.units + 30 < cLine) (F : Fr h₀ L s.heap m) (N : News h₀ L s.heap news) (X : Frag.In (H.KR w.params) h₀) (T : Top q loose mean mg mb h₀) (hx : x.length ≤ 1000) (hp : p ≤ x.length)
   (h : ∀ v h' tk', Fr h₀ L h' m → News h₀ L h' news → (∃ t, v = .int ((mx lcpL (x.cps.toList.drop p) ((List.range p).map fun i => x.cps.toList.drop i) : Nat) : Int) t) → Q v {s with heap := h', toks := tk'}) :
   wpAny (model pw w) A (call (.ref 267) [.str x tk1, .int (p : Nat) tk2] []) Q E s := by
  obtain ⟨ha, dp, fr, gd, un⟩ := A
  dsimp only at hA hd hu
  subst hA
  exact wpAny_call (old_spec (X.keeps F.keep) (T.keeps F.keep) hd hu hx hp fun v h' tk' k pp => h v h' tk' (F.keeps k) (N.grown k) (by obtain ⟨kk, t, e, ho⟩ := pp; exact ⟨t, by rw [e, ← old_eq ho]⟩))

theorem call_nests {w : World} {q : Program} {loose mean mg mb} {A : Around} {h₀ : Heap} {L : Addr} {m : Str → Option Value} {pre : List (Addr × Obj)} {ts : TS} {s : Shared} {Q : Value → Shared → Prop} {E : Value → Shared → Prop}
   (hA : A.handled = none) (hd : A.depth + 40 < recursionLimit) (hu : A.units + 400 < cLine) (F : Fr h₀ L s.heap m) (N : News h₀ L s.heap (pre ++ ts.news)) (X : Frag.In (H.KR w.params) h₀) (T : Top q loose mean mg mb h₀) (wf : WF w ts) (hz : ts.W.length ≤ 1000) (hl : ∀ v ∈ ts.W, v.length ≤ 14)
   (h : ∀ h' tk' t, Fr h₀ L h' m → News h₀ L h' (pre ++ ts.news) → Q (.int (((ts.W.length - 1 : Nat)) : Int) t) {s with heap := h', toks := tk'}) :
   wpAny (model pw w) A (call (.ref 279) [.ref (ts.ρ [])] []) Q E s := by
  obtain ⟨ha, dp, fr, gd, un⟩ := A
  dsimp only at hA hd hu
  subst hA
  have hn := wf_nest wf N hz 15 [] wf.root fun v hv _ => by have := hl v hv; show v.length < 0 + 15; omega
  refine wpAny_call (nests_spec 15 (X.keeps F.keep) (T.keeps F.keep) (by omega) (by omega) hn fun v h' tk' k p => ?_)
  obtain ⟨t, rfl⟩ := p
  have e := cnt_root wf.nd wf.root
  have e2 : cnt ts.W [] = ts.W.length - 1 := by omega
  rw [e2]
  exact h h' tk' t (F.keeps k) (N.grown k)
end Mine

end
section
open PySem PySem.W PySem.Calls PyProof.Rows PySem.Spec
set_option Elab.async false
set_option maxRecDepth 100000
set_option linter.unusedVariables false
namespace Mine
theorem rising_chain : ∀ (us : List (List Str)) (u : List Str), (∀ v ∈ u :: us, ∀ c ∈ v, Nm c) → risingS (enc u) (us.map enc) = true → (u :: us).Pairwise leL
  | [], u, _, _ => List.pairwise_singleton _ _
  | v :: us, u, hn, h => by
    rw [List.map_cons] at h
    unfold risingS at h
    rw [Bool.and_eq_true] at h
    obtain ⟨h1, h2⟩ := h
    have ih := rising_chain us v (fun x hx => hn x (.tail _ hx)) h2
    have huv : leL u v := by
      unfold leL
      cases e : ltL v u with
      | false => rfl
      | true =>
        have := (enc_lt (hn v (.tail _ (.head _))) (hn u (.head _))).mpr e
        rw [ltCps_eq, decide_eq_true this] at h1
        cases h1
    refine .cons (fun x hx => ?_) ih
    rcases List.mem_cons.mp hx with rfl | hx
    · exact huv
    · exact leL_trans _ _ _ huv ((List.pairwise_cons.mp ih).1 x hx)
noncomputable def dec (s : Str) : List Str := (Txt.split s sep1).tail
theorem dec_enc {u : List Str} (h : ∀ c ∈ u, Nm c) : dec (enc u) = u := by unfold dec; rw [split_enc h]; rfl
theorem map_dec : ∀ {es : List (List Str)}, (∀ v ∈ es, ∀ c ∈ v, Nm c) → (es.map enc).map dec = es
  | [], _ => rfl
  | v :: es, h => by rw [List.map_cons, List.map_cons, dec_enc (h v (.head _)), map_dec fun x hx => h x (.tail _ hx)]
theorem sorted_ends {ss' : List Str} {es : List (List Str)} (hn : ∀ v ∈ es, ∀ c ∈ v, Nm c) (hp : ss'.Perm (es.map enc)) (hs : sortedS ss' = true) : ∃ out : List (List Str), ss' = out.map enc ∧ out.Perm es ∧ out.Pairwise leL := by
  have e1 : ∀ x ∈ ss', enc (dec x) = x := fun x hx => by
    obtain ⟨u, hu, rfl⟩ := List.mem_map.mp (hp.mem_iff.mp hx)
    rw [dec_enc (hn u hu)]
  have e2 : ss' = (ss'.map dec).map enc := by
    rw [List.map_map]
    exact (List.map_id ss').symm.trans (List.map_congr_left fun x hx => (e1 x hx).symm)
  have e3 : (ss'.map dec).Perm es := by have := hp.map dec; rwa [map_dec hn] at this
  refine ⟨ss'.map dec, e2, e3, ?_⟩
  have hn' : ∀ v ∈ ss'.map dec, ∀ c ∈ v, Nm c := fun v hv => hn v (e3.mem_iff.mp hv)
  rw [e2] at hs
  generalize ss'.map dec = out at *
  cases out with
  | nil => exact .nil
  | cons u us => exact rising_chain us u hn' hs
theorem addAll_pre : ∀ (r before W : List (List Str)), Pre W before → Pre (addAll W r) (before ++ r)
  | [], before, W, h => by simpa [addAll] using h
  | s :: r, before, W, h => by
    have := addAll_pre r _ _ (h.add (s := s)).1
    rw [List.append_assoc] at this
    exact this
theorem addAll_words {r : List (List Str)} {k : Nat} (h : ∀ b ∈ r, b.length ≤ k) : ∀ v ∈ addAll [[]] r, v.length ≤ k := fun v hv => by
  rcases ((addAll_pre r [] [[]] pre_nil).2 v).mp hv with rfl | ⟨b, hb, hvb⟩
  · exact Nat.zero_le _
  · exact Nat.le_trans hvb.length_le (h b (by simpa using hb))
theorem addAll_snoc : ∀ (r W : List (List Str)) (s : List Str), addAll W (r ++ [s]) = addW (addAll W r) [] s
  | [], W, s => rfl
  | x :: r, W, s => addAll_snoc r (addW W [] x) s
theorem ends_mem {β : Type} {l v : List β} (h : v ∈ ends l) : v.length ≤ l.length ∧ ∀ c ∈ v, c ∈ l := by
  obtain ⟨p, hp, rfl⟩ := List.mem_map.mp h
  exact ⟨by rw [List.length_drop]; omega, fun c hc => List.mem_of_mem_drop hc⟩
theorem law_olds {R : List Nat} {M : Nat → Nat} {N : Nat → Str} {out : List (List Str)} (hM : ∀ a ∈ R, ∀ b ∈ R, M a = M b → a = b) (hN : ∀ a ∈ R, ∀ b ∈ R, N a = N b → a = b) (h1 : out.Pairwise leL) (h2 : out.Perm (ends (R.map N))) :
    ((List.range R.length).map fun p => mx lcpL ((R.map M).drop p) ((List.range p).map fun i => (R.map M).drop i)).Perm (shs lcpL out) := by
  have e := olds_ends (R.map M)
  rw [List.length_map] at e
  rw [← e, olds_map hM, ← olds_map hN]
  exact olds_shares_L _ out h1 h2
theorem law_nests {U : List Str} {out : List (List Str)} (h1 : out.Pairwise leL) (h2 : out.Perm (ends U)) :
    2 * ((addAll [[]] (ends U)).length - 1 + (shs lcpL out).sum) = U.length * (U.length + 1) ∧ (addAll [[]] (ends U)).length ≤ 1 + U.length * (U.length + 1) ∧ ∀ v ∈ addAll [[]] (ends U), v.length ≤ U.length := by
  have a := addAll_len (ends U) [] [[]] pre_nil
  have b := ends_lens U
  have c := (olds_shares_L (ends U) out h1 h2).sum_nat
  have d := addAll_pre (ends U) [] [[]] pre_nil
  have e : 0 < (addAll [[]] (ends U)).length := List.length_pos_of_mem ((d.2 []).mpr (.inl rfl))
  simp only [List.length_singleton] at a
  refine ⟨by omega, by omega, addAll_words fun v hv => (ends_mem hv).1⟩
end Mine

end
section
open PySem PySem.W PySem.Calls PyProof.Rows
set_option Elab.async false
set_option linter.unusedVariables false
namespace Mine
theorem head_mode (H : Int) : ∃ m : Nat, (H + 1).fmod 13 * 4096 + (H.fdiv 7 + 3417).fmod 4096 = (m : Int) ∧ m < 53248 := by
  rw [Int.fmod_eq_emod_of_nonneg _ (by decide), Int.fmod_eq_emod_of_nonneg _ (by decide)]
  exact ⟨((H + 1) % 13 * 4096 + (H.fdiv 7 + 3417) % 4096).toNat, by omega, by omega⟩
theorem head_place (H : Int) : ∃ p : Nat, H.fmod 12 = (p : Int) ∧ p < 12 := by
  rw [Int.fmod_eq_emod_of_nonneg _ (by decide)]
  exact ⟨(H % 12).toNat, by omega, by omega⟩
theorem head_q (H : Int) {p : Nat} (hp : H.fmod 12 = (p : Int)) (h : p < 12) : ∃ q : Nat, (H.fmod 12 + 1 + H.fmod 11).fmod 12 = (q : Int) ∧ q < 12 ∧ p ≠ q := by
  rw [hp, Int.fmod_eq_emod_of_nonneg _ (by decide), Int.fmod_eq_emod_of_nonneg _ (by decide)]
  exact ⟨(((p : Int) + 1 + H % 11) % 12).toNat, by omega, by omega, by omega⟩
noncomputable def MS (m p q : Nat) : List Nat := [m, turn m p, turn m q]
theorem MS_lt {m p q x : Nat} (hm : m < 53248) (hp : p < 12) (hq : q < 12) (h : x ∈ MS m p q) : x < 53248 := by
  simp only [MS, List.mem_cons, List.not_mem_nil, or_false] at h
  rcases h with rfl | rfl | rfl
  · exact hm
  · exact turn_lt hp hm
  · exact turn_lt hq hm
theorem MS_kind {m p q x : Nat} (hp : p < 12) (hq : q < 12) (h : x ∈ MS m p q) : x / 4096 = m / 4096 := by
  simp only [MS, List.mem_cons, List.not_mem_nil, or_false] at h
  rcases h with rfl | rfl | rfl
  · rfl
  · exact turn_kind hp
  · exact turn_kind hq
noncomputable def cI (l : List Nat) : List Int := l.map fun n : Nat => (n : Int)
theorem cI_len (l : List Nat) : (cI l).length = l.length := List.length_map ..
theorem ints_item {vs : List Value} {l : List Nat} (h : IntsAre vs (cI l)) {i : Nat} {v : Value} (e : vs[i]? = some v) : ∃ (n : Nat) (t : Tok), v = .int (n : Int) t ∧ l[i]? = some n := by
  obtain ⟨z, t, rfl, hz⟩ := IntsAre.at h i v e
  unfold cI at hz
  rw [List.getElem?_map] at hz
  obtain ⟨n, hn, rfl⟩ := Option.map_eq_some_iff.mp hz
  exact ⟨n, t, rfl, hn⟩
theorem ints_get {vs : List Value} {l : List Nat} (h : IntsAre vs (cI l)) {i n : Nat} (e : l[i]? = some n) : ∃ t, vs[i]? = some (.int (n : Int) t) :=
  IntsAre.get h i n (by unfold cI; rw [List.getElem?_map, e]; rfl)
theorem ints_len {vs : List Value} {l : List Nat} (h : IntsAre vs (cI l)) : vs.length = l.length := (IntsAre.length h).trans (cI_len l)
theorem take_next {α : Type} {l : List α} {i : Nat} {a : α} (h : l[i]? = some a) : l.take (i + 1) = l.take i ++ [a] := by
  obtain ⟨hi, e⟩ := List.getElem?_eq_some_iff.mp h
  rw [List.take_succ_eq_append_getElem hi, e]
theorem ints_snoc : ∀ {ys : List Value} {l : List Int} {z : Int} {t : Tok}, IntsAre ys l → IntsAre (ys ++ [.int z t]) (l ++ [z])
  | _, _, z, t, .nil => .cons z t .nil
  | _, _, z, t, .cons a u r => .cons a u (ints_snoc r)
theorem strs_next {α : Type} {f : α → Str} {ys : List Value} {l : List α} {i : Nat} {a : α} {t : Tok} (h : StrsAre ys ((l.take i).map f)) (hx : l[i]? = some a) : StrsAre (ys ++ [.str (f a) t]) ((l.take (i + 1)).map f) := by
  rw [take_next hx, List.map_append, List.map_singleton]
  exact StrsAre_snoc h _ _
theorem ints_next {α : Type} {f : α → Int} {ys : List Value} {l : List α} {i : Nat} {a : α} {t : Tok} (h : IntsAre ys ((l.take i).map f)) (hx : l[i]? = some a) : IntsAre (ys ++ [.int (f a) t]) ((l.take (i + 1)).map f) := by
  rw [take_next hx, List.map_append, List.map_singleton]
  exact ints_snoc h
theorem abs3 {h₀ h : Heap} {L l : Addr} {z a b c : Int} {t u v : Tok} {k : Nat} {r : List (Addr × Obj)} (e : z = a) (N : News h₀ L h ((l, listOf #[.int z t, .int b u, .int c v] k) :: r)) : ∃ mv : List Value, IntsAre mv [a, b, c] ∧ News h₀ L h ((l, listOf mv.toArray k) :: r) :=
  e ▸ ⟨[.int z t, .int b u, .int c v], .cons _ _ (.cons _ _ (.cons _ _ .nil)), N⟩
theorem as1 {m : Str → Option Value} {a : Str} {v : Value} (h : m a = some v) : ∀ y, m y = if y = a then some v else m y := fun y => by
  by_cases e : y = a
  · rw [if_pos e, e, h]
  · rw [if_neg e]
theorem as2 {m : Str → Option Value} {a b : Str} {v u : Value} (h : m a = some v) (h2 : m b = some u) : ∀ y, m y = if y = a then some v else if y = b then some u else m y := fun y => by
  by_cases e : y = a
  · rw [if_pos e, e, h]
  · rw [if_neg e]; exact as1 h2 y
theorem as3 {m : Str → Option Value} {a b c : Str} {v u x : Value} (h : m a = some v) (h2 : m b = some u) (h3 : m c = some x) : ∀ y, m y = if y = a then some v else if y = b then some u else if y = c then some x else m y := fun y => by
  by_cases e : y = a
  · rw [if_pos e, e, h]
  · rw [if_neg e]; exact as2 h2 h3 y
theorem as4 {m : Str → Option Value} {a b c d : Str} {v u x z : Value} (h : m a = some v) (h2 : m b = some u) (h3 : m c = some x) (h4 : m d = some z) : ∀ y, m y = if y = a then some v else if y = b then some u else if y = c then some x else if y = d then some z else m y := fun y => by
  by_cases e : y = a
  · rw [if_pos e, e, h]
  · rw [if_neg e]; exact as3 h2 h3 h4 y
theorem absF1 {h₀ h : Heap} {L : Addr} {m : Str → Option Value} {a : Str} {v : Value} (F : Fr h₀ L h m) (e : m a = some v) : ∃ m1 : Str → Option Value, Fr h₀ L h (fun y => if y = a then some v else m1 y) := ⟨m, Fr.as F (as1 e)⟩
theorem absF2 {h₀ h : Heap} {L : Addr} {m : Str → Option Value} {a b : Str} {v u : Value} (F : Fr h₀ L h m) (e : m a = some v) (e2 : m b = some u) : ∃ m1 : Str → Option Value, Fr h₀ L h (fun y => if y = a then some v else if y = b then some u else m1 y) := ⟨m, Fr.as F (as2 e e2)⟩
theorem absF3 {h₀ h : Heap} {L : Addr} {m : Str → Option Value} {a b c : Str} {v u x : Value} (F : Fr h₀ L h m) (e : m a = some v) (e2 : m b = some u) (e3 : m c = some x) : ∃ m1 : Str → Option Value, Fr h₀ L h (fun y => if y = a then some v else if y = b then some u else if y = c then some x else m1 y) := ⟨m, Fr.as F (as3 e e2 e3)⟩
theorem ite_f {a b : Prop} (h : b) : if false = true then a else b := h
theorem ite_t {a b : Prop} (h : a) : if true = true then a else b := h
noncomputable def RW (ns : List Int) : List Nat := [0, 1, 0, 2, 0, 1, 0, 0] ++ (ns.take 6).map fun x => (x.fmod 3).toNat
theorem RW_lt {ns : List Int} {k : Nat} (h : k ∈ RW ns) : k < 3 := by
  rcases List.mem_append.mp h with h | h
  · simp only [List.mem_cons, List.not_mem_nil, or_false] at h; omega
  · obtain ⟨x, _, rfl⟩ := List.mem_map.mp h
    have := Int.fmod_nonneg_of_pos x (show (0 : Int) < 3 by decide)
    have := Int.fmod_lt_of_pos x (show (0 : Int) < 3 by decide)
    omega
theorem RW_len (ns : List Int) : (RW ns).length = 8 + min 6 ns.length := by unfold RW; rw [List.length_append, List.length_map, List.length_take]; rfl
theorem RW_cI (ns : List Int) : cI (RW ns) = [0, 1, 0, 2, 0, 1, 0, 0] ++ (ns.take 6).map fun x => x.fmod 3 := by
  unfold cI RW
  rw [List.map_append, List.map_map]
  congr 1
  refine List.map_congr_left fun x _ => ?_
  have := Int.fmod_nonneg_of_pos x (show (0 : Int) < 3 by decide)
  show ((x.fmod 3).toNat : Int) = _
  omega
noncomputable def nmf (m : Nat) : Str := sg (m : Int)
end Mine

end
section
open PySem PySem.W PySem.Calls PyProof.Rows PyProof.V PySem.Spec
set_option Elab.async false
set_option linter.unusedVariables false
namespace Mine
theorem one_lo (b : Bool) : (∀ c ∈ (one b "r").cps.toList, c < 1114112) ∧ (∀ c ∈ (one b "w").cps.toList, c < 1114112) := by revert b; decide +kernel
theorem two_lo (a b : Bool) : (∀ c ∈ (two a b "s" "S").cps.toList, c < 1114112) ∧ (∀ c ∈ (two a b "t" "T").cps.toList, c < 1114112) := by revert a b; decide +kernel
theorem kind_lo (m : Nat) (h : m < 53248) : ∀ c ∈ (kindOf (m : Int)).cps.toList, c < 1114112 := by
  rw [kind_sg m h]
  have hq : (m : Int).fdiv 4096 = ((m / 4096 : Nat) : Int) := by rw [Int.fdiv_eq_ediv_of_nonneg _ (by decide)]; rfl
  rw [hq]
  have hk : m / 4096 < 13 := by omega
  generalize m / 4096 = k at hk
  revert k
  decide +kernel
theorem sg_ok (m : Nat) (h : m < 53248) : PyData.strOk (sg (m : Int)) = true := by
  have h2 : ∀ c ∈ (sg (m : Int)).cps.toList, c < 1114112 := by
    rw [sg_list m h]
    unfold pcs
    simp only [List.flatMap_cons, List.flatMap_nil, List.mem_append, List.not_mem_nil, or_false]
    intro c hc
    rcases hc with hc | hc | hc | hc | hc | hc | hc | hc | hc | hc
    · exact kind_lo m h c hc
    · exact (one_lo _).1 c hc
    · exact (one_lo _).2 c hc
    · exact (two_lo _ _).1 c hc
    · exact (one_lo _).1 c hc
    · exact (one_lo _).2 c hc
    · exact (two_lo _ _).1 c hc
    · exact (one_lo _).1 c hc
    · exact (one_lo _).2 c hc
    · exact (two_lo _ _).2 c hc
  unfold PyData.strOk
  rw [Array.all_eq_true_iff_forall_mem]
  intro c hc
  exact decide_eq_true (h2 c (by simpa using hc))
theorem sameAll_strs : ∀ xs ys : List Str, PySem.Spec.sameAll (xs.map PyData.str) (ys.map PyData.str) = decide (xs = ys)
  | [], [] => by simp [PySem.Spec.sameAll]
  | [], _ :: _ => by simp [PySem.Spec.sameAll]
  | _ :: _, [] => by simp [PySem.Spec.sameAll]
  | a :: r, b :: t => by
    simp only [List.map_cons, PySem.Spec.sameAll, PySem.Spec.same, sameAll_strs r t]
    by_cases h : a = b <;> by_cases h' : r = t <;> simp [h, h']
theorem shaped_strs (xs : List Str) (h : ∀ x ∈ xs, PyData.strOk x = true) : SeqAt.shaped (.list (xs.map PyData.str)) = true := by
  simp [SeqAt.shaped, PyData.canLay0, PyData.depth, canLayAll_strs', depthAll_strs', List.all_eq_true]
  exact h
section
variable {prog : Program} {w : World} {A : Around} {E : Value → Shared → Prop} {s : Shared} {a b : Addr} {vs us : List Value} {xs ys : List Str} {Q : Value → Shared → Prop}
theorem ne_strs (ha : s.heap.IsList a vs.toArray) (hb : s.heap.IsList b us.toArray) (hi : StrsAre vs xs) (hj : StrsAre us ys) (hu : A.units + 64 < cLine) (hx : ∀ x ∈ xs, PyData.strOk x = true) (hy : ∀ x ∈ ys, PyData.strOk x = true) (h : Q (.bool (!decide (xs = ys))) s) :
    wpAny (model prog w) A (compareOp .NotEq (.ref a) (.ref b)) Q E s :=
  ne_dataH_same (reads_newData ha hi.carried) (reads_newData hb hj.carried) (shaped_strs _ hx) (shaped_strs _ hy) hu (SeqAt.noMix_of_shape (.list .str) rfl _ _ (list_map_has fun _ => rfl) (list_map_has fun _ => rfl))
    (by simp only [PySem.Spec.same]; rw [sameAll_strs]; exact h)
theorem ne_strs_same (ha : s.heap.IsList a vs.toArray) (hb : s.heap.IsList b us.toArray) (hi : StrsAre vs xs) (hj : StrsAre us xs) (hu : A.units + 64 < cLine) (hx : ∀ x ∈ xs, PyData.strOk x = true) (h : Q (.bool false) s) :
    wpAny (model prog w) A (compareOp .NotEq (.ref a) (.ref b)) Q E s := ne_strs ha hb hi hj hu hx hx (by rw [decide_eq_true rfl]; exact h)
theorem ne_ints_same {ns ms : List Int} (ha : s.heap.IsList a vs.toArray) (hb : s.heap.IsList b us.toArray) (hi : IntsAre vs ns) (hj : IntsAre us ms) (e : ns = ms) (hu : A.units + 64 < cLine) (h : Q (.bool false) s) :
    wpAny (model prog w) A (compareOp .NotEq (.ref a) (.ref b)) Q E s := ke_ne_ints ha hb hi hj hu (by subst e; rw [decide_eq_true rfl]; exact h)
end
end Mine

end
section
open PySem PySem.W PySem.Calls PyProof.Rows PyProof.V PySem.Spec
set_option Elab.async false
set_option linter.unusedVariables false
namespace Mine
noncomputable def mf (m p q k : Nat) : Nat := (MS m p q).getD k 0
theorem MS_get {m p q k : Nat} (h : k < 3) : (MS m p q)[k]? = some (mf m p q k) := by
  obtain rfl | rfl | rfl : k = 0 ∨ k = 1 ∨ k = 2 := by omega
  all_goals rfl
theorem mf_mem {m p q k : Nat} (h : k < 3) : mf m p q k ∈ MS m p q := List.mem_of_getElem? (MS_get h)
theorem txt_join0 (l : List Str) : (Txt.join (Str.ofString "") l).cps.toList = l.flatMap fun p => p.cps.toList := by
  show (Builtin.Str.glued _ _).cps.toList = _
  rw [StrLaws.glued_eq_join, join0]
theorem flat_drop {f : Nat → List Nat} (hf : ∀ a, (f a).length = 4) : ∀ (l : List Nat) (i : Nat), (l.flatMap f).drop (4 * i) = (l.drop i).flatMap f
  | _, 0 => by simp
  | [], i + 1 => by simp
  | a :: l, i + 1 => by
    rw [List.flatMap_cons, List.drop_succ_cons, ← flat_drop hf l i, show 4 * (i + 1) = (f a).length + 4 * i by rw [hf]; omega, List.drop_append]
    simp
theorem flat_len {f : Nat → List Nat} (hf : ∀ a, (f a).length = 4) : ∀ (l : List Nat), (l.flatMap f).length = 4 * l.length
  | [] => rfl
  | a :: l => by rw [List.flatMap_cons, List.length_append, hf, flat_len hf l, List.length_cons]; omega
noncomputable def FG (m p q : Nat) (R : List Nat) : Str := Txt.join (Str.ofString "") (R.map fun k => hxN (mf m p q k))
theorem FG_list (m p q : Nat) (R : List Nat) : (FG m p q R).cps.toList = R.flatMap fun k => (hxN (mf m p q k)).cps.toList := by
  unfold FG
  rw [txt_join0, List.flatMap_map]
theorem FG_len (m p q : Nat) (R : List Nat) : (FG m p q R).length = 4 * R.length := by
  rw [len_toList, FG_list]
  exact flat_len (fun a => rfl) R
theorem FG_slice {m p q : Nat} {R : List Nat} {i k : Nat} (h : R[i]? = some k) : Txt.slice (FG m p q R) (some ((4 * i : Nat) : Int)) (some (((4 * i : Nat) : Int) + 4)) = hxN (mf m p q k) := by
  obtain ⟨hi, e⟩ := List.getElem?_eq_some_iff.mp h
  have hl := FG_len m p q R
  refine str_ext ?_
  rw [slice_list (p := 4 * i) (k := 3) (by omega) rfl (by omega), FG_list, flat_drop (fun a => rfl), List.drop_eq_getElem_cons hi, List.flatMap_cons, e]
  rw [List.take_append_of_le_length (by exact Nat.le_refl 4)]
  exact List.take_of_length_le (Nat.le_refl 4)
theorem FG_weight (m p q : Nat) {R : List Nat} (h : R.length ≤ 100) : ((R.map fun k => hxN (mf m p q k)).map (·.length)).sum + (R.map fun k => hxN (mf m p q k)).length ≤ 1048576 := by
  have : ∀ l : List Nat, ((l.map fun k => hxN (mf m p q k)).map (·.length)).sum = 4 * l.length := by
    intro l
    induction l with
    | nil => rfl
    | cons a l ih => rw [List.map_cons, List.map_cons, List.sum_cons, ih, List.length_cons, hxN_len]; omega
  rw [this, List.length_map]; omega
noncomputable def TX (m p q : Nat) (l : List Nat) : Str := ⟨(l.map (mf m p q)).toArray⟩
theorem TX_len (m p q : Nat) (l : List Nat) : (TX m p q l).length = l.length := by rw [len_toList]; simp [TX]
theorem TX_list (m p q : Nat) (l : List Nat) : (TX m p q l).cps.toList = l.map (mf m p q) := by simp [TX]
theorem TX_nil (m p q : Nat) : TX m p q [] = Str.ofString "" := by
  refine str_ext ?_
  rw [TX_list]
  show [] = _
  decide +kernel
theorem TX_snoc (m p q : Nat) (l : List Nat) (k : Nat) : TX m p q l ++ (⟨#[mf m p q k]⟩ : Str) = TX m p q (l ++ [k]) := by
  refine str_ext ?_
  rw [toList_append, TX_list, TX_list, List.map_append]; rfl
theorem nmA {h₀ h : Heap} {L a : Addr} {o : Obj} {r : List (Addr × Obj)} (N : News h₀ L h ((a, o) :: r)) : ∃ x : Addr, x = a := ⟨_, rfl⟩
theorem nmO {h₀ h : Heap} {L a : Addr} {o : Obj} {r : List (Addr × Obj)} (N : News h₀ L h ((a, o) :: r)) : ∃ x : Obj, x = o := ⟨_, rfl⟩
theorem nmV {v : List Value} {l : List Int} (h : IntsAre v l) : ∃ x : List Value, x = v := ⟨_, rfl⟩
section
variable {h₀ h : Heap} {L : Addr} {a b c d e : Addr × Obj} {r : List (Addr × Obj)}
theorem nd0 (N : News h₀ L h (a :: r)) : News h₀ L h r := fun p hp => N p (.tail _ hp)
theorem nd1 (N : News h₀ L h (a :: b :: r)) : News h₀ L h (a :: r) := fun p hp => by
  rcases List.mem_cons.mp hp with rfl | hp
  · exact N _ (.head _)
  · exact N p (.tail _ (.tail _ hp))
theorem news_mid {u : List (Addr × Obj)} (x : Addr × Obj) (N : News h₀ L h (u ++ x :: r)) : News h₀ L h (u ++ r) := fun p hp => by
  rcases List.mem_append.mp hp with hp | hp
  · exact N _ (List.mem_append_left _ hp)
  · exact N p (List.mem_append_right _ (.tail _ hp))
theorem nd2 (N : News h₀ L h (a :: b :: c :: r)) : News h₀ L h (a :: b :: r) := news_mid (u := [a, b]) c N
theorem nd3 (N : News h₀ L h (a :: b :: c :: d :: r)) : News h₀ L h (a :: b :: c :: r) := news_mid (u := [a, b, c]) d N
theorem nd4 (N : News h₀ L h (a :: b :: c :: d :: e :: r)) : News h₀ L h (a :: b :: c :: d :: r) := news_mid (u := [a, b, c, d]) e N
end
end Mine

end
section
open PySem PySem.W PySem.Calls PyProof.Rows PyProof.V PySem.Spec
set_option Elab.async false
set_option linter.unusedVariables false
namespace Mine
noncomputable def dueJ (g : Obj → List (Addr × Obj)) (FGs : Str) (Ar : Addr) (X : Nat → Str) (i : Nat) (m : Str → Option Value) (n : List (Addr × Obj)) : Prop :=
  ∃ (o : Obj) (t1 t2 t3 : Tok), n = g o ∧ o.data = .cell (some (.str (X i) t1)) ∧ m (Str.ofString "pos") = some (.int ((4 * i : Nat) : Int) t2) ∧ m (Str.ofString "figures") = some (.str FGs t3) ∧ m (Str.ofString "row") = some (.ref Ar)
theorem dueJ0 {g : Obj → List (Addr × Obj)} {FGs : Str} {Ar : Addr} {X : Nat → Str} {o : Obj} {t1 t2 t3 : Tok} {m0 : Str → Option Value} (hX : o.data = .cell (some (.str (X 0) t1))) :
    dueJ g FGs Ar X 0 (fun y => if y = Str.ofString "pos" then some (.int 0 t2) else if y = Str.ofString "figures" then some (.str FGs t3) else if y = Str.ofString "row" then some (.ref Ar) else m0 y) (g o) :=
  ⟨o, t1, t2, t3, rfl, hX, by kernel_rfl, by kernel_rfl, by kernel_rfl⟩
theorem dueJn {g : Obj → List (Addr × Obj)} {FGs zz : Str} {Ar : Addr} {X : Nat → Str} {i : Nat} {o : Obj} {t1 t2 t3 : Tok} {z : Int} {vs vd vp : Option Value} {m0 : Str → Option Value} (hX : o.data = .cell (some (.str zz t1))) (hz : zz = X (i + 1)) (hp : z = ((4 * (i + 1) : Nat) : Int)) :
    dueJ g FGs Ar X (i + 1) (fun y => if y = Str.ofString "sign" then vs else if y = Str.ofString "pos" then some (.int z t2) else if y = Str.ofString "due" then vd else if y = Str.ofString "pos" then vp else if y = Str.ofString "figures" then some (.str FGs t3) else if y = Str.ofString "row" then some (.ref Ar) else m0 y) (g o) := by
  subst hz hp
  exact ⟨o, t1, t2, t3, rfl, hX, by kernel_rfl, by kernel_rfl, by kernel_rfl⟩
theorem mf_inj {m p q a b : Nat} (hp : p < 12) (hq : q < 12) (hpq : p ≠ q) (ha : a < 3) (hb : b < 3) (h : mf m p q a = mf m p q b) : a = b := by
  have h1 : turn m p ≠ m := turn_ne hp
  have h2 : turn m q ≠ m := turn_ne hq
  have h3 := turn_ne2 (m := m) hp hq hpq
  obtain rfl | rfl | rfl : a = 0 ∨ a = 1 ∨ a = 2 := by omega
  all_goals (obtain rfl | rfl | rfl : b = 0 ∨ b = 1 ∨ b = 2 := by omega)
  all_goals first
    | rfl
    | exact absurd h.symm h1
    | exact absurd h h1
    | exact absurd h.symm h2
    | exact absurd h h2
    | exact absurd h h3
    | exact absurd h.symm h3
theorem nm_inj {m p q a b : Nat} (hm : m < 53248) (hp : p < 12) (hq : q < 12) (hpq : p ≠ q) (ha : a < 3) (hb : b < 3) (h : nmf (mf m p q a) = nmf (mf m p q b)) : a = b :=
  mf_inj hp hq hpq ha hb (sg_inj (MS_lt hm hp hq (mf_mem ha)) (MS_lt hm hp hq (mf_mem hb)) ((MS_kind hp hq (mf_mem ha)).trans (MS_kind hp hq (mf_mem hb)).symm) h)
noncomputable def oldF (l : List Nat) (p : Nat) : Nat := mx lcpL (l.drop p) ((List.range p).map fun i => l.drop i)
theorem range_get {n i : Nat} (h : i < n) : (List.range n)[i]? = some i := by rw [List.getElem?_range h]
section
variable {prog : Program} {w : World} {A : Around} {E : Value → Shared → Prop} {s : Shared} {a b : Addr} {Q : Value → Shared → Prop}
theorem len_of {vs : List Value} {n : Nat} (hl : s.heap.IsList a vs.toArray) (e : vs.length = n) (hn : n ≤ 1000) (h : ∀ t tk', Q (.int (n : Int) t) { s with toks := tk' }) : wpAny (model prog w) A (call (.builtin "len") [.ref a]) Q E s := by
  refine Calls.call_len_list hl (by rw [List.size_toArray, e]; omega) ?_
  rw [List.size_toArray, e]
  exact h _ _
theorem ne_tup2 {x y x' y' : Int} {t u t' u' : Tok} (ha : IsTup s.heap a #[.int x t, .int y u]) (hb : IsTup s.heap b #[.int x' t', .int y' u']) (hx : x = x') (hy : y = y') (hu : A.units + 64 < cLine) (h : Q (.bool false) s) :
    wpAny (model prog w) A (compareOp .NotEq (.ref a) (.ref b)) Q E s := by
  subst hx hy
  refine ne_dataH_same (da := .tuple [.int x, .int y]) (db := .tuple [.int x, .int y]) (reads_newDataT ha (.cons (.int _ _) (.cons (.int _ _) .nil))) (reads_newDataT hb (.cons (.int _ _) (.cons (.int _ _) .nil))) rfl rfl hu rfl ?_
  have e : PySem.Spec.same (.tuple [.int x, .int y]) (.tuple [.int x, .int y]) = true := by simp [PySem.Spec.same, PySem.Spec.sameAll]
  rw [e]
  exact h
end
end Mine

end
section
open PySem PySem.W PySem.Calls PyProof.Rows PyProof.V PySem.Spec
set_option Elab.async false
set_option linter.unusedVariables false
namespace Mine
noncomputable def rj (u : List Str) : Str := Str.join sep1 u
theorem rj_cons (a : Str) {u : List Str} (hu : u ≠ []) : (rj (a :: u)).cps.toList = a.cps.toList ++ 47 :: (rj u).cps.toList := by
  cases u with
  | nil => exact absurd rfl hu
  | cons b v => exact join_cons2 a b v
theorem enc_rj {u : List Str} (hu : u ≠ []) : (enc u).cps.toList = 47 :: (rj u).cps.toList := by
  cases u with
  | nil => exact absurd rfl hu
  | cons a v =>
    unfold enc
    rw [join_cons2]
    rfl
theorem rj_len {u : List Str} (h : ∀ c ∈ u, Nm c) (hu : u ≠ []) : (rj u).length + 1 = 11 * u.length := by
  rw [← enc_len h, len_toList, len_toList, enc_rj hu, List.length_cons]
theorem at_one {x : Str} {i : Nat} (h : Builtin.Str.subAt x sep1 i = true) : x.cps.toList[i]? = some 47 := by
  unfold Builtin.Str.subAt at h
  rw [beq_iff_eq] at h
  have e := congrArg (fun a : Array Nat => a.toList[0]?) h
  have hl : sep1.length = 1 := rfl

  rw [hl, Array.toList_extract] at e
  have : (List.take (i + 1 - i) (List.drop i x.cps.toList))[0]? = x.cps.toList[i]? := by
    rw [show i + 1 - i = 1 by omega]
    simp [List.getElem?_take]
  simpa [sep1, this] using e
theorem not_starts {x : Str} (h : x.cps.toList[0]? ≠ some 47) : Txt.startswith x (Str.ofString "/") = false := by
  cases e : Txt.startswith x (Str.ofString "/") with
  | false => rfl
  | true =>
    unfold Txt.startswith at e
    rw [sl_eq', Bool.and_eq_true] at e
    exact absurd (at_one e.2) h
theorem not_ends {x : Str} (h : 47 ∉ x.cps.toList) : Txt.endswith x (Str.ofString "/") = false := by
  cases e : Txt.endswith x (Str.ofString "/") with
  | false => rfl
  | true =>
    unfold Txt.endswith at e
    rw [sl_eq', Bool.and_eq_true] at e
    exact absurd (List.mem_of_getElem? (at_one e.2)) h
theorem rj_starts {u : List Str} (h : ∀ c ∈ u, Nm c) (hu : u ≠ []) : Txt.startswith (rj u) (Str.ofString "/") = false := by
  refine not_starts ?_
  cases u with
  | nil => exact absurd rfl hu
  | cons a v =>
    obtain ⟨hl, hn⟩ := h a (.head _)
    rw [len_toList] at hl
    have hh : (rj (a :: v)).cps.toList[0]? = a.cps.toList[0]? := by
      cases v with
      | nil => rfl
      | cons b r =>
        rw [rj_cons a (by simp), List.getElem?_append_left (by omega)]
    rw [hh]
    intro e
    exact hn (List.mem_of_getElem? e)
theorem jn_name {a : Str} {u : List Str} (ha : Nm a) (hu : u ≠ []) : jn a (rj u) = rj (a :: u) := by
  unfold jn
  rw [not_ends ha.2, if_neg (by decide)]
  refine str_ext ?_
  rw [toList_append, toList_append, rj_cons a hu, sl_eq']
  rfl
theorem jn_slash {u : List Str} (hu : u ≠ []) : jn (Str.ofString "/") (rj u) = enc u := by
  unfold jn
  rw [if_pos (by decide +kernel)]
  refine str_ext ?_
  rw [toList_append, enc_rj hu, sl_eq']
  rfl
theorem rj_ne {u : List Str} (h : ∀ c ∈ u, Nm c) (hu : u ≠ []) : rj u ≠ Str.ofString "" := by
  intro e
  have h1 := rj_len h hu
  rw [e] at h1
  have h2 : (Str.ofString "").length = 0 := by decide +kernel
  have h3 : 0 < u.length := List.length_pos_iff.mpr hu
  omega
noncomputable def UW (m p q : Nat) (ns : List Int) : List Str := (RW ns).map fun k => nmf (mf m p q k)
theorem UW_len (m p q : Nat) (ns : List Int) : (UW m p q ns).length = (RW ns).length := List.length_map ..
theorem UW_nm {m p q : Nat} {ns : List Int} (hM : ∀ x ∈ MS m p q, x < 53248) : ∀ c ∈ UW m p q ns, Nm c := fun c hc => by
  obtain ⟨k, hk, rfl⟩ := List.mem_map.mp hc
  exact sg_nm _ (hM _ (mf_mem (RW_lt hk)))
theorem UW_get {m p q : Nat} {ns : List Int} {i k : Nat} (h : (RW ns)[i]? = some k) : (UW m p q ns)[i]? = some (nmf (mf m p q k)) := by
  unfold UW; rw [List.getElem?_map, h]; rfl
theorem drop_get {U : List Str} {i : Nat} {a : Str} (h : U[i]? = some a) : U.drop i = a :: U.drop (i + 1) := by
  obtain ⟨hi, e⟩ := List.getElem?_eq_some_iff.mp h
  rw [List.drop_eq_getElem_cons hi, e]
noncomputable def endW (U : List Str) (i : Nat) : List Str := (List.range i).map fun j => enc (U.drop (U.length - 1 - j))
theorem endW_succ (U : List Str) (i : Nat) : endW U (i + 1) = endW U i ++ [enc (U.drop (U.length - 1 - i))] := by
  unfold endW; rw [List.range_succ, List.map_append]; rfl
theorem endW_perm (U : List Str) : (endW U U.length).Perm ((ends U).map enc) := by
  have e : endW U U.length = ((ends U).map enc).reverse := by
    unfold endW ends
    rw [List.map_map]
    refine List.ext_getElem (by simp) fun i h1 h2 => ?_
    simp
  rw [e]
  exact List.reverse_perm _
theorem rsmall {n : Nat} (h : n ≤ 14) : Builtin.Range.small 0 (n : Int) 1 = true ∧ Builtin.Range.rangeSize 0 (n : Int) 1 = (n : Int) := by
  have : ∀ k : Fin 15, Builtin.Range.small 0 ((k : Nat) : Int) 1 = true ∧ Builtin.Range.rangeSize 0 ((k : Nat) : Int) 1 = ((k : Nat) : Int) := by decide +kernel
  exact this ⟨n, by omega⟩
theorem rsmall1 {n : Nat} (h : n ≤ 14) (h0 : 1 ≤ n) : Builtin.Range.small 0 ((n : Int) - 1) 1 = true ∧ Builtin.Range.rangeSize 0 ((n : Int) - 1) 1 = ((n - 1 : Nat) : Int) := by
  have : ∀ k : Fin 15, 1 ≤ k.val → Builtin.Range.small 0 (((k : Nat) : Int) - 1) 1 = true ∧ Builtin.Range.rangeSize 0 (((k : Nat) : Int) - 1) 1 = ((k.val - 1 : Nat) : Int) := by decide +kernel
  exact this ⟨n, by omega⟩ h0
theorem rsmallD {n : Nat} (h : n ≤ 14) (h0 : 1 ≤ n) : Builtin.Range.small ((n : Int) - 1) (-1) (-1) = true ∧ Builtin.Range.rangeSize ((n : Int) - 1) (-1) (-1) = (n : Int) := by
  have : ∀ k : Fin 15, 1 ≤ k.val → Builtin.Range.small (((k : Nat) : Int) - 1) (-1) (-1) = true ∧ Builtin.Range.rangeSize (((k : Nat) : Int) - 1) (-1) (-1) = ((k : Nat) : Int) := by decide +kernel
  exact this ⟨n, by omega⟩ h0
end Mine
namespace Mine
noncomputable def restW (U : List Str) (i : Nat) : Str := if i = 0 then Str.ofString "" else rj (U.drop (U.length - i))
noncomputable def endJ (g : Obj → List (Addr × Obj)) (Do Ar : Addr) (U : List Str) (nI : Value) (i : Nat) (m : Str → Option Value) (n : List (Addr × Obj)) : Prop :=
  ∃ (a : Array Value) (k : Nat) (t : Tok), n = g (W.listOf a k) ∧ StrsAre a.toList (endW U i) ∧ m (Str.ofString "rest") = some (.str (restW U i) t) ∧ m (Str.ofString "olds") = some (.ref Do) ∧ m (Str.ofString "n") = some nI ∧ m (Str.ofString "row") = some (.ref Ar)
theorem endJ0 {g : Obj → List (Addr × Obj)} {Do Ar : Addr} {U : List Str} {nI : Value} {t : Tok} {m0 : Str → Option Value} :
    endJ g Do Ar U nI 0 (fun y => if y = Str.ofString "rest" then some (.str (Str.ofString "") t) else if y = Str.ofString "olds" then some (.ref Do) else if y = Str.ofString "n" then some nI else if y = Str.ofString "row" then some (.ref Ar) else m0 y) (g (W.listOf #[] 0)) :=
  ⟨#[], 0, t, rfl, .nil, by kernel_rfl, by kernel_rfl, by kernel_rfl, by kernel_rfl⟩
theorem endJn {g : Obj → List (Addr × Obj)} {Do Ar : Addr} {U : List Str} {nI : Value} {i k : Nat} {a : Array Value} {z v : Str} {t1 t2 : Tok} {vp vr : Option Value} {m0 : Str → Option Value} (ha : StrsAre a.toList (endW U i)) (hz : z = enc (U.drop (U.length - 1 - i))) (hv : v = restW U (i + 1)) :
    endJ g Do Ar U nI (i + 1) (fun y => if y = Str.ofString "rest" then some (.str v t2) else if y = Str.ofString "p" then vp else if y = Str.ofString "rest" then vr else if y = Str.ofString "olds" then some (.ref Do) else if y = Str.ofString "n" then some nI else if y = Str.ofString "row" then some (.ref Ar) else m0 y) (g (W.listOf (a.push (.str z t1)) k)) := by
  subst hz hv
  refine ⟨_, k, t2, rfl, ?_, by kernel_rfl, by kernel_rfl, by kernel_rfl, by kernel_rfl⟩
  rw [endW_succ, Array.toList_push]
  exact StrsAre_snoc ha _ _
end Mine
namespace Mine
theorem restW_true {U : List Str} {i : Nat} (hU : ∀ c ∈ U, Nm c) (hi : i ≤ U.length) (h : (restW U i == Str.ofString "") = true) : i = 0 := by
  rcases Nat.eq_zero_or_pos i with h0 | h0
  · exact h0
  · exfalso
    have e : restW U i = Str.ofString "" := by simpa using h
    unfold restW at e
    rw [if_neg (by omega)] at e
    refine rj_ne (fun c hc => hU c (List.mem_of_mem_drop hc)) (fun q => ?_) e
    have := congrArg List.length q
    rw [List.length_drop, List.length_nil] at this
    omega
theorem restW_false {U : List Str} {i : Nat} (h : (restW U i == Str.ofString "") = false) : 0 < i := by
  rcases Nat.eq_zero_or_pos i with rfl | h0
  · exfalso
    have : restW U 0 = Str.ofString "" := rfl
    rw [this] at h
    simp at h
  · exact h0
theorem stepA {U : List Str} {a : Str} (ha : Nm a) (h0 : 0 < U.length) (hdr : U.drop (U.length - 1 - 0) = a :: U.drop (U.length - 1 - 0 + 1)) :
    a = restW U (0 + 1) ∧ jn (Str.ofString "/") a = enc (U.drop (U.length - 1 - 0)) ∧ Txt.startswith a (Str.ofString "/") = false := by
  have e : U.drop (U.length - 1 - 0 + 1) = [] := List.drop_of_length_le (by omega)
  rw [e] at hdr
  have hr : rj [a] = a := rfl
  refine ⟨?_, ?_, ?_⟩
  · show a = rj (U.drop (U.length - 1))
    rw [show U.length - 1 = U.length - 1 - 0 by omega, hdr]; rfl
  · rw [hdr, ← jn_slash (by simp), hr]
  · have := rj_starts (u := [a]) (fun c hc => by rw [List.mem_singleton.mp hc]; exact ha) (by simp)
    rwa [hr] at this
theorem stepB {U : List Str} {a : Str} {i : Nat} (hU : ∀ c ∈ U, Nm c) (ha : Nm a) (h14 : U.length ≤ 14) (hi0 : 0 < i) (hi : i < U.length) (hdr : U.drop (U.length - 1 - i) = a :: U.drop (U.length - 1 - i + 1)) :
    jn a (restW U i) = restW U (i + 1) ∧ jn (Str.ofString "/") (jn a (restW U i)) = enc (U.drop (U.length - 1 - i)) ∧ (restW U i).length ≤ 500 ∧ Txt.startswith (restW U i) (Str.ofString "/") = false ∧ (jn a (restW U i)).length ≤ 500 ∧ Txt.startswith (jn a (restW U i)) (Str.ofString "/") = false := by
  have r1 : restW U i = rj (U.drop (U.length - i)) := by unfold restW; rw [if_neg (by omega)]
  have r2 : restW U (i + 1) = rj (U.drop (U.length - 1 - i)) := by unfold restW; rw [if_neg (by omega), show U.length - (i + 1) = U.length - 1 - i by omega]
  have hd : ∀ k, ∀ c ∈ U.drop k, Nm c := fun k c hc => hU c (List.mem_of_mem_drop hc)
  have hne : ∀ k, k < U.length → U.drop k ≠ [] := fun k hk q => by
    have := congrArg List.length q
    rw [List.length_drop, List.length_nil] at this
    omega
  have n1 := hne (U.length - i) (by omega)
  have n2 := hne (U.length - 1 - i) (by omega)
  have e : jn a (restW U i) = rj (U.drop (U.length - 1 - i)) := by
    rw [r1, jn_name ha n1, hdr, show U.length - 1 - i + 1 = U.length - i by omega]
  have l1 := rj_len (hd _) n1
  have l2 := rj_len (hd _) n2
  rw [List.length_drop] at l1 l2
  rw [e, r2, r1]
  exact ⟨rfl, jn_slash n2, by omega, rj_starts (hd _) n1, by omega, rj_starts (hd _) n2⟩
end Mine
namespace Mine
section
variable {prog : Program} {w : World} {A : Around} {E : Value → Shared → Prop} {s : Shared} {h₀ : Heap} {L l : Addr} {m : Str → Option Value} {news : List (Addr × Obj)} {Q : Value → Shared → Prop}
theorem sort_strs {vs : List Value} {ss : List Str} (F : Fr h₀ L s.heap m) (N : News h₀ L s.heap news) (hl : s.heap.IsList l vs.toArray) (hS : StrsAre vs ss) (h64 : ss.length < 64)
    (h : ∀ D vs' ss' e h', Fr h₀ L h' m → News h₀ L h' ((D, W.listOf vs'.toArray e) :: news) → (∀ q ∈ news, q.1 < D) → StrsAre vs' ss' → ss'.Perm ss → sortedS ss' = true → Q (.ref D) { s with heap := h' }) :
    wpAny (model prog w) A (call (.builtin "sorted") [.ref l]) Q E s :=
  sorted_N_str F N hl hS (by rw [hS.length]; exact h64) fun h' vs' ss' e F' N' a b c => h _ vs' ss' e h' F' N' (fun p hp => Nat.lt_succ_of_lt (Heap.lt_size (N p hp).1)) a b c
end
noncomputable def shF (out : List (List Str)) (k : Nat) : Nat := lcpL (out.getD k []) (out.getD (k + 1) [])
theorem adj_range : ∀ out : List (List Str), adj lcpL out = (List.range (out.length - 1)).map (shF out)
  | [] => rfl
  | [a] => rfl
  | a :: b :: r => by
    have ih := adj_range (b :: r)
    show lcpL a b :: adj lcpL (b :: r) = _
    rw [ih]
    show _ = (List.range (r.length + 1)).map (shF (a :: b :: r))
    rw [List.range_succ_eq_map, List.map_cons, List.map_map]
    congr 1
theorem shs_range {out : List (List Str)} (h : 0 < out.length) : shs lcpL out = 0 :: (List.range (out.length - 1)).map (shF out) := by
  rw [← adj_range]
  cases out with
  | nil => simp at h
  | cons a r => rfl
theorem cI_cons (a : Nat) (l : List Nat) : cI (a :: l) = (a : Int) :: cI l := rfl
theorem cI_perm {a b : List Nat} (h : a.Perm b) : (cI a).Perm (cI b) := h.map _
theorem cI_sum : ∀ l : List Nat, (cI l).sum = ((l.sum : Nat) : Int)
  | [] => rfl
  | a :: l => by rw [cI_cons, List.sum_cons, List.sum_cons, cI_sum l]; push_cast; rfl
end Mine
namespace Mine
theorem out_ok {U : List Str} {out : List (List Str)} (hop : out.Perm (ends U)) {i : Nat} (hi : i < out.length) : out[i]? = some (out.getD i []) ∧ out.getD i [] ≠ [] ∧ (out.getD i []).length ≤ U.length ∧ ∀ c ∈ out.getD i [], c ∈ U := by
  have e : out[i]? = some (out.getD i []) := by rw [List.getD_eq_getElem?_getD, List.getElem?_eq_getElem hi]; rfl
  have hm := hop.mem_iff.mp (List.mem_of_getElem? e)
  refine ⟨e, ?_, (ends_mem hm).1, (ends_mem hm).2⟩
  obtain ⟨p, hp, h⟩ := List.mem_map.mp hm
  intro q
  rw [q] at h
  have := congrArg List.length h
  rw [List.length_drop, List.length_nil] at this
  have := List.mem_range.mp hp
  omega
end Mine

end
section
open PySem PySem.W PySem.Calls PyProof.Rows PyProof.V PySem.Spec
set_option Elab.async false
set_option linter.unusedVariables false
namespace Mine
noncomputable def ts0 (d0 : Addr) (o0 : Obj) : TS := { W := [[]], ρ := fun _ => d0, kids := fun _ => [], ob := fun _ => o0 }
theorem WF.start {w : World} {d0 : Addr} {o0 : Obj} (h : o0.IsDictOf (strKind pw w) []) (hs : (d0 == sysModules) = false) : WF w (ts0 d0 o0) where
  nd := by simp [ts0]
  root := by simp [ts0]
  inj := fun u hu v hv _ => by simp [ts0] at hu hv; rw [hu, hv]
  obs := fun u hu => h
  kid := fun u hu c hc => by simp [ts0] at hc
  par := fun u c h => by simp [ts0] at h
  sys := fun u hu => hs
  sz := fun u hu => by simp [ts0]
noncomputable def treJ (w : World) (pre : List (Addr × Obj)) (x d0 Ds Ar : Addr) (nI : Value) (es : List (List Str)) (i : Nat) (m : Str → Option Value) (n : List (Addr × Obj)) : Prop :=
  ∃ t : TS, n = pre ++ t.news ∧ WF w t ∧ t.ρ [] = d0 ∧ t.W = addAll [[]] (es.take i) ∧ (∀ p ∈ pre, ∀ u ∈ t.W, p.1 ≠ t.ρ u) ∧ m (Str.ofString "tree") = some (.ref x) ∧ m (Str.ofString "shares") = some (.ref Ds) ∧ m (Str.ofString "n") = some nI ∧ m (Str.ofString "row") = some (.ref Ar)
theorem treJ0 {w : World} {pre : List (Addr × Obj)} {x d0 Ds Ar : Addr} {nI : Value} {es : List (List Str)} {o0 : Obj} {m0 : Str → Option Value} {vo : Option Value} (h : o0.IsDictOf (strKind pw w) []) (hs : (d0 == sysModules) = false) (hoff : ∀ p ∈ pre, p.1 ≠ d0) :
    treJ w pre x d0 Ds Ar nI es 0 (fun y => if y = Str.ofString "tree" then some (.ref x) else if y = Str.ofString "shares" then some (.ref Ds) else if y = Str.ofString "olds" then vo else if y = Str.ofString "n" then some nI else if y = Str.ofString "row" then some (.ref Ar) else m0 y) (pre ++ (ts0 d0 o0).news) :=
  ⟨ts0 d0 o0, rfl, WF.start h hs, rfl, rfl, fun p hp u _ => hoff p hp, by kernel_rfl, by kernel_rfl, by kernel_rfl, by kernel_rfl⟩
theorem news_last {h₀ h : Heap} {L : Addr} {a : Addr × Obj} {r : List (Addr × Obj)} (N : News h₀ L h (a :: r)) : News h₀ L h (r ++ [a]) := fun p hp => by
  rcases List.mem_append.mp hp with hp | hp
  · exact N _ (.tail _ hp)
  · rw [List.mem_singleton.mp hp]; exact N _ (.head _)
end Mine
namespace Mine
section
variable {h₀ h : Heap} {L : Addr} {a b c d e f g : Addr × Obj} {r : List (Addr × Obj)}
theorem nd5 (N : News h₀ L h (a :: b :: c :: d :: e :: f :: r)) : News h₀ L h (a :: b :: c :: d :: e :: r) := news_mid (u := [a, b, c, d, e]) f N
theorem nd6 (N : News h₀ L h (a :: b :: c :: d :: e :: f :: g :: r)) : News h₀ L h (a :: b :: c :: d :: e :: f :: r) := news_mid (u := [a, b, c, d, e, f]) g N
end
end Mine
namespace Mine
theorem cI_drop {wr : List Value} {R : List Nat} {i : Nat} (h : IntsAre wr (List.drop (Int.toNat (i : Int)) (cI R))) : IntsAre wr (cI (R.drop i)) := by
  rw [Int.toNat_natCast] at h
  unfold cI at h ⊢
  rw [List.map_drop]
  exact h
theorem UW_drop (m p q : Nat) (ns : List Int) (i : Nat) : ((RW ns).drop i).map (fun k => nmf (mf m p q k)) = (UW m p q ns).drop i := by
  unfold UW; rw [List.map_drop]
end Mine
namespace Mine
theorem treJn {w : World} {pre : List (Addr × Obj)} {x d0 Ds Ar : Addr} {nI : Value} {es : List (List Str)} {i : Nat} {t t2 : TS} {e : List Str} {m0 : Str → Option Value} {vp : Option Value} (hW : t.W = addAll [[]] (es.take i)) (he : es[i]? = some e) (wf : WF w t2) (hr : t2.ρ [] = t.ρ []) (hr0 : t.ρ [] = d0) (hW2 : t2.W = addW t.W [] e) (hoff : ∀ p ∈ pre, ∀ u ∈ t2.W, p.1 ≠ t2.ρ u) :
    treJ w pre x d0 Ds Ar nI es (i + 1) (fun y => if y = Str.ofString "p" then vp else if y = Str.ofString "tree" then some (.ref x) else if y = Str.ofString "shares" then some (.ref Ds) else if y = Str.ofString "n" then some nI else if y = Str.ofString "row" then some (.ref Ar) else m0 y) (pre ++ t2.news) :=
  ⟨t2, rfl, wf, hr.trans hr0, by rw [hW2, hW, take_next he, addAll_snoc], hoff, by kernel_rfl, by kernel_rfl, by kernel_rfl, by kernel_rfl⟩
theorem ends_get {U : List Str} {i : Nat} (h : i < U.length) : (ends U)[i]? = some (U.drop i) := by
  unfold ends; rw [List.getElem?_map, List.getElem?_range h]; rfl
theorem ends_len {U : List Str} : (ends U).length = U.length := by unfold ends; rw [List.length_map, List.length_range]
theorem addAll_bound {es : List (List Str)} {k : Nat} (h : ∀ e ∈ es, e.length ≤ k) : (addAll [[]] es).length ≤ 1 + es.length * k := by
  have a := addAll_len es [] [[]] pre_nil
  have b : ∀ l : List (List Str), (∀ e ∈ l, e.length ≤ k) → (l.map List.length).sum ≤ l.length * k := by
    intro l
    induction l with
    | nil => intro _; exact Nat.zero_le _
    | cons e l ih =>
      intro h
      have h1 := ih fun x hx => h x (.tail _ hx)
      have h2 := h e (.head _)
      rw [List.map_cons, List.sum_cons, List.length_cons, Nat.succ_mul]
      omega
  have c := b es h
  simp only [List.length_singleton] at a
  omega
theorem not_dict {w : World} {t : TS} {h₀ h : Heap} {L T : Addr} {oT : Obj} {pre : List (Addr × Obj)} (wf : WF w t) (N : News h₀ L h (pre ++ t.news)) (hT : (T, oT) ∈ pre) (hc : oT.cls ≠ .type "dict") : ∀ u ∈ t.W, T ≠ t.ρ u := fun u hu e => by
  obtain ⟨o, ho, hco⟩ := wf.obj N hu
  have z := (N (T, oT) (List.mem_append_left _ hT)).1
  dsimp only at z
  rw [e, ho] at z
  obtain rfl := Option.some.inj z
  exact hc hco
theorem news_ne {w : World} {t : TS} {h₀ h : Heap} {L I : Addr} {oi : Obj} {pre pre0 : List (Addr × Obj)} (wf : WF w t) (N : News h₀ L h (pre0 ++ t.news)) (hI : (I, oi) ∈ pre0) (hc : oi.cls ≠ .type "dict") (hp : ∀ p ∈ pre, p.1 ≠ I) : ∀ p ∈ pre ++ t.news, ∀ q ∈ [(I, oi)], p.1 ≠ q.1 := fun p hp' q hq => by
  rw [List.mem_singleton.mp hq]
  rcases List.mem_append.mp hp' with h1 | h1
  · exact hp p h1
  · obtain ⟨u, hu, rfl⟩ := List.mem_map.mp h1
    exact fun e => not_dict wf N hI hc u hu e.symm
end Mine
namespace Mine
theorem call_nests2 {w : World} {q : Program} {loose mean mg mb} {A : Around} {h₀ : Heap} {L d0 : Addr} {m : Str → Option Value} {pre : List (Addr × Obj)} {ts : TS} {s : Shared} {Q : Value → Shared → Prop} {E : Value → Shared → Prop} (hr : ts.ρ [] = d0)
   (hA : A.handled = none) (hd : A.depth + 40 < recursionLimit) (hu : A.units + 400 < cLine) (F : Fr h₀ L s.heap m) (N : News h₀ L s.heap (pre ++ ts.news)) (X : Frag.In (H.KR w.params) h₀) (T : Top q loose mean mg mb h₀) (wf : WF w ts) (hz : ts.W.length ≤ 1000) (hl : ∀ v ∈ ts.W, v.length ≤ 14)
   (h : ∀ h' tk' t, Fr h₀ L h' m → News h₀ L h' (pre ++ ts.news) → Q (.int (((ts.W.length - 1 : Nat)) : Int) t) {s with heap := h', toks := tk'}) :
   wpAny (model pw w) A (call (.ref 279) [.ref d0] []) Q E s := by
  subst hr
  exact call_nests hA hd hu F N X T wf hz hl h
end Mine
namespace Mine
theorem last_eq {a n k : Nat} {l : List Nat} (h : 2 * (a + l.sum) = k * (k + 1)) (hk : k = n) : ((a : Nat) : Int) = ((n : Int) * ((n : Int) + 1)).fdiv 2 - (cI l).sum := by
  subst hk
  rw [cI_sum, Int.fdiv_eq_ediv_of_nonneg _ (by decide)]
  have h2 : (k : Int) * ((k : Int) + 1) = 2 * ((a : Int) + (l.sum : Int)) := by
    have := congrArg (Nat.cast : Nat → Int) h
    push_cast at this
    exact this.symm
  rw [h2]
  omega
theorem ret_true {R : Result → Shared → Prop} {b : Bool} {s : Shared} (hb : b = true) (h : R (.ok (.ret (.bool true))) s) : R (.ok (.ret (.bool b))) s := hb ▸ h
end Mine

end
section
open PySem PySem.W PySem.Calls PyProof.Rows
set_option Elab.async false
set_option maxRecDepth 100000
namespace Mine
theorem nat63 {k : Nat} (h : k < 64) : (k : Int) < 2 ^ 63 := by omega
theorem idx_rev {n i : Nat} (h : i < n) : (n : Int) - 1 + (i : Nat) * (-1) = ((n - 1 - i : Nat) : Int) ∧ n - 1 - i < n := by omega
theorem idx64 {n i : Nat} (h : n ≤ 14) : n - 1 - i < 64 := by omega
theorem pred64 {i n : Nat} (h : i < n - 1) (hn : n ≤ 14) : i < 64 ∧ i + 1 < 64 := by omega
theorem lt_pred2 {i n m : Nat} (h : i < n - 1) (e : m = n) : i < m ∧ i + 1 < m := by omega
theorem add_bd {x i n : Nat} (h : x ≤ 1 + min i n * 14) (hn : n ≤ 14) : x ≤ 1000 := by omega
theorem add_bd2 {x n : Nat} (h : x ≤ 1 + n * 14) (hn : n ≤ 14) : x ≤ 1000 := by omega
theorem le_big {n : Nat} (h : n ≤ 14) : n ≤ 16777216 := by omega
theorem le_big1 {n i : Nat} (h : n ≤ 14) : n - i ≤ 16777216 := by omega
theorem four64 {i n f : Nat} (h : i < n) (e : f = 4 * n) : 4 * i + 4 ≤ f := by omega
theorem min_is {i n x : Nat} (h : i < n) (e : x = min i n) : x = i := by omega
section
variable {prog : Program} {w : World} {A : Around} {E : Value → Shared → Prop} {s : Shared} {h₀ : Heap} {L : Addr} {news : List (Addr × Obj)} {value slice : Expr} {a : Addr} {lo : Obj} {l : List Value} {n : Nat} {k : Nat} {u : Tok} {x : Value} {Q : Value → Shared → Prop}
theorem kim_nat (N : News h₀ L s.heap news) (hm : (a, lo) ∈ news) (hc : lo.cls = .type "list") (hd : lo.data = .seq l.toArray n) (hk : k < 64) (hx : l[k]? = some x) (h : Q x s)
    (hs : subscripted slice false (.ref a) (.int (k : Int) u) = operate [.ref a, .int (k : Int) u] (getItem (.ref a) (.int (k : Int) u)) := by with_unfolding_all rfl) (hg : ∀ r, letTemporaryGo value (.ref a) r = pure () := by intro _; with_unfolding_all rfl) :
    wpAny (model prog w) A (subscriptTail value slice (.ref a) (.int (k : Int) u)) Q E s :=
  kim_list N hm hc hd (Int.natCast_nonneg k) (nat63 hk) (by rw [Int.toNat_natCast]; exact hx) h hs hg
theorem kim_suc (N : News h₀ L s.heap news) (hm : (a, lo) ∈ news) (hc : lo.cls = .type "list") (hd : lo.data = .seq l.toArray n) (hk : k + 1 < 64) (hx : l[k + 1]? = some x) (h : Q x s)
    (hs : subscripted slice false (.ref a) (.int ((k : Int) + 1) u) = operate [.ref a, .int ((k : Int) + 1) u] (getItem (.ref a) (.int ((k : Int) + 1) u)) := by with_unfolding_all rfl) (hg : ∀ r, letTemporaryGo value (.ref a) r = pure () := by intro _; with_unfolding_all rfl) :
    wpAny (model prog w) A (subscriptTail value slice (.ref a) (.int ((k : Int) + 1) u)) Q E s :=
  kim_nat (k := k + 1) N hm hc hd hk hx h hs hg
end
end Mine

end
section
namespace Mine

local macro_rules | `(tactic| walk_at "ite") => `(tactic| (with_reducible first | refine Mine.ite_f ?_ | refine Mine.ite_t ?_))
local macro_rules | `(tactic| walk_at "clrF") => `(tactic| repeat (first | (rename Fr _ _ _ _ => Fx; clear Fx) | (rename News _ _ _ _ => Fx; clear Fx)))
local macro_rules | `(tactic| walk_at "exec Assign cons ListComp") => `(tactic| ((with_reducible show wpAny _ _ (exec (Stmt.Assign [Expr.Name (Str.ofString "olds") _] _ _) _) _ _ _); refine Mine.Stop.mk ?_))
local macro_rules | `(tactic| walk_at "subscriptTail") => `(tactic| ((with_reducible show wpAny _ _ (subscriptTail _ _ (Value.ref _) (Value.int _ _)) _ _ _); refine Mine.Stop.mk ?_))
local macro_rules | `(tactic| walk_at "loadName") => `(tactic| (k_here; k_dflt (refine' loadX_C ?N ?c ?m ?d ?_ ?a ?b; (case a => rfl); (case b => rfl); (case N => k_asm); (case c => rfl); (case m => k_mem); (case d => k_asm); k_whole)))
local macro_rules | `(tactic| k_ne) => `(tactic| (refine neN ?_; (try dsimp only); first | (with_reducible assumption) | (refine Ne.symm ?_; with_reducible assumption)))
local macro_rules | `(tactic| walk_at "noAnd") => `(tactic| repeat (rename (_ ∧ _) => zz; clear zz))
local macro_rules | `(tactic| walk_at "call builtin:len") => `(tactic| ((with_reducible show wpAny _ _ (call (Value.builtin _) [Value.ref _]) _ _ _); refine Mine.Stop.mk ?_))
local macro_rules | `(tactic| walk_at "call ref") => `(tactic| ((with_reducible show wpAny _ _ (call (Value.ref 216) []) _ _ _); refine Mine.Stop.mk ?_))
local macro_rules | `(tactic| walk_at "call ref") => `(tactic| ((with_reducible show wpAny _ _ (call (Value.ref 206) _ _) _ _ _); refine Mine.Stop.mk ?_))
local macro_rules | `(tactic| walk_at "call ref") => `(tactic| ((with_reducible show wpAny _ _ (call (Value.ref 279) _ _) _ _ _); refine Mine.Stop.mk ?_))
local macro_rules | `(tactic| walk_at "subscriptTail Name Slice ref ref") => `(tactic| ((with_reducible show wpAny _ _ (subscriptTail _ (PySem.Expr.Slice (some (PySem.Expr.Name _ _)) none none _) (Value.ref _) (Value.ref _)) _ _ _); refine Mine.Stop.mk ?_))
local macro_rules | `(tactic| walk_at "call ref") => `(tactic| (k_here; (with_reducible show wpAny _ _ (call (Value.ref 167) [_] _) _ _ _); (refine' Mine.call_filemode rfl (by walk_at "dep") (by walk_at "uni") (by k_asm) (by k_asm) (by k_asm) (by k_asm) (by walk_at "fact") ?_); walk_at "got1"))
local macro_rules | `(tactic| walk_at "call ref") => `(tactic| (k_here; (with_reducible show wpAny _ _ (call (Value.ref 255) [_] _) _ _ _); (refine' Mine.call_signs rfl (by walk_at "dep") (by walk_at "uni") (by k_asm) (by k_asm) (by k_asm) (by k_asm) (by walk_at "fact") (by walk_at "fact") ?_); walk_at "got1"))
local macro_rules | `(tactic| walk_at "call ref") => `(tactic| (k_here; (with_reducible show wpAny _ _ (call (Value.ref 260) [_] _) _ _ _); (refine' Mine.call_figs rfl (by walk_at "dep") (by walk_at "uni") (by k_asm) (by k_asm) (by k_asm) (by k_asm) (by walk_at "fact") ?_); walk_at "got1"))
local macro_rules | `(tactic| walk_at "call ref") => `(tactic| (k_here; (with_reducible show wpAny _ _ (call (Value.ref 267) [_, _] _) _ _ _); (refine' Mine.call_old rfl (by walk_at "dep") (by walk_at "uni") (by k_asm) (by k_asm) (by k_asm) (by k_asm) (by walk_at "fact") (by walk_at "fact") ?_); walk_at "got1"))
local macro_rules | `(tactic| walk_at "call ref") => `(tactic| (k_here; (with_reducible show wpAny _ _ (call (Value.ref 115) [_, _] _) _ _ _); (refine' Mine.call_join rfl (by walk_at "dep") (by walk_at "uni") (by k_asm) (by k_asm) (by k_asm) (by k_asm) (by walk_at "fact") (by walk_at "fact") (by walk_at "fact") (by walk_at "fact") ?_); walk_at "got1"))
local macro_rules | `(tactic| walk_at "call ref") => `(tactic| (k_here; (with_reducible show wpAny _ _ (call (Value.ref 274) [_, _] _) _ _ _); (refine' Mine.call_shared_enc rfl (by walk_at "dep") (by walk_at "uni") (by k_asm) (by k_asm) (by k_asm) (by k_asm) (by walk_at "fact") (by walk_at "fact") (by walk_at "fact") (by walk_at "fact") (by walk_at "fact") (by walk_at "fact") ?_); walk_at "got1"))
local macro_rules | `(tactic| walk_at "call ref") => `(tactic| (k_here; (with_reducible show wpAny _ _ (call (Value.ref 234) [_, _, _] _) _ _ _); (refine' Mine.call_hex rfl ?dd ?uu ?FF ?NN ?XX ?TT ?hx ?hi ?h1 ?hsl ?_); (case dd => (simp only [depth_deeper]; omega)); (case uu => (simp only [units_deeper]; omega)); (case FF => k_asm); (case NN => k_asm); (case XX => k_asm); (case TT => k_asm); (case hx => assumption); (case hsl => assumption); (case h1 => assumption); (case hi => omega); k_whole; intro v h' tk' F' N' hv; obtain ⟨T', t', u', hv, hT', hn'⟩ := hv; subst hv))
local macro_rules | `(tactic| walk_at $s) => Mine.stopS s ["eval ListComp", "pyIter ref", "binaryOp BitXor int int", "binaryOp Pow int int", "CompSrc", "subscriptTail Name Name ref int", "subscriptTail Name BinOp ref int", "subscriptTail Name Subscript ref int", "call builtin:str.join", "compareOp NotEq ref ref", "call builtin:sorted"]

set_option maxHeartbeats 40000000 in
theorem law_spec {w : World} {q : Program} {loose mean mg mb} {dp un : Nat} {fr gd} {s : Shared} {R : Result → Shared → Prop} {S : Addr} {vs : List Value} {ns : List Int}
   (X : Frag.In (H.KR w.params) s.heap) (T : Top q loose mean mg mb s.heap) (hd : dp + 60 < recursionLimit) (hu : un + 500 < cLine) (hl : s.heap.IsList S vs.toArray) (hns : IntsAre vs ns) (h63 : ns.length ≤ 63)
   (hret : ∀ h' tk', Ext s.heap h' → R (.ok (.ret (.bool true))) {s with heap := h', toks := tk'}) :
   codeAny (model pw w) (⟨none, dp, fr, gd, un⟩ : Around) (.call (.ref 284) ⟨[.ref S], []⟩) R s := by
  refine' enterC ?k3 ?k5 ?k6 ?k7 ?k8 ?k9 ?kB ?c5 ?c2 ?c3 ?c4 ?_; (case k3 => assumption); (case k5 => assumption); (case k6 => k_is); (case k7 => k_is); (case k8 => (dsimp only; omega)); (case k9 => first | exact BindsTo.of_eq rfl | exact binds_K (by assumption) rfl (by k_is) rfl rfl rfl); (case c5 => decide +kernel); (case kB => exact rfl); (case c2 => exact rfl); (case c3 => exact rfl); (case c4 => exact rfl); k_whole; intro L' hE tkE cells Fe Ne Ye; have hY := PyProof.Rows.CellsAre.four Ye; obtain ⟨oE, oT, oN, oM, hEc, dE, dT, dN, dM⟩ := hY; subst hEc; clear Ye; (try simp only [List.cons_append, List.nil_append] at Ne); (try dsimp only); (try k_fold)
  replace Fe := Mine.Fr.as (m' := fun z => if z = Str.ofString "script" then some (.ref S) else none) Fe (fun z => by kernel_rfl)
  replace dM := dM.trans (show _ = Data.cell none by kernel_rfl)
  replace dN := dN.trans (show _ = Data.cell none by kernel_rfl)
  replace dT := dT.trans (show _ = Data.cell none by kernel_rfl)
  replace dE := dE.trans (show _ = Data.cell none by kernel_rfl)
  walk_at "go"
  refine Stop.on ?_
  have h1 := head_mode (List.take 63 ns).sum
  obtain ⟨md, hm⟩ := h1
  obtain ⟨hmd, hm1⟩ := hm
  have h1 := head_place (List.take 63 ns).sum
  obtain ⟨p, hm⟩ := h1
  obtain ⟨hp, hp1⟩ := hm
  have h1 := head_q (List.take 63 ns).sum hp hp1
  obtain ⟨q, hm⟩ := h1
  obtain ⟨hq, hm⟩ := hm
  obtain ⟨hq1, hpq⟩ := hm
  refine pow2_small hp hp1 ?_
  intro t1 tk1
  walk_at "go"
  refine Stop.on ?_
  refine xor_small hmd rfl hp1 ?_
  intro t2 tk2
  walk_at "go"
  refine Stop.on ?_
  refine pow2_small hq hq1 ?_
  intro t3 tk3
  walk_at "go"
  refine Stop.on ?_
  refine xor_small hmd rfl hq1 ?_
  intro t4 tk4
  walk_at "go"
  rename Fr _ _ _ _ => F1
  rename News _ _ _ _ => N1
  have h1 := abs3 hmd N1
  obtain ⟨mv, h2⟩ := h1
  obtain ⟨hmv0, N2⟩ := h2
  have h1 := absF1 (a := Str.ofString "script") (v := .ref S) F1 (by kernel_rfl)
  obtain ⟨m0, F2⟩ := h1
  clear F1
  have hmv : IntsAre mv (cI (MS md p q)) := hmv0
  clear hmv0 N1
  have hM : ∀ x ∈ MS md p q, x < 53248 := fun x hx => MS_lt hm1 hp1 hq1 hx
  have hmvl := ints_len hmv
  refine LCg.ListComp_U F2 (by with_unfolding_all rfl) (by decide) (by rfl) (by decide) (by rfl) ?_
  walk_at "go"
  refine Stop.on ?_
  rename Fr _ _ _ _ => F1
  rename News _ _ _ _ => N1
  refine LCg.CompSrc.ledger rfl F1 N1 (.head _) (by rw [List.size_toArray, hmvl, sizeLine_eq]; exact Nat.le_of_ble_eq_true rfl) ?_
  intro g
  refine comp_inv (n := mv.toArray.size) (fun i ys news => news = _ ∧ StrsAre ys (((MS md p q).take i).map nmf)) ?_ ?_ mv.toArray.size 0 [] _ (Nat.zero_add _) ⟨rfl, .nil⟩
  · rintro i v ys news I oI C oC D m₂ h tk5 E5 hi hv ⟨rfl, hys⟩ hC hx F N off ne
    clear F1 N1
    have h1 := ints_item hmv (by simpa using hv)
    obtain ⟨x, tx, rfl, hx2⟩ := h1
    have hx3 := hM x (List.mem_of_getElem? hx2)
    walk_at "go"
    rename Fr _ _ _ _ => Fz
    rename News _ _ _ _ => Nz
    exact LCg.CompEnd.intro Fz Nz _ (fun p hp => hp) off (.inr ⟨_, .head _, rfl, _, rfl⟩) ⟨rfl, strs_next (f := nmf) hys hx2⟩
  · rintro ys news ⟨rfl, hys⟩
    unfold LCg.FinE
    intro D h5 tk5 F5 N5 o5
    clear F1 N1
    rw [List.size_toArray, hmvl, List.take_length] at hys
    simp only [LCg.Off1, and_true] at o5
    obtain ⟨-, -, oD4, oD3, oD2, oD1⟩ := o5
    walk_at "go"
    refine Stop.on ?_
    rename Fr _ _ _ _ => F1
    rename News _ _ _ _ => N1
    refine LCg.ListComp_U F1 (by with_unfolding_all rfl) (by decide) (by rfl) (by decide) (by rfl) ?_
    walk_at "go"
    refine Stop.on ?_
    rename Fr _ _ _ _ => F1
    rename News _ _ _ _ => N1
    refine LCg.CompSrc.ledger rfl F1 N1 (.tail _ (.head _)) (by rw [List.size_toArray, hmvl, sizeLine_eq]; exact Nat.le_of_ble_eq_true rfl) ?_
    intro g
    refine comp_inv (n := mv.toArray.size) (fun i ys news => news = _ ∧ StrsAre ys (((MS md p q).take i).map nmf)) ?_ ?_ mv.toArray.size 0 [] _ (Nat.zero_add _) ⟨rfl, .nil⟩
    · rintro i v ys news I oI C oC D m₂ h tk5 E5 hi hv ⟨rfl, hys⟩ hC hx F N off ne
      clear F1 N1
      have h1 := ints_item hmv (by simpa using hv)
      obtain ⟨x, tx, rfl, hx2⟩ := h1
      have hx3 := hM x (List.mem_of_getElem? hx2)
      walk_at "go"
      rename Fr _ _ _ _ => Fz
      rename News _ _ _ _ => Nz
      exact LCg.CompEnd.intro Fz Nz _ (fun p hp => hp) off (.inr ⟨_, .tail _ (.head _), rfl, _, rfl⟩) ⟨rfl, strs_next (f := nmf) hys hx2⟩
    · rintro ys2 news ⟨rfl, hys2⟩
      unfold LCg.FinE
      intro D2 h6 tk6 F6 N6 o6
      clear F1 N1
      rw [List.size_toArray, hmvl, List.take_length] at hys2
      refine Stop.on ?_
      have hok : ∀ x ∈ (MS md p q).map nmf, PyData.strOk x = true := fun x hx => by
        obtain ⟨k, hk, rfl⟩ := List.mem_map.mp hx
        exact sg_ok k (hM k hk)
      refine ne_strs_same (isList_of N6 (.tail _ (.head _))) (isList_of N6 (.head _)) hys hys2 (by simp only [units_deeper]; omega) hok ?_
      replace N6 := nd0 N6
      clear o6
      walk_at "go"
      clear hok hys2
      refine Stop.on ?_
      rename Fr _ _ _ _ => F1
      rename News _ _ _ _ => N1
      refine LCg.ListComp_U F1 (by with_unfolding_all rfl) (by decide) (by rfl) (by decide) (by rfl) ?_
      walk_at "go"
      refine Stop.on ?_
      rename Fr _ _ _ _ => F1
      rename News _ _ _ _ => N1
      rename IntsAre _ (List.take 6 ns) => h6
      have h6l := IntsAre.length h6
      rw [List.length_take] at h6l
      refine LCg.CompSrc.ledger rfl F1 N1 (.head _) (by rw [List.size_toArray, h6l, sizeLine_eq]; omega) ?_
      intro g2
      refine comp_inv (n := Array.size (List.toArray _)) (fun i ys news => news = _ ∧ IntsAre ys (((List.take 6 ns).take i).map fun x => x.fmod 3)) ?_ ?_ _ 0 [] _ (Nat.zero_add _) ⟨rfl, .nil⟩
      · rintro i v ys news I oI C oC D m₂ h tk5 E5 hi hv ⟨rfl, hys⟩ hC hx F N off ne
        clear F1 N1
        have h1 := IntsAre.at h6 i v (by simpa using hv)
        obtain ⟨x, tx, rfl, hx2⟩ := h1
        walk_at "go"
        rename Fr _ _ _ _ => Fz
        rename News _ _ _ _ => Nz
        exact LCg.CompEnd.intro Fz Nz _ (fun p hp => hp) off (.inr ⟨_, .head _, rfl, _, rfl⟩) ⟨rfl, ints_next (f := fun x : Int => x.fmod 3) hys hx2⟩
      · rintro ys3 news ⟨rfl, hys3⟩
        unfold LCg.FinE
        intro D3 h7 tk7 F7 N7 o7
        clear F1 N1
        rw [List.size_toArray, IntsAre.length h6, List.take_length] at hys3
        clear o7
        walk_at "go"
        refine Stop.on ?_
        rename IntsAre _ ([0, 1, 0, 2, 0, 1, 0, 0] ++ _) => hrv0
        rename Fr _ _ _ _ => F8
        rename News _ _ _ _ => N8
        have N9 := nd3 (nd1 (nd1 (nd1 N8)))
        rw [← RW_cI] at hrv0
        have hrv : IntsAre _ (cI (RW ns)) := hrv0
        have hrl := ints_len hrv
        have hR14 : (RW ns).length ≤ 14 := by rw [RW_len]; omega
        have hR8 : 8 ≤ (RW ns).length := by rw [RW_len]; omega
        clear hrv0 N8 hys3 h6 h6l
        have h1 := nmA N9
        obtain ⟨Ar, rfl⟩ := h1
        have h1 := nmV hrv
        obtain ⟨rv, rfl⟩ := h1
        have h1 := nmA (nd0 (nd0 N9))
        obtain ⟨Am, rfl⟩ := h1
        have h1 := nmO (nd0 (nd0 (nd0 (nd0 (nd0 N9)))))
        obtain ⟨oN2, rfl⟩ := h1
        have h1 := nmO (nd0 (nd0 (nd0 (nd0 (nd0 (nd0 N9))))))
        obtain ⟨oM2, rfl⟩ := h1
        have hA3 : @Ne Nat Ar (L' + 1 + 1 + 1) := by omega
        have hA4 : @Ne Nat Ar (L' + 1 + 1 + 1 + 1) := by omega
        have hm3 : @Ne Nat Am (L' + 1 + 1 + 1) := by omega
        have hm4 : @Ne Nat Am (L' + 1 + 1 + 1 + 1) := by omega
        have h43 : @Ne Nat (L' + 1 + 1 + 1 + 1) (L' + 1 + 1 + 1) := by omega
        have h23 : @Ne Nat (L' + 1 + 1) (L' + 1 + 1 + 1) := by omega
        have h13 : @Ne Nat (L' + 1) (L' + 1 + 1 + 1) := by omega
        have h24 : @Ne Nat (L' + 1 + 1) (L' + 1 + 1 + 1 + 1) := by omega
        have h14 : @Ne Nat (L' + 1) (L' + 1 + 1 + 1 + 1) := by omega
        have hminj : ∀ a b, a < 3 → b < 3 → mf md p q a = mf md p q b → a = b := fun a b ha hb h => mf_inj hp1 hq1 hpq ha hb h
        have hninj : ∀ a b, a < 3 → b < 3 → nmf (mf md p q a) = nmf (mf md p q b) → a = b := fun a b ha hb h => nm_inj hm1 hp1 hq1 hpq ha hb h
        walk_at "noAnd"
        clear hm1 hpq oD2 oD1 dM dN
        refine LCg.ListComp_U F8 (by with_unfolding_all rfl) (by decide) (by rfl) (by decide) (by rfl) ?_
        walk_at "go"
        refine Stop.on ?_
        rename Fr _ _ _ _ => F1
        rename News _ _ _ _ => N1
        refine LCg.CompSrc.ledger rfl F1 N1 (.head _) (by rw [List.size_toArray, hrl, sizeLine_eq]; first | exact le_big hR14 | omega) ?_
        intro g3
        refine comp_inv (n := Array.size (List.toArray _)) (fun i ys news => news = _ ∧ StrsAre ys (((RW ns).take i).map fun k => hxN (mf md p q k))) ?_ ?_ _ 0 [] _ (Nat.zero_add _) ⟨rfl, .nil⟩
        · rintro i v ys news I oI C oC D m₂ h tk5 E5 hi hv ⟨rfl, hys⟩ hC hx F N off ne
          clear F1 N1
          have h1 := ints_item hrv (by simpa using hv)
          obtain ⟨k, tx, rfl, hx2⟩ := h1
          have hk3 := RW_lt (List.mem_of_getElem? hx2)
          have hkM := hM _ (mf_mem (m := md) (p := p) (q := q) hk3)
          have h1 := ints_get hmv (MS_get (m := md) (p := p) (q := q) hk3)
          obtain ⟨tz, hz⟩ := h1
          walk_at "go"
          refine Stop.on ?_
          rename Fr _ _ _ _ => F1
          rename News _ _ _ _ => N1
          refine kim_nat N1 (l := mv) (by first | exact (.tail _ (.tail _ (.tail _ (.tail _ (.tail _ (.head _))))))) rfl rfl (Nat.lt_trans hk3 (by decide)) hz ?_
          walk_at "go"
          rename Fr _ _ _ _ => Fz
          rename News _ _ _ _ => Nz
          exact LCg.CompEnd.intro Fz Nz _ (fun p hp => hp) off (.inr ⟨_, .head _, rfl, _, rfl⟩) ⟨rfl, strs_next (f := fun k => hxN (mf md p q k)) hys hx2⟩
        · rintro ys4 news ⟨rfl, hys4⟩
          unfold LCg.FinE
          intro D4 h8 tk8 F8 N8 o8
          clear F1 N1
          rw [List.size_toArray, hrl, List.take_length] at hys4
          clear o8
          walk_at "go"
          refine Stop.on ?_
          rename Fr _ _ _ _ => F1
          rename News _ _ _ _ => N1
          refine join_listW (isList_of N1 (.head _)) (by simpa using hys4) (by decide +kernel) (FG_weight md p q (by first | exact Nat.le_trans hR14 (by decide) | omega)) fun t9 k9 => ?_
          replace N1 := nd0 N1
          have hFG : Txt.join (Str.ofString "") ((RW ns).map fun k => hxN (mf md p q k)) = FG md p q (RW ns) := rfl
          rw [hFG]
          clear hFG hys4
          walk_at "go"
          refine Stop.on ?_

          rename Fr _ _ _ _ => F1
          rename News _ _ _ _ => N1
          refine LCg.ListComp_U F1 (by with_unfolding_all rfl) (by decide) (by rfl) (by decide) (by rfl) ?_
          walk_at "go"
          refine Stop.on ?_
          rename Fr _ _ _ _ => F1
          rename News _ _ _ _ => N1
          refine LCg.CompSrc.ledger rfl F1 N1 (.head _) (by rw [List.size_toArray, hrl, sizeLine_eq]; first | exact le_big hR14 | omega) ?_
          intro g4
          refine comp_inv (n := Array.size (List.toArray _)) (fun i ys news => news = _ ∧ IntsAre ys (((RW ns).take i).map fun k => ((mf md p q k : Nat) : Int))) ?_ ?_ _ 0 [] _ (Nat.zero_add _) ⟨rfl, .nil⟩
          · rintro i v ys news I oI C oC D m₂ h tk5 E5 hi hv ⟨rfl, hys⟩ hC hx F N off ne
            clear F1 N1
            have h1 := ints_item hrv (by simpa using hv)
            obtain ⟨k, tx, rfl, hx2⟩ := h1
            have hk3 := RW_lt (List.mem_of_getElem? hx2)
            have h1 := ints_get hmv (MS_get (m := md) (p := p) (q := q) hk3)
            obtain ⟨tz, hz⟩ := h1
            walk_at "go"
            refine Stop.on ?_
            rename Fr _ _ _ _ => F1
            rename News _ _ _ _ => N1
            refine kim_nat N1 (l := mv) (by first | exact (.tail _ (.tail _ (.tail _ (.tail _ (.tail _ (.head _))))))) rfl rfl (Nat.lt_trans hk3 (by decide)) hz ?_
            walk_at "go"
            rename Fr _ _ _ _ => Fz
            rename News _ _ _ _ => Nz
            exact LCg.CompEnd.intro Fz Nz _ (fun p hp => hp) off (.inr ⟨_, .head _, rfl, _, rfl⟩) ⟨rfl, ints_next (f := fun k => ((mf md p q k : Nat) : Int)) hys hx2⟩
          · rintro ys5 news ⟨rfl, hys5⟩
            unfold LCg.FinE
            intro D5 h9 tk9 F9 N9 o9
            clear F1 N1
            rw [List.size_toArray, hrl, List.take_length] at hys5
            simp only [LCg.Off1, and_true] at o9
            obtain ⟨-, -, -, o94, o93, -, -⟩ := o9
            walk_at "go"
            refine Stop.on ?_

            have h1 := nmO (nd0 (nd0 (nd0 (nd0 (nd0 N9)))))
            obtain ⟨oT2, rfl⟩ := h1
            rename oT2.data = _ => dT2
            have h1 := TX_nil md p q
            rw [← h1] at dT2
            clear h1
            refine src_listN (l := D5) (o := LCg.lst ys5) (items := ys5.toArray) (J := dueJ (fun o => [(D5, LCg.lst ys5), (Ar, W.listOf rv.toArray 0), (D, LCg.lst ys), (Am, W.listOf mv.toArray 0), (L' + 1 + 1 + 1 + 1, oE), (L' + 1 + 1 + 1, o), (L' + 1 + 1, oN2), (L' + 1, oM2)]) (FG md p q (RW ns)) Ar (fun i => TX md p q ((RW ns).take i))) (Jb := fun _ _ => False) rfl F9 N9 (.head _) (isList_of N9 (.head _)) (dueJ0 dT2) (fun i m n hj => by obtain ⟨o, t1, t2, t3, rfl, _⟩ := hj; exact .head _) ?_ ?_ ?_
            · rintro I hI i xv h tk10 m1 n1 hx10 ⟨oX, t1, t2, t3, rfl, dX, hpos, hfig, hrow⟩ F2
              refine AllObj.cons fun oi hoi => AllObj.nil fun N2 => ?_
              dsimp only [List.cons_append, List.nil_append] at N2
              dsimp only at dX
              have hI3 : @Ne Nat (L' + 1 + 1 + 1) I := Nat.ne_of_lt (hI (L' + 1 + 1 + 1, oT2) (.tail _ (.tail _ (.tail _ (.tail _ (.tail _ (.head _)))))))
              clear F9 N9
              have h1 := IntsAre.at hys5 i xv (by simpa using hx10)
              obtain ⟨z, tz, rfl, hz⟩ := h1
              rw [List.getElem?_map] at hz
              have h1 := Option.map_eq_some_iff.mp hz
              obtain ⟨k, hk, rfl⟩ := h1
              have hk3 := RW_lt (List.mem_of_getElem? hk)
              have hkM := hM _ (mf_mem (m := md) (p := p) (q := q) hk3)
              have hsl := FG_slice (m := md) (p := p) (q := q) hk
              have hil := (List.getElem?_eq_some_iff.mp hk).1
              have hFl := FG_len md p q (RW ns)
              have hFx : (FG md p q (RW ns)).length ≤ 1000 := by first | exact Nat.le_trans (Nat.le_of_eq hFl) (Nat.le_trans (Nat.mul_le_mul_left 4 hR14) (by decide)) | omega
              have hTl := TX_len md p q ((RW ns).take i)
              rw [List.length_take] at hTl
              have hTx : (TX md p q ((RW ns).take i)).length = i := by first | exact min_is hil hTl | omega
              replace F2 := Mine.Fr.as F2 (as3 hpos hfig hrow)
              have hone : (⟨#[mf md p q k]⟩ : Str).length = 1 := rfl
              walk_at "go"
              rename Fr _ _ _ _ => F3
              rename News _ _ _ _ => N3
              rename (Heap.get? _ _ = some _) => hT5
              rename (Heap.get? _ _ = none) => hn5
              refine unpackN_ F3 N3 ⟨_, hT5, rfl, _, rfl⟩ rfl rfl rfl ?_
              intro h11 F4 N4
              clear F2 F3 N2 N3 hT5 hn5
              walk_at "go"
              refine Stop.on ?_
              rename Fr _ _ _ _ => F6
              rename News _ _ _ _ => N6
              rename _ = TX md p q ((RW ns).take i) ++ _ => hzz
              rename Str.length _ = (TX md p q ((RW ns).take i)).length + _ => hll
              refine ne_tup2 (isTup_of N6 (.tail _ (.head _))) (isTup_of N6 (.head _)) (by omega) rfl (by simp only [units_deeper]; omega) ?_
              replace N6 := nd0 (nd0 N6)
              walk_at "go"
              rename Fr _ _ _ _ => F7
              rename News _ _ _ _ => N7
              refine EndW.of F7 N7 _ ⟨.head _, trivial⟩ (subL_of fun p hp => .tail _ hp) ⟨⟨.inl (Nat.ne_of_lt (hI _ (.head _))), trivial⟩, ⟨.inl (Nat.ne_of_lt (hI _ (.tail _ (.head _)))), trivial⟩, ⟨.inl (Nat.ne_of_lt (hI _ (.tail _ (.tail _ (.head _))))), trivial⟩, ⟨.inl (Nat.ne_of_lt (hI _ (.tail _ (.tail _ (.tail _ (.head _)))))), trivial⟩, ⟨.inl (Nat.ne_of_lt (hI _ (.tail _ (.tail _ (.tail _ (.tail _ (.head _))))))), trivial⟩, ⟨.inl hI3, trivial⟩, ⟨.inl (Nat.ne_of_lt (hI _ (.tail _ (.tail _ (.tail _ (.tail _ (.tail _ (.tail _ (.head _))))))))), trivial⟩, ⟨.inl (Nat.ne_of_lt (hI _ (.tail _ (.tail _ (.tail _ (.tail _ (.tail _ (.tail _ (.tail _ (.head _)))))))))), trivial⟩, trivial⟩ (dueJn (by assumption) (hzz.trans ((TX_snoc md p q _ k).trans (by rw [take_next hk]))) (by omega))
            · clear F9 N9
              intro h' tk m' n' F9 N9 hJ
              obtain ⟨oT3, t1, t2, t3, rfl, dT3, -, -, hrow⟩ := hJ
              dsimp only at N9 dT3
              have hsz : ys5.toArray.size = (RW ns).length := by rw [List.size_toArray, IntsAre.length hys5, List.length_map]
              rw [hsz, List.take_length] at dT3
              replace N9 := nd0 N9
              replace F9 := Mine.Fr.as F9 (as1 hrow)
              clear hsz hrow
              clear dT2 o94 o93 hys5 dT
              walk_at "go"
              refine Stop.on ?_
              rename Fr _ _ _ _ => F1
              rename News _ _ _ _ => N1
              refine len_of (isList_of N1 (.head _)) hrl (by omega) ?_
              intro tn tkn
              walk_at "go"
              refine Stop.on ?_
              rename Fr _ _ _ _ => F1
              rename News _ _ _ _ => N1
              refine LCg.Assign_ListComp_U F1 rfl (by with_unfolding_all rfl) (by with_unfolding_all rfl) (by decide) (by rfl) (by decide) (by rfl) (by rfl) (by rfl) ?_
              walk_at "go"
              refine Stop.on ?_
              rename Fr _ _ _ _ => F1
              rename News _ _ _ _ => N1
              rename IsRange _ _ _ _ _ _ _ _ => hr
              have hTl := TX_len md p q (RW ns)
              have hTx : (TX md p q (RW ns)).length ≤ 1000 := by first | exact Nat.le_trans (Nat.le_of_eq hTl) (Nat.le_trans hR14 (by decide)) | omega
              refine LCg.CompSrc.range (n := (RW ns).length) rfl F1 N1 hr (rsmall hR14).1 (rsmall hR14).2 (by rw [sizeLine_eq]; omega) ?_
              intro g5
              refine comp_inv (n := (RW ns).length) (fun i ys news => news = _ ∧ IntsAre ys (((List.range (RW ns).length).take i).map fun p' => ((oldF (TX md p q (RW ns)).cps.toList p' : Nat) : Int))) ?_ ?_ _ 0 [] _ (Nat.zero_add _) ⟨rfl, .nil⟩
              · rintro i v ys news I oI C oC D m₂ h tk5 E5 hi hv ⟨rfl, hys⟩ hC hx F N off ne
                clear F1 N1
                obtain ⟨tv, hv⟩ := hv
                rw [Int.zero_add] at hv
                subst hv
                have hpi : i ≤ (TX md p q (RW ns)).length := by omega
                walk_at "go"
                rename Fr _ _ _ _ => Fz
                rename News _ _ _ _ => Nz
                exact LCg.CompEnd.intro Fz Nz _ (fun p hp => hp) off trivial ⟨rfl, ints_next (f := fun p' => ((oldF (TX md p q (RW ns)).cps.toList p' : Nat) : Int)) hys (range_get hi)⟩
              · rintro yo news ⟨rfl, hyo⟩
                unfold LCg.FinA
                intro Do h12 tk12 F12 N12 o12
                clear F1 N1
                rw [List.take_of_length_le (Nat.le_of_eq List.length_range)] at hyo
                simp only [LCg.Off1, and_true] at o12
                obtain ⟨-, -, -, oo4, oo3, -, -⟩ := o12
                have h1 := absF3 (a := Str.ofString "olds") (b := Str.ofString "n") (c := Str.ofString "row") (v := .ref Do) (u := .int ((RW ns).length : Int) tn) (x := .ref Ar) F12 (by kernel_rfl) (by kernel_rfl) (by kernel_rfl)
                obtain ⟨m2, F13⟩ := h1
                clear F12
                clear F1 N1 hr
                walk_at "go"
                refine Stop.on ?_
                rename IsRange _ _ _ _ _ _ _ _ => hr
                rename Fr _ _ _ _ => F1
                rename News _ _ _ _ => N1
                have h1 := nmA N1
                obtain ⟨Le, rfl⟩ := h1
                have h1 := nmO (nd0 (nd0 (nd0 (nd0 (nd0 N1)))))
                obtain ⟨oE2, rfl⟩ := h1
                rename oE2.data = _ => dE2
                have hLDo : @Ne Nat Le Do := by omega
                have hLAr : @Ne Nat Le Ar := by omega
                have hLD : @Ne Nat Le D := by omega
                have hLAm : @Ne Nat Le Am := by omega
                have hL4 : @Ne Nat Le (L' + 1 + 1 + 1 + 1) := by omega
                have hL3 : @Ne Nat Le (L' + 1 + 1 + 1) := by omega
                have hL2 : @Ne Nat Le (L' + 1 + 1) := by omega
                have hL1 : @Ne Nat Le (L' + 1) := by omega
                walk_at "noAnd"
                have hUl := UW_len md p q ns
                have hUn := UW_nm (p := p) (q := q) (m := md) (ns := ns) hM
                have hsl0 : (Str.ofString "/").length = 1 := by decide +kernel
                have hsl1 : (Str.ofString "/").length ≤ 500 := by omega
                have hsl2 : (Str.ofString "/").length ≠ 0 := by omega
                refine src_range (n := (RW ns).length) (J := endJ (fun o => [(Le, o), (Do, LCg.lst yo), (Ar, W.listOf rv.toArray 0), (D, LCg.lst ys), (Am, W.listOf mv.toArray 0), (L' + 1 + 1 + 1 + 1, oE2), (L' + 1 + 1 + 1, oT3), (L' + 1 + 1, oN2), (L' + 1, oM2)]) Do Ar (UW md p q ns) (.int ((RW ns).length : Int) tn)) (Jb := fun _ _ => False) rfl F1 N1 hr (rsmallD hR14 (by omega)).1 (rsmallD hR14 (by omega)).2 endJ0 ?_ ?_ ?_
                · rintro I hI i xv h tk10 m3 n3 hin ⟨tv, hv⟩ ⟨a, ka, t1, rfl, ha, hrest, holds, hn, hrow⟩ F2
                  refine AllObj.cons fun oi hoi => AllObj.nil fun N2 => ?_
                  dsimp only [List.cons_append, List.nil_append] at N2
                  have hILe : @Ne Nat Le I := Nat.ne_of_lt (hI _ (.head _))
                  clear F1 N1
                  have hidx : ((RW ns).length : Int) - 1 + (i : Nat) * (-1) = (((RW ns).length - 1 - i : Nat) : Int) := (idx_rev hin).1
                  rw [hidx] at hv
                  subst hv
                  have hj : (RW ns).length - 1 - i < (RW ns).length := (idx_rev hin).2
                  have h1 : ∃ k, (RW ns)[(RW ns).length - 1 - i]? = some k := ⟨_, List.getElem?_eq_getElem hj⟩
                  obtain ⟨k, hk⟩ := h1
                  have hk3 := RW_lt (List.mem_of_getElem? hk)
                  have hkU := UW_get (m := md) (p := p) (q := q) hk
                  have hdr := drop_get hkU
                  have h1 := ints_get hrv hk
                  obtain ⟨tz, hz⟩ := h1
                  have h1 := StrsAre.at hys (j := k) (y := nmf (mf md p q k)) (by rw [List.getElem?_map, MS_get hk3]; rfl)
                  obtain ⟨ty, hy⟩ := h1
                  have hkn := hUn _ (List.mem_of_getElem? hkU)
                  have hkl : (nmf (mf md p q k)).length = 10 := hkn.1
                  have hxl : (nmf (mf md p q k)).length ≤ 500 := by omega
                  have hx0 : (nmf (mf md p q k)).length ≠ 0 := by omega
                  have hasz : a.size = i := by
                    have := StrsAre.length ha
                    rw [Array.length_toList] at this
                    rw [this]; simp [endW]
                  replace F2 := Mine.Fr.as F2 (as4 hrest holds hn hrow)
                  have hdr2 : (UW md p q ns).drop ((UW md p q ns).length - 1 - i) = nmf (mf md p q k) :: (UW md p q ns).drop ((UW md p q ns).length - 1 - i + 1) := by rw [hUl]; exact hdr
                  walk_at "go"
                  · refine Stop.on ?_
                    have hi0 : i = 0 := restW_true hUn (by first | exact Nat.lt_of_lt_of_eq hin hUl.symm | exact Nat.le_trans (Nat.le_of_eq hUl) hR14 | omega) (by assumption)
                    subst hi0
                    have h1 := stepA hkn (by first | exact Nat.lt_of_lt_of_eq hin hUl.symm | exact Nat.le_trans (Nat.le_of_eq hUl) hR14 | exact Nat.lt_of_lt_of_eq (Nat.lt_of_lt_of_le (by decide) hR8) hUl.symm | omega) hdr2
                    obtain ⟨e1, e2, e3⟩ := h1
                    rename News _ _ _ _ => N3
                    refine kim_nat N3 (l := rv) (.tail _ (.tail _ (.tail _ (.head _)))) rfl rfl (idx64 hR14) hz ?_
                    walk_at "go"
                    refine Stop.on ?_
                    rename News _ _ _ _ => N3
                    refine kim_nat N3 (l := ys) (.tail _ (.tail _ (.tail _ (.tail _ (.head _))))) rfl rfl (Nat.lt_trans hk3 (by decide)) hy ?_
                    walk_at "go"
                    rename Fr _ _ _ _ => F7
                    rename News _ _ _ _ => N7
                    exact EndW.of F7 N7 _ ⟨.head _, trivial⟩ (subL_of fun p hp => .tail _ hp) ⟨⟨.inl hILe, trivial⟩, ⟨.inl (Nat.ne_of_lt (hI _ (.tail _ (.head _)))), trivial⟩, ⟨.inl (Nat.ne_of_lt (hI _ (.tail _ (.tail _ (.head _))))), trivial⟩, ⟨.inl (Nat.ne_of_lt (hI _ (.tail _ (.tail _ (.tail _ (.head _)))))), trivial⟩, ⟨.inl (Nat.ne_of_lt (hI _ (.tail _ (.tail _ (.tail _ (.tail _ (.head _))))))), trivial⟩, ⟨.inl (Nat.ne_of_lt (hI _ (.tail _ (.tail _ (.tail _ (.tail _ (.tail _ (.head _)))))))), trivial⟩, ⟨.inl (Nat.ne_of_lt (hI _ (.tail _ (.tail _ (.tail _ (.tail _ (.tail _ (.tail _ (.head _))))))))), trivial⟩, ⟨.inl (Nat.ne_of_lt (hI _ (.tail _ (.tail _ (.tail _ (.tail _ (.tail _ (.tail _ (.tail _ (.head _)))))))))), trivial⟩, ⟨.inl (Nat.ne_of_lt (hI _ (.tail _ (.tail _ (.tail _ (.tail _ (.tail _ (.tail _ (.tail _ (.tail _ (.head _))))))))))), trivial⟩, trivial⟩ (endJn ha e2 e1)
                  · refine Stop.on ?_
                    have hi0 : 0 < i := restW_false (by assumption)
                    have h1 := stepB hUn hkn (by first | exact Nat.le_trans (Nat.le_of_eq hUl) hR14 | omega) hi0 (by first | exact Nat.lt_of_lt_of_eq hin hUl.symm | omega) hdr2
                    obtain ⟨e1, e2, e3, e4, e5, e6⟩ := h1
                    rename News _ _ _ _ => N3
                    refine kim_nat N3 (l := rv) (.tail _ (.tail _ (.tail _ (.head _)))) rfl rfl (idx64 hR14) hz ?_
                    walk_at "go"
                    refine Stop.on ?_
                    rename News _ _ _ _ => N3
                    refine kim_nat N3 (l := ys) (.tail _ (.tail _ (.tail _ (.tail _ (.head _))))) rfl rfl (Nat.lt_trans hk3 (by decide)) hy ?_
                    walk_at "go"
                    rename Fr _ _ _ _ => F7
                    rename News _ _ _ _ => N7
                    exact EndW.of F7 N7 _ ⟨.head _, trivial⟩ (subL_of fun p hp => .tail _ hp) ⟨⟨.inl hILe, trivial⟩, ⟨.inl (Nat.ne_of_lt (hI _ (.tail _ (.head _)))), trivial⟩, ⟨.inl (Nat.ne_of_lt (hI _ (.tail _ (.tail _ (.head _))))), trivial⟩, ⟨.inl (Nat.ne_of_lt (hI _ (.tail _ (.tail _ (.tail _ (.head _)))))), trivial⟩, ⟨.inl (Nat.ne_of_lt (hI _ (.tail _ (.tail _ (.tail _ (.tail _ (.head _))))))), trivial⟩, ⟨.inl (Nat.ne_of_lt (hI _ (.tail _ (.tail _ (.tail _ (.tail _ (.tail _ (.head _)))))))), trivial⟩, ⟨.inl (Nat.ne_of_lt (hI _ (.tail _ (.tail _ (.tail _ (.tail _ (.tail _ (.tail _ (.head _))))))))), trivial⟩, ⟨.inl (Nat.ne_of_lt (hI _ (.tail _ (.tail _ (.tail _ (.tail _ (.tail _ (.tail _ (.tail _ (.head _)))))))))), trivial⟩, ⟨.inl (Nat.ne_of_lt (hI _ (.tail _ (.tail _ (.tail _ (.tail _ (.tail _ (.tail _ (.tail _ (.tail _ (.head _))))))))))), trivial⟩, trivial⟩ (endJn ha e2 e1)
                · clear F1 N1
                  intro h' tk m' n' F9 N9 hJ
                  obtain ⟨ea, ek, t1, rfl, hea, -, holds, hn, hrow⟩ := hJ
                  dsimp only at N9
                  have h1 : ∃ ev : List Value, ea = ev.toArray := ⟨ea.toList, by simp⟩
                  obtain ⟨ev, rfl⟩ := h1
                  rw [List.toList_toArray] at hea
                  replace F9 := Mine.Fr.as F9 (as3 holds hn hrow)
                  clear holds hn hrow hsl0 hsl1 hsl2 hTl hTx
                  walk_at "go"
                  refine Stop.on ?_
                  rename Fr _ _ _ _ => F1
                  rename News _ _ _ _ => N1
                  have hel : (endW (UW md p q ns) (RW ns).length).length < 64 := by unfold endW; rw [List.length_map, List.length_range]; omega
                  refine sort_strs F1 N1 (isList_of N1 (.head _)) hea hel ?_
                  intro Se sv ss se h20 F2 N2 hlt hss hperm hsorted
                  have hS4 : @Ne Nat (L' + 1 + 1 + 1 + 1) Se := Nat.ne_of_lt (hlt (L' + 1 + 1 + 1 + 1, oE2) (.tail _ (.tail _ (.tail _ (.tail _ (.tail _ (.head _)))))))
                  have h1 := sorted_ends (es := ends (UW md p q ns)) (fun v hv c hc => hUn c ((ends_mem hv).2 c hc)) (hperm.trans (hUl ▸ endW_perm (UW md p q ns))) hsorted
                  obtain ⟨out, ho, hop, how⟩ := h1
                  subst ho
                  have hol : out.length = (RW ns).length := by rw [hop.length_eq]; unfold ends; rw [List.length_map, List.length_range]; exact hUl
                  have hsl := StrsAre.length hss
                  rw [List.length_map] at hsl
                  clear F1 N1 hlt hsorted hperm hea hel
                  replace N2 := nd1 N2
                  walk_at "go"
                  refine Stop.on ?_
                  rename Fr _ _ _ _ => F1
                  rename News _ _ _ _ => N1
                  refine LCg.ListComp_U F1 (by with_unfolding_all rfl) (by decide) (by rfl) (by decide) (by rfl) ?_
                  walk_at "go"
                  refine Stop.on ?_
                  rename IsRange _ _ _ _ _ _ _ _ => hr
                  rename Fr _ _ _ _ => F1
                  rename News _ _ _ _ => N1
                  refine LCg.CompSrc.range (n := (RW ns).length - 1) rfl F1 N1 hr (rsmall1 hR14 (by omega)).1 (rsmall1 hR14 (by omega)).2 (by rw [sizeLine_eq]; omega) ?_
                  intro g6
                  refine comp_inv (n := (RW ns).length - 1) (fun i ys news => news = _ ∧ IntsAre ys (((List.range ((RW ns).length - 1)).take i).map fun k => ((shF out k : Nat) : Int))) ?_ ?_ _ 0 [] _ (Nat.zero_add _) ⟨rfl, .nil⟩
                  · rintro i v ys2 news I oI C oC D m₂ h tk5 E5 hi hv ⟨rfl, hys2⟩ hC hx F N off ne
                    clear F1 N1 hr
                    obtain ⟨tv, hv⟩ := hv
                    rw [Int.zero_add] at hv
                    subst hv
                    have h1 := out_ok hop (i := i) (lt_pred2 hi hol).1
                    obtain ⟨o1, o2, o3, o4⟩ := h1
                    have h1 := out_ok hop (i := i + 1) (lt_pred2 hi hol).2
                    obtain ⟨p1, p2, p3, p4⟩ := h1
                    rw [hUl] at o3 p3
                    have o3' : (out.getD i []).length ≤ 14 := Nat.le_trans o3 hR14
                    have p3' : (out.getD (i + 1) []).length ≤ 14 := Nat.le_trans p3 hR14
                    have o5 : ∀ c ∈ out.getD i [], Nm c := fun c hc => hUn c (o4 c hc)
                    have p5 : ∀ c ∈ out.getD (i + 1) [], Nm c := fun c hc => hUn c (p4 c hc)
                    have h1 := StrsAre.at hss (j := i) (y := enc (out.getD i [])) (by rw [List.getElem?_map, o1]; rfl)
                    obtain ⟨ta, hta⟩ := h1
                    have h1 := StrsAre.at hss (j := i + 1) (y := enc (out.getD (i + 1) [])) (by rw [List.getElem?_map, p1]; rfl)
                    obtain ⟨tb, htb⟩ := h1
                    walk_at "go"
                    refine Stop.on ?_
                    rename News _ _ _ _ => N3
                    refine kim_nat N3 (l := sv) (.tail _ (.tail _ (.tail _ (.tail _ (.head _))))) rfl rfl (pred64 hi hR14).1 hta ?_
                    walk_at "go"
                    refine Stop.on ?_
                    rename News _ _ _ _ => N3
                    refine kim_suc N3 (l := sv) (.tail _ (.tail _ (.tail _ (.tail _ (.head _))))) rfl rfl (pred64 hi hR14).2 htb ?_
                    walk_at "go"
                    rename Fr _ _ _ _ => Fz
                    rename News _ _ _ _ => Nz
                    exact LCg.CompEnd.intro Fz Nz _ (fun p hp => hp) off trivial ⟨rfl, ints_next (f := fun k => ((shF out k : Nat) : Int)) hys2 (range_get hi)⟩
                  · rintro ysh news ⟨rfl, hysh⟩
                    unfold LCg.FinE
                    intro Dh h13 tk13 F13 N13 o13
                    clear F1 N1
                    rw [List.take_of_length_le (Nat.le_of_eq List.length_range)] at hysh
                    clear o13 hr
                    have hshl : ysh.length ≤ 14 := by
                      have := IntsAre.length hysh
                      rw [List.length_map, List.length_range] at this
                      first | (rw [this]; exact Nat.le_trans (Nat.sub_le _ _) hR14) | omega
                    refine kmk_add_ints F13 N13 (isList_of N13 (.tail _ (.head _))) (isList_of N13 (.head _)) (ns := [0]) (ms := _) (.cons _ _ .nil) (by simpa using hysh) ?_ (by rw [List.length_map, List.length_range, sizeLine_eq]; simp only [List.length_cons, List.length_nil]; omega)
                    intro Ds ws h14 F14 N14 hltS hws0
                    have hshs : shs lcpL out = 0 :: (List.range (out.length - 1)).map (shF out) := shs_range (by first | (rw [hol]; exact Nat.lt_of_lt_of_le (by decide) hR8) | omega)
                    have hws : IntsAre ws (cI (shs lcpL out)) := by
                      rw [hshs, hol, cI_cons]
                      unfold cI
                      rw [List.map_map]
                      exact hws0
                    clear hws0 hysh hshl hltS hshs
                    replace N14 := nd1 (nd1 N14)
                    walk_at "go"
                    refine Stop.on ?_
                    rename Fr _ _ _ _ => F1
                    rename News _ _ _ _ => N1
                    refine kso_sorted F1 N1 (isList_of N1 (.tail _ (.tail _ (.head _)))) hyo (by rw [List.length_map, List.length_range]; omega) ?_
                    intro Da va na ca h21 F2 N2 _ ia _ pa wa _
                    clear F1 N1
                    walk_at "go"
                    refine Stop.on ?_
                    rename Fr _ _ _ _ => F1
                    rename News _ _ _ _ => N1
                    have hsl3 : (cI (shs lcpL out)).length < 64 := by rw [cI_len, shs_range (by first | (rw [hol]; exact Nat.lt_of_lt_of_le (by decide) hR8) | omega), List.length_cons, List.length_map, List.length_range]; omega
                    refine kso_sorted F1 N1 (isList_of N1 (.tail _ (.head _))) hws hsl3 ?_
                    intro Db vb nb cb h22 F3 N3 _ ib _ pb wb _
                    clear F1 N1
                    walk_at "go"
                    refine Stop.on ?_
                    rename Fr _ _ _ _ => F1
                    rename News _ _ _ _ => N1
                    have hperm : ((List.range (RW ns).length).map fun p' => ((oldF (TX md p q (RW ns)).cps.toList p' : Nat) : Int)).Perm (cI (shs lcpL out)) := by
                      have h1 := cI_perm (law_olds (R := RW ns) (M := mf md p q) (N := fun k => nmf (mf md p q k)) (fun a ha b hb => hminj a b (RW_lt ha) (RW_lt hb)) (fun a ha b hb => hninj a b (RW_lt ha) (RW_lt hb)) how hop)
                      rw [TX_list]
                      unfold cI at h1
                      rw [List.map_map] at h1
                      exact h1
                    refine ne_ints_same (isList_of N1 (.tail _ (.head _))) (isList_of N1 (.head _)) ia ib (ksm_same ((pa.trans hperm).trans pb.symm) wa wb) (by simp only [units_deeper]; omega) ?_
                    replace N1 := nd0 (nd0 N1)
                    clear ia pa wa ib pb wb hsl3 F2 N2
                    walk_at "go"
                    rename Fr _ _ _ _ => F1
                    rename News _ _ _ _ => N1
                    refine' call_nd rfl ?nda ?nua F1 N1 X T ?_
                    case nda => simp only [depth_deeper]; omega
                    case nua => simp only [units_deeper]; omega
                    intro x dx d0 o0 tt h24 tk24 F4 N4 hem hsys hdx hxx hd0
                    have hxd : ∀ p ∈ [(x, instObj 216 dx), (dx, ndDict w tt d0), (Ds, W.listOf ws.toArray 0), (Ar, W.listOf rv.toArray 0), (D, LCg.lst ys), (L' + 1 + 1, oN2)], p.1 ≠ d0 := by
                      have hdd : dx < d0 := Nat.lt_trans hxx hd0
                      intro p hp
                      rcases List.mem_cons.mp hp with rfl | hp
                      · exact Nat.ne_of_lt hd0
                      rcases List.mem_cons.mp hp with rfl | hp
                      · exact Nat.ne_of_lt hdd
                      · refine Nat.ne_of_lt (Nat.lt_trans (hdx p ?_) hdd)
                        simp only [List.mem_cons, List.not_mem_nil, or_false] at hp ⊢
                        rcases hp with rfl | rfl | rfl | rfl <;> simp
                    have N5 : News s.heap L' h24 ([(x, instObj 216 dx), (dx, ndDict w tt d0), (Ds, W.listOf ws.toArray 0), (Ar, W.listOf rv.toArray 0), (D, LCg.lst ys), (L' + 1 + 1, oN2)] ++ (ts0 d0 o0).news) :=
                      nd6 (nd5 (nd5 (nd5 (nd3 (nd3 (news_last N4))))))
                    clear F1 N1 N4
                    walk_at "go"
                    refine Stop.on ?_
                    rename IsRange _ _ _ _ _ _ _ _ => hr
                    rename Fr _ _ _ _ => F1
                    rename News _ _ _ _ => N1
                    refine src_range (n := (RW ns).length) (J := treJ w [(x, instObj 216 dx), (dx, ndDict w tt d0), (Ds, W.listOf ws.toArray 0), (Ar, W.listOf rv.toArray 0), (D, LCg.lst ys), (L' + 1 + 1, oN2)] x d0 Ds Ar (.int ((RW ns).length : Int) tn) (ends (UW md p q ns))) (Jb := fun _ _ => False) rfl F1 N1 hr (rsmall hR14).1 (rsmall hR14).2 (treJ0 hem hsys hxd) ?_ ?_ ?_
                    · rintro I hI i xv h tk10 m3 n3 hin ⟨tv, hv⟩ ⟨t, rfl, wf, hroot, hW, hoff, htree, hshares, hn, hrow⟩ F2
                      refine AllObj.cons fun oi hoi => AllObj.nil fun N2 => ?_
                      dsimp only [List.cons_append, List.nil_append] at N2
                      clear F1 N1
                      rw [Int.mul_one, Int.zero_add] at hv
                      subst hv
                      replace F2 := Mine.Fr.as F2 (as4 htree hshares hn hrow)
                      walk_at "go"
                      refine Stop.on ?_
                      rename Fr _ _ _ _ => F3
                      rename News _ _ _ _ => N3
                      clear F2 N2
                      refine LCg.ListComp_U F3 (by with_unfolding_all rfl) (by decide) (by rfl) (by decide) (by rfl) ?_
                      walk_at "go"
                      refine Stop.on ?_
                      rename Fr _ _ _ _ => F4
                      rename News _ _ _ _ => N4
                      k_dflt (refine' kmk_slice_ints F4 N4 (isList_of N4 (.tail _ (.tail _ (.tail _ (.tail _ (.head _)))))) ?slp ?slq hrv (kmk_from hrv ?slx) rfl ?_ ?sls ?slt ?slz)
                      case slp => exact IsPart.int _ _
                      case slq => exact IsPart.none
                      case slx => omega
                      case sls => with_unfolding_all rfl
                      case slt => kmk_pure
                      case slz => rw [List.size_toArray, hrl, sizeLine_eq]; first | exact le_big hR14 | omega
                      intro Dr wr h26 F5 N5 hltr hwr0 _ _
                      clear F4 N4
                      have hwr := cI_drop hwr0
                      clear hwr0
                      have hwl := ints_len hwr
                      rw [List.length_drop] at hwl
                      walk_at "go"
                      refine Stop.on ?_
                      rename Fr _ _ _ _ => F4
                      rename News _ _ _ _ => N4
                      refine LCg.CompSrc.ledger rfl F4 N4 (.head _) (by rw [List.size_toArray, hwl, sizeLine_eq]; first | exact le_big1 hR14 | omega) ?_
                      intro g7
                      refine comp_inv (n := Array.size (List.toArray _)) (fun j ys news => news = _ ∧ StrsAre ys ((((RW ns).drop i).take j).map fun k => nmf (mf md p q k))) ?_ ?_ _ 0 [] _ (Nat.zero_add _) ⟨rfl, .nil⟩
                      · rintro j v ys2 news I2 oI2 C oC D2 m₂ h tk5 E5 hij hv ⟨rfl, hys2⟩ hC hx F N off ne
                        clear F4 N4
                        have h1 := ints_item hwr (by simpa using hv)
                        obtain ⟨k, tx, rfl, hx2⟩ := h1
                        have hk3 := RW_lt (List.mem_of_mem_drop (List.mem_of_getElem? hx2))
                        have h1 := StrsAre.at hys (j := k) (y := nmf (mf md p q k)) (by rw [List.getElem?_map, MS_get hk3]; rfl)
                        obtain ⟨ty, hy⟩ := h1
                        walk_at "go"
                        refine Stop.on ?_
                        rename News _ _ _ _ => N1
                        refine kim_nat N1 (l := ys) (.tail _ (.tail _ (.tail _ (.tail _ (.tail _ (.tail _ (.tail _ (.tail _ (.tail _ (.head _)))))))))) rfl rfl (Nat.lt_trans hk3 (by decide)) hy ?_
                        walk_at "go"
                        rename Fr _ _ _ _ => Fz
                        rename News _ _ _ _ => Nz
                        exact LCg.CompEnd.intro Fz Nz _ (fun p hp => hp) off (.inr ⟨_, .head _, rfl, _, rfl⟩) ⟨rfl, strs_next (f := fun k => nmf (mf md p q k)) hys2 hx2⟩
                      · rintro ysv news ⟨rfl, hysv⟩
                        unfold LCg.FinE
                        intro Dv h27 tk27 F27 N27 o27
                        clear F4 N4
                        rw [List.size_toArray, hwl, List.take_of_length_le (by rw [List.length_drop]; exact Nat.le_refl _), UW_drop] at hysv
                        clear o27
                        walk_at "go"
                        rename Fr _ _ _ _ => F6
                        rename News _ _ _ _ => N6
                        have h1 := nmA N6
                        obtain ⟨Tt, rfl⟩ := h1
                        replace N6 := nd1 (nd1 N6)
                        have hTn := not_dict wf (pre := [(Tt, ({ cls := .type "tuple", data := .seq ysv.toArray 0 } : Obj)), (I, oi), (x, instObj 216 dx), (dx, ndDict w tt d0), (Ds, W.listOf ws.toArray 0), (Ar, W.listOf rv.toArray 0), (D, LCg.lst ys), (L' + 1 + 1, oN2)]) N6 (.head _) (cls_ne (a := "tuple") (b := "dict") (by decide))
                        have hIn := not_dict wf (pre := [(Tt, ({ cls := .type "tuple", data := .seq ysv.toArray 0 } : Obj)), (I, oi), (x, instObj 216 dx), (dx, ndDict w tt d0), (Ds, W.listOf ws.toArray 0), (Ar, W.listOf rv.toArray 0), (D, LCg.lst ys), (L' + 1 + 1, oN2)]) N6 (.tail _ (.head _)) (by rw [hoi]; exact cls_ne (a := "range_iterator") (b := "dict") (by decide))
                        have hoff2 : ∀ p ∈ [(Tt, ({ cls := .type "tuple", data := .seq ysv.toArray 0 } : Obj)), (I, oi), (x, instObj 216 dx), (dx, ndDict w tt d0), (Ds, W.listOf ws.toArray 0), (Ar, W.listOf rv.toArray 0), (D, LCg.lst ys), (L' + 1 + 1, oN2)], ∀ u ∈ t.W, p.1 ≠ t.ρ u := by
                          intro p hp
                          rcases List.mem_cons.mp hp with rfl | hp
                          · exact hTn
                          rcases List.mem_cons.mp hp with rfl | hp
                          · exact hIn
                          · exact hoff p hp
                        have hsz : t.W.length ≤ 1000 := by
                          rw [hW]
                          have h1 := addAll_bound (es := (ends (UW md p q ns)).take i) (k := 14) (fun e he => by first | exact Nat.le_trans (ends_mem (List.mem_of_mem_take he)).1 (Nat.le_trans (Nat.le_of_eq hUl) hR14) | (have := (ends_mem (List.mem_of_mem_take he)).1; omega))
                          rw [List.length_take, ends_len] at h1
                          first | exact add_bd h1 (Nat.le_trans (Nat.le_of_eq hUl) hR14) | omega
                        have hkl : ((UW md p q ns).drop i).length ≤ 100 := by rw [List.length_drop]; first | exact Nat.le_trans (Nat.sub_le _ _) (Nat.le_trans (Nat.le_trans (Nat.le_of_eq hUl) hR14) (by decide)) | omega
                        refine' call_get (pre := [(Tt, ({ cls := .type "tuple", data := .seq ysv.toArray 0 } : Obj)), (I, oi), (x, instObj 216 dx), (dx, ndDict w tt d0), (Ds, W.listOf ws.toArray 0), (Ar, W.listOf rv.toArray 0), (D, LCg.lst ys), (L' + 1 + 1, oN2)]) (ts := t) (tt := tt) (vals := ysv) (ks := (UW md p q ns).drop i) rfl ?gda ?gua F6 N6 X T (.tail _ (.tail _ (.head _))) (by rw [hroot]; exact (.tail _ (.tail _ (.tail _ (.head _))))) (.head _) hysv wf hoff2 hsz hkl ?_
                        case gda => simp only [depth_deeper]; omega
                        case gua => simp only [units_deeper]; omega
                        intro v h28 tk28 t2 F7 N7 wf2 hr2 hW2 hoff3
                        clear F6 N6
                        walk_at "go"
                        rename Fr _ _ _ _ => Fz
                        rename News _ _ _ _ => Nz
                        exact EndW.of Fz Nz ([(x, instObj 216 dx), (dx, ndDict w tt d0), (Ds, W.listOf ws.toArray 0), (Ar, W.listOf rv.toArray 0), (D, LCg.lst ys), (L' + 1 + 1, oN2)] ++ t2.news) ⟨.tail _ (.head _), trivial⟩ (subL_of fun p hp => .tail _ (.tail _ hp)) (offW_of (news_ne wf2 (pre0 := [(Tt, ({ cls := .type "tuple", data := .seq ysv.toArray 0 } : Obj)), (I, oi), (x, instObj 216 dx), (dx, ndDict w tt d0), (Ds, W.listOf ws.toArray 0), (Ar, W.listOf rv.toArray 0), (D, LCg.lst ys), (L' + 1 + 1, oN2)]) (pre := [(x, instObj 216 dx), (dx, ndDict w tt d0), (Ds, W.listOf ws.toArray 0), (Ar, W.listOf rv.toArray 0), (D, LCg.lst ys), (L' + 1 + 1, oN2)]) Nz (.tail _ (.head _)) (by rw [hoi]; exact cls_ne (a := "range_iterator") (b := "dict") (by decide)) (fun p hp => Nat.ne_of_lt (hI p (List.mem_append_left _ hp))))) (treJn hW (ends_get (by omega)) wf2 hr2 hroot hW2 (fun p hp => hoff3 p (.tail _ (.tail _ hp))))
                    · clear F1 N1 hr
                      intro h' tk m3 n3 F9 N9 ⟨t, e9, wf, hroot, hW, hoff, htree, hshares, hn, hrow⟩
                      subst e9
                      rw [List.take_of_length_le (by rw [ends_len]; omega)] at hW
                      replace F9 := Mine.Fr.as F9 (as3 htree hshares hn)
                      clear htree hshares hn hrow
                      walk_at "go"
                      rename Fr _ _ _ _ => F1
                      rename News _ _ _ _ => N1
                      have hz : t.W.length ≤ 1000 := by
                        rw [hW]
                        have h1 := addAll_bound (es := ends (UW md p q ns)) (k := 14) (fun e he => by first | exact Nat.le_trans (ends_mem he).1 (Nat.le_trans (Nat.le_of_eq hUl) hR14) | (have := (ends_mem he).1; omega))
                        rw [ends_len] at h1
                        first | exact add_bd2 h1 (Nat.le_trans (Nat.le_of_eq hUl) hR14) | omega
                      have h1 := law_nests (U := UW md p q ns) how hop
                      obtain ⟨w1, -, w2⟩ := h1
                      rw [← hW] at w1 w2
                      refine' call_nests2 (pre := [(x, instObj 216 dx), (dx, ndDict w tt d0), (Ds, W.listOf ws.toArray 0), (Ar, W.listOf rv.toArray 0), (D, LCg.lst ys), (L' + 1 + 1, oN2)]) hroot rfl ?tda ?tua F1 N1 X T wf hz (fun v hv => by have := w2 v hv; omega) ?_
                      case tda => simp only [depth_deeper]; omega
                      case tua => simp only [units_deeper]; omega
                      intro h29 tk29 t29 F3 N3
                      clear F1 N1
                      have hsl3 := IntsAre.length hws
                      walk_at "go"
                      rename Fr _ _ _ _ => Fz
                      exact ret_true (beq_iff_eq.mpr (last_eq w1 hUl)) (hret _ _ Fz.keep)
                    · intro h' tk m' n' F' N' hJ; exact False.elim hJ
                · intro h' tk m' n' F' N' hJ; exact False.elim hJ
            · intro h' tk m' n' F' N' hJ; exact False.elim hJ
end Mine

end
end
section
open PySem PySem.W PySem.Calls PyProof.Rows
set_option maxRecDepth 100000
set_option maxHeartbeats 4000000 in
theorem PySem.Challenge.cw_kt0067_01_holds : PySem.Challenge.rw_kt0067_01.Holds := by
  refine Mine.H.head (by rfl) (by rfl) (by rfl) ?_
  k_fill
  intro w s₀ s₁ mg mb G Y fa o pm cd doc dV kV ho hd hcd hD hmg hg args vals as hpre hlay hrd hwl hlo
  have KX : Frag.In (Mine.H.KR w.params) s₁.heap := Y
  have X := (Ground.X G).1
  have V := (Ground.X G).2
  refine Ground.open G ?_
  intro T B D TE TW
  have TA := at_of_top T
  have e284 := mg_of KX T.g (show nsIn (Mine.H.KR w.params) mainGlobals (Str.ofString "law") = some (some (.ref 284)) by kernel_rfl)
  have hfa : fa = 284 := by
    have h1 := hmg.symm.trans e284
    exact Value.ref.inj (Option.some.inj h1)
  subst hfa
  clear hmg ho hd hcd hD e284 o pm cd doc dV kV
  wrow_args hpre hlay hrd hwl hlo
  refine enter_call ?_
  rename IntsAre _ _ => hI
  rename Heap.IsList _ _ _ => hL
  rename ¬ _ => hlen
  refine Mine.law_spec (w := w) (s := s₁) (dp := 1 + claimMargin) (un := 4) (fr := some []) (gd := some []) KX T (by decide +kernel) (by decide +kernel) hL hI (by omega) ?_
  intro h' tk' k
  refine GoodW.toG ⟨.inl ⟨.bool true, .bool true, [], rfl, fun cls => ?_, .bool true, ?_, fun _ => ⟨.nil, fun a ha => by cases ha⟩⟩, k, rfl, hg⟩
  · rfl
  · wrow_post
end
