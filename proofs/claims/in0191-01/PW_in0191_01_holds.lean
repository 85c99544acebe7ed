import PyProof.Rows.All
import Wide.All
import OpenK.AllK
import Wide.FinOn
import PySem.Challenge.RW_in0191_01

section -- Hd
open PySem PySem.W PyProof.Rows
set_option Elab.async false
set_option maxRecDepth 100000
set_option maxHeartbeats 8000000
namespace Mine
/-- parts of the given program, by their places -/
def nth : List Stmt → Nat → List Stmt
  | [], _ => []
  | s :: _, 0 => [s]
  | _ :: r, i + 1 => nth r i
def inn : List Stmt → List Stmt
  | [.FunctionDef (body := b) ..] => b
  | [.ClassDef (body := b) ..] => b
  | _ => []
def prm : List Stmt → Arguments
  | [.FunctionDef (args := a) ..] => a
  | _ => { posonlyargs := [], args := [], vararg := none, kwonlyargs := [], kw_defaults := [], kwarg := none, defaults := [] }
def scp : List Stmt → Scope
  | [.FunctionDef (scope := s) ..] => s
  | _ => { kind := .function, names := [], isGenerator := false, isCoroutine := false }
def doc (l : List Stmt) : Const := match inn l with
  | .Expr (.Constant c _ _) _ :: _ => c
  | _ => .none
def one : List Stmt → Stmt
  | [s] => s
  | _ => .Pass { line := 0, col := 0, endLine := 0, endCol := 0 }
noncomputable def hd.view_39 : Program := { PySem.Challenge.rw_in0191_01.row.toRowW.prog with main := { PySem.Challenge.rw_in0191_01.row.toRowW.prog.main with body :=
(let_mvar% ?f1 := (fun (x : Stmt) (_ : one (nth PySem.Challenge.pw_in0191_01.main.body 0) = x) => x); ?f1 _ (by conv => lhs; whnf)) ::
(let_mvar% ?f2 := (fun (x : Stmt) (_ : one (nth PySem.Challenge.pw_in0191_01.main.body 1) = x) => x); ?f2 _ (by conv => lhs; whnf)) ::
(let_mvar% ?f3 := (fun (x : Stmt) (_ : one (nth PySem.Challenge.pw_in0191_01.main.body 3) = x) => x); ?f3 _ (by conv => lhs; whnf)) ::
(let_mvar% ?f4 := (fun (x : Stmt) (_ : one (nth PySem.Challenge.pw_in0191_01.main.body 4) = x) => x); ?f4 _ (by conv => lhs; whnf)) ::
(let_mvar% ?f5 := (fun (x : Stmt) (_ : one (nth PySem.Challenge.pw_in0191_01.main.body 5) = x) => x); ?f5 _ (by conv => lhs; whnf)) ::
(let_mvar% ?f6 := (fun (x : Stmt) (_ : one (nth PySem.Challenge.pw_in0191_01.main.body 6) = x) => x); ?f6 _ (by conv => lhs; whnf)) ::
(let_mvar% ?f7 := (fun (x : Stmt) (_ : one (nth PySem.Challenge.pw_in0191_01.main.body 8) = x) => x); ?f7 _ (by conv => lhs; whnf)) ::
(let_mvar% ?f8 := (fun (x : Stmt) (_ : one (nth PySem.Challenge.pw_in0191_01.main.body 9) = x) => x); ?f8 _ (by conv => lhs; whnf)) ::
(let_mvar% ?f9 := (fun (x : Stmt) (_ : one (nth PySem.Challenge.pw_in0191_01.main.body 10) = x) => x); ?f9 _ (by conv => lhs; whnf)) ::
(let_mvar% ?f10 := (fun (x : Stmt) (_ : one (nth PySem.Challenge.pw_in0191_01.main.body 11) = x) => x); ?f10 _ (by conv => lhs; whnf)) ::
(let_mvar% ?f11 := (fun (x : Stmt) (_ : one (nth PySem.Challenge.pw_in0191_01.main.body 12) = x) => x); ?f11 _ (by conv => lhs; whnf)) ::
(let_mvar% ?f12 := (fun (x : Stmt) (_ : one (nth PySem.Challenge.pw_in0191_01.main.body 13) = x) => x); ?f12 _ (by conv => lhs; whnf)) ::
(let_mvar% ?f13 := (fun (x : Stmt) (_ : one (nth PySem.Challenge.pw_in0191_01.main.body 14) = x) => x); ?f13 _ (by conv => lhs; whnf)) ::
(let_mvar% ?f14 := (fun (x : Stmt) (_ : one (nth PySem.Challenge.pw_in0191_01.main.body 15) = x) => x); ?f14 _ (by conv => lhs; whnf)) ::
(let_mvar% ?f15 := (fun (x : Stmt) (_ : one (nth PySem.Challenge.pw_in0191_01.main.body 16) = x) => x); ?f15 _ (by conv => lhs; whnf)) ::
(let_mvar% ?f16 := (fun (x : Stmt) (_ : one (nth PySem.Challenge.pw_in0191_01.main.body 17) = x) => x); ?f16 _ (by conv => lhs; whnf)) ::
(let_mvar% ?f17 := (fun (x : Stmt) (_ : one (nth PySem.Challenge.pw_in0191_01.main.body 18) = x) => x); ?f17 _ (by conv => lhs; whnf)) ::
(let_mvar% ?f18 := (fun (x : Stmt) (_ : one (nth PySem.Challenge.pw_in0191_01.main.body 19) = x) => x); ?f18 _ (by conv => lhs; whnf)) ::
(let_mvar% ?f19 := (fun (x : Stmt) (_ : one (nth PySem.Challenge.pw_in0191_01.main.body 20) = x) => x); ?f19 _ (by conv => lhs; whnf)) ::
(let_mvar% ?f20 := (fun (x : Stmt) (_ : one (nth PySem.Challenge.pw_in0191_01.main.body 21) = x) => x); ?f20 _ (by conv => lhs; whnf)) ::
(let_mvar% ?f21 := (fun (x : Stmt) (_ : one (nth PySem.Challenge.pw_in0191_01.main.body 22) = x) => x); ?f21 _ (by conv => lhs; whnf)) ::
(let_mvar% ?f22 := (fun (x : Stmt) (_ : one (nth PySem.Challenge.pw_in0191_01.main.body 23) = x) => x); ?f22 _ (by conv => lhs; whnf)) ::
(let_mvar% ?f23 := (fun (x : Stmt) (_ : one (nth PySem.Challenge.pw_in0191_01.main.body 24) = x) => x); ?f23 _ (by conv => lhs; whnf)) ::
(let_mvar% ?f24 := (fun (x : Stmt) (_ : one (nth PySem.Challenge.pw_in0191_01.main.body 25) = x) => x); ?f24 _ (by conv => lhs; whnf)) ::
(let_mvar% ?f25 := (fun (x : Stmt) (_ : one (nth PySem.Challenge.pw_in0191_01.main.body 26) = x) => x); ?f25 _ (by conv => lhs; whnf)) ::
(let_mvar% ?f26 := (fun (x : Stmt) (_ : one (nth PySem.Challenge.pw_in0191_01.main.body 27) = x) => x); ?f26 _ (by conv => lhs; whnf)) ::
(let_mvar% ?f27 := (fun (x : Stmt) (_ : one (nth PySem.Challenge.pw_in0191_01.main.body 28) = x) => x); ?f27 _ (by conv => lhs; whnf)) ::
(let_mvar% ?f28 := (fun (x : Stmt) (_ : one (nth PySem.Challenge.pw_in0191_01.main.body 29) = x) => x); ?f28 _ (by conv => lhs; whnf)) ::
(let_mvar% ?f29 := (fun (x : Stmt) (_ : one (nth PySem.Challenge.pw_in0191_01.main.body 30) = x) => x); ?f29 _ (by conv => lhs; whnf)) ::
(let_mvar% ?f30 := (fun (x : Stmt) (_ : one (nth PySem.Challenge.pw_in0191_01.main.body 32) = x) => x); ?f30 _ (by conv => lhs; whnf)) ::
(let_mvar% ?f31 := (fun (x : Stmt) (_ : one (nth PySem.Challenge.pw_in0191_01.main.body 33) = x) => x); ?f31 _ (by conv => lhs; whnf)) ::
(let_mvar% ?f32 := (fun (x : Stmt) (_ : one (nth PySem.Challenge.pw_in0191_01.main.body 34) = x) => x); ?f32 _ (by conv => lhs; whnf)) ::
(let_mvar% ?f33 := (fun (x : Stmt) (_ : one (nth PySem.Challenge.pw_in0191_01.main.body 35) = x) => x); ?f33 _ (by conv => lhs; whnf)) ::
(let_mvar% ?f34 := (fun (x : Stmt) (_ : one (nth PySem.Challenge.pw_in0191_01.main.body 36) = x) => x); ?f34 _ (by conv => lhs; whnf)) ::
(let_mvar% ?f35 := (fun (x : Stmt) (_ : one (nth PySem.Challenge.pw_in0191_01.main.body 37) = x) => x); ?f35 _ (by conv => lhs; whnf)) ::
(let_mvar% ?f36 := (fun (x : Stmt) (_ : one (nth PySem.Challenge.pw_in0191_01.main.body 38) = x) => x); ?f36 _ (by conv => lhs; whnf)) :: [] } }
noncomputable def hd.heap_39 : Params → Frag :=
fun P => (nat_lit 2, { cls := Value.none, data := Data.dict (List.toArray ({ hash := PyData.keyHash P (Str.ofString "\x69mport.loaded._collections"), key := Value.str (Str.ofString "\x69mport.loaded._collections") 185, val := Value.bool true } :: { hash := PyData.keyHash P (Str.ofString "class._frozen_importlib.BuiltinImporter"), key := Value.str (Str.ofString "class._frozen_importlib.BuiltinImporter") 187, val := Value.ref 15 } :: { hash := PyData.keyHash P (Str.ofString "watched.\x69mport"), key := Value.str (Str.ofString "watched.\x69mport") 208, val := Value.ref 19 } :: { hash := PyData.keyHash P (Str.ofString "class._frozen_importlib.ModuleSpec"), key := Value.str (Str.ofString "class._frozen_importlib.ModuleSpec") 218, val := Value.ref 23 } :: { hash := PyData.keyHash P (Str.ofString "sys.modules.booked-epoch"), key := Value.str (Str.ofString "sys.modules.booked-epoch") 247, val := Value.int 3 0 } :: { hash := PyData.keyHash P (Str.ofString "sys.modules.landed._collections"), key := Value.str (Str.ofString "sys.modules.landed._collections") 248, val := Value.bool true } :: { hash := PyData.keyHash P (Str.ofString "\x69mport.later-laid._collections"), key := Value.str (Str.ofString "\x69mport.later-laid._collections") 263, val := Value.bool true } :: { hash := PyData.keyHash P (Str.ofString "watched.library"), key := Value.str (Str.ofString "watched.library") 265, val := Value.ref 28 } :: { hash := PyData.keyHash P (Str.ofString "watched.library-objects"), key := Value.str (Str.ofString "watched.library-objects") 0, val := Value.str (Str.ofString "\x0d") 0 } :: { hash := PyData.keyHash P (Str.ofString "watched.library-deep._collections"), key := Value.str (Str.ofString "watched.library-deep._collections") 266, val := Value.str (Str.ofString "\x04\x00\x00\x0c\x04\x00\x00\x0c\x04\x00\x00\x03\x04\x00\x00\x0c\x08\x04dict\x02") 0 } :: { hash := PyData.keyHash P (Str.ofString "type.__subclasses__.collections.defaultdict.0"), key := Value.str (Str.ofString "type.__subclasses__.collections.defaultdict.0") 384, val := Value.int 108 0 } :: { hash := PyData.keyHash P (Str.ofString "type.__subclasses__.collections.defaultdict.n"), key := Value.str (Str.ofString "type.__subclasses__.collections.defaultdict.n") 385, val := Value.int 1 0 } :: [])) 12 }) ::
(nat_lit 3, { cls := Value.type "dict", data := Data.dict (List.toArray ({ hash := PyData.keyHash P (Str.ofString "__name__"), key := Value.str (Str.ofString "__name__") 165, val := Value.str (Str.ofString "law_in0191_01") 636 } :: { hash := PyData.keyHash P (Str.ofString "__doc__"), key := Value.str (Str.ofString "__doc__") 166, val := Value.none } :: { hash := PyData.keyHash P (Str.ofString "__package__"), key := Value.str (Str.ofString "__package__") 167, val := Value.none } :: { hash := PyData.keyHash P (Str.ofString "__loader__"), key := Value.str (Str.ofString "__loader__") 168, val := Value.builtin "__main__.__loader__#opaque" } :: { hash := PyData.keyHash P (Str.ofString "__spec__"), key := Value.str (Str.ofString "__spec__") 169, val := Value.none } :: { hash := PyData.keyHash P (Str.ofString "__annotations__"), key := Value.str (Str.ofString "__annotations__") 170, val := Value.ref 6 } :: { hash := PyData.keyHash P (Str.ofString "__builtins__"), key := Value.str (Str.ofString "__builtins__") 171, val := Value.ref 4 } :: { hash := PyData.keyHash P (Str.ofString "__file__"), key := Value.str (Str.ofString "__file__") 173, val := Value.str (Str.ofString "/claim/cut.py") 172 } :: { hash := PyData.keyHash P (Str.ofString "__cached__"), key := Value.str (Str.ofString "__cached__") 174, val := Value.none } :: { hash := PyData.keyHash P (Str.ofString "defaultdict"), key := Value.str (Str.ofString "defaultdict") 272, val := Value.type "collections.defaultdict" } :: { hash := PyData.keyHash P (Str.ofString "_wall"), key := Value.str (Str.ofString "_wall") 285, val := Value.ref 39 } :: { hash := PyData.keyHash P (Str.ofString "_tuplegetter"), key := Value.str (Str.ofString "_tuplegetter") 344, val := Value.ref 78 } :: { hash := PyData.keyHash P (Str.ofString "FreezableDefaultDict"), key := Value.str (Str.ofString "FreezableDefaultDict") 387, val := Value.ref 108 } :: { hash := PyData.keyHash P (Str.ofString "Pair"), key := Value.str (Str.ofString "Pair") 502, val := Value.ref 203 } :: { hash := PyData.keyHash P (Str.ofString "S_IMODE"), key := Value.str (Str.ofString "S_IMODE") 550, val := Value.ref 213 } :: { hash := PyData.keyHash P (Str.ofString "S_IFMT"), key := Value.str (Str.ofString "S_IFMT") 558, val := Value.ref 220 } :: { hash := PyData.keyHash P (Str.ofString "S_IFDIR"), key := Value.str (Str.ofString "S_IFDIR") 560, val := Value.int 16384 559 } :: { hash := PyData.keyHash P (Str.ofString "S_IFCHR"), key := Value.str (Str.ofString "S_IFCHR") 562, val := Value.int 8192 561 } :: { hash := PyData.keyHash P (Str.ofString "S_IFBLK"), key := Value.str (Str.ofString "S_IFBLK") 564, val := Value.int 24576 563 } :: { hash := PyData.keyHash P (Str.ofString "S_IFREG"), key := Value.str (Str.ofString "S_IFREG") 566, val := Value.int 32768 565 } :: { hash := PyData.keyHash P (Str.ofString "S_IFIFO"), key := Value.str (Str.ofString "S_IFIFO") 568, val := Value.int 4096 567 } :: { hash := PyData.keyHash P (Str.ofString "S_IFLNK"), key := Value.str (Str.ofString "S_IFLNK") 570, val := Value.int 40960 569 } :: { hash := PyData.keyHash P (Str.ofString "S_IFSOCK"), key := Value.str (Str.ofString "S_IFSOCK") 572, val := Value.int 49152 571 } :: { hash := PyData.keyHash P (Str.ofString "S_ISUID"), key := Value.str (Str.ofString "S_ISUID") 574, val := Value.int 2048 573 } :: { hash := PyData.keyHash P (Str.ofString "S_ISGID"), key := Value.str (Str.ofString "S_ISGID") 576, val := Value.int 1024 575 } :: { hash := PyData.keyHash P (Str.ofString "S_ISVTX"), key := Value.str (Str.ofString "S_ISVTX") 578, val := Value.int 512 577 } :: { hash := PyData.keyHash P (Str.ofString "S_IRUSR"), key := Value.str (Str.ofString "S_IRUSR") 580, val := Value.int 256 579 } :: { hash := PyData.keyHash P (Str.ofString "S_IWUSR"), key := Value.str (Str.ofString "S_IWUSR") 582, val := Value.int 128 581 } :: { hash := PyData.keyHash P (Str.ofString "S_IXUSR"), key := Value.str (Str.ofString "S_IXUSR") 584, val := Value.int 64 583 } :: { hash := PyData.keyHash P (Str.ofString "S_IRGRP"), key := Value.str (Str.ofString "S_IRGRP") 586, val := Value.int 32 585 } :: { hash := PyData.keyHash P (Str.ofString "S_IWGRP"), key := Value.str (Str.ofString "S_IWGRP") 588, val := Value.int 16 587 } :: { hash := PyData.keyHash P (Str.ofString "S_IXGRP"), key := Value.str (Str.ofString "S_IXGRP") 590, val := Value.int 8 589 } :: { hash := PyData.keyHash P (Str.ofString "S_IROTH"), key := Value.str (Str.ofString "S_IROTH") 592, val := Value.int 4 591 } :: { hash := PyData.keyHash P (Str.ofString "S_IWOTH"), key := Value.str (Str.ofString "S_IWOTH") 594, val := Value.int 2 593 } :: { hash := PyData.keyHash P (Str.ofString "S_IXOTH"), key := Value.str (Str.ofString "S_IXOTH") 596, val := Value.int 1 595 } :: { hash := PyData.keyHash P (Str.ofString "_filemode_table"), key := Value.str (Str.ofString "_filemode_table") 622, val := Value.ref 253 } :: { hash := PyData.keyHash P (Str.ofString "filemode"), key := Value.str (Str.ofString "filemode") 635, val := Value.ref 260 } :: { hash := PyData.keyHash P (Str.ofString "_law_signs"), key := Value.str (Str.ofString "_law_signs") 649, val := Value.ref 267 } :: { hash := PyData.keyHash P (Str.ofString "_law_name"), key := Value.str (Str.ofString "_law_name") 656, val := Value.ref 274 } :: { hash := PyData.keyHash P (Str.ofString "_law_run"), key := Value.str (Str.ofString "_law_run") 662, val := Value.ref 279 } :: { hash := PyData.keyHash P (Str.ofString "_law_put"), key := Value.str (Str.ofString "_law_put") 673, val := Value.ref 286 } :: { hash := PyData.keyHash P (Str.ofString "_law_found"), key := Value.str (Str.ofString "_law_found") 682, val := Value.ref 293 } :: { hash := PyData.keyHash P (Str.ofString "_law_due"), key := Value.str (Str.ofString "_law_due") 688, val := Value.ref 298 } :: { hash := PyData.keyHash P (Str.ofString "law"), key := Value.str (Str.ofString "law") 694, val := Value.ref 303 } :: [])) 44 }) ::
(nat_lit 33, { cls := Value.type "tuple", data := Data.seq #[] }) ::
(nat_lit 35, { cls := Value.type "tuple", data := Data.seq #[Value.str (Str.ofString "k") 282] }) ::
(nat_lit 36, { cls := Value.type "tuple", data := Data.seq #[] }) ::
(nat_lit 38, { cls := Value.type "code", data := Data.fields (List.toArray (Value.str (Str.ofString "_wall") 279 :: Value.str (Str.ofString "_wall") 280 :: Value.str (Str.ofString "/claim/cut.py") 281 :: Value.int 2 0 :: Value.int 1 0 :: Value.int 0 0 :: Value.int 0 0 :: Value.int 3 0 :: Value.ref 33 :: Value.bool true :: Value.int 273 0 :: Value.ref 34 :: Value.none :: Value.ref 35 :: Value.ref 36 :: Value.ref 37 :: Value.int 283 0 :: Value.int 2 0 :: Value.str (Str.ofString "/claim/cut.py") 284 :: [])) }) ::
(nat_lit 39, { cls := Value.type "function", data := Data.func { name := Str.ofString "_wall", qualname := Str.ofString "_wall", params := (let_mvar% ?f37 := (fun (x : Arguments) (_ : prm (nth PySem.Challenge.pw_in0191_01.main.body 1) = x) => x); ?f37 _ (by conv => lhs; whnf)), body := FuncBody.stmts (let_mvar% ?f38 := (fun (x : List Stmt) (_ : inn (nth PySem.Challenge.pw_in0191_01.main.body 1) = x) => x); ?f38 _ (by conv => lhs; whnf)), scope := (let_mvar% ?f39 := (fun (x : Scope) (_ : scp (nth PySem.Challenge.pw_in0191_01.main.body 1) = x) => x); ?f39 _ (by conv => lhs; whnf)), globals := 3, closure := [], defaults := Value.none, kwdefaults := Value.none, pyModule := Value.str (Str.ofString "__main__") 164, code := Value.ref 38 } }) ::
(nat_lit 47, { cls := Value.type "tuple", data := Data.seq #[] }) ::
(nat_lit 49, { cls := Value.type "tuple", data := Data.seq #[Value.str (Str.ofString "self") 303, Value.str (Str.ofString "index") 304, Value.str (Str.ofString "doc") 305] }) ::
(nat_lit 50, { cls := Value.type "tuple", data := Data.seq #[] }) ::
(nat_lit 52, { cls := Value.type "code", data := Data.fields (List.toArray (Value.str (Str.ofString "__init__") 300 :: Value.str (Str.ofString "_tuplegetter.__init__") 301 :: Value.str (Str.ofString "/claim/cut.py") 302 :: Value.int 8 0 :: Value.int 3 0 :: Value.int 0 0 :: Value.int 0 0 :: Value.int 3 0 :: Value.ref 47 :: Value.bool true :: Value.int 273 0 :: Value.ref 48 :: Value.none :: Value.ref 49 :: Value.ref 50 :: Value.ref 51 :: Value.int 306 0 :: Value.int 8 0 :: Value.str (Str.ofString "/claim/cut.py") 307 :: [])) }) ::
(nat_lit 53, { cls := Value.type "function", data := Data.func { name := Str.ofString "__init__", qualname := Str.ofString "_tuplegetter.__init__", params := (let_mvar% ?f40 := (fun (x : Arguments) (_ : prm (nth (inn (nth PySem.Challenge.pw_in0191_01.main.body 3)) 0) = x) => x); ?f40 _ (by conv => lhs; whnf)), body := FuncBody.stmts (let_mvar% ?f41 := (fun (x : List Stmt) (_ : inn (nth (inn (nth PySem.Challenge.pw_in0191_01.main.body 3)) 0) = x) => x); ?f41 _ (by conv => lhs; whnf)), scope := (let_mvar% ?f42 := (fun (x : Scope) (_ : scp (nth (inn (nth PySem.Challenge.pw_in0191_01.main.body 3)) 0) = x) => x); ?f42 _ (by conv => lhs; whnf)), globals := 3, closure := [], defaults := Value.none, kwdefaults := Value.none, pyModule := Value.str (Str.ofString "cpy313.importlib.metadata._collections") 286, code := Value.ref 52 } }) ::
(nat_lit 54, { cls := Value.type "tuple", data := Data.seq #[Value.none] }) ::
(nat_lit 55, { cls := Value.type "tuple", data := Data.seq #[] }) ::
(nat_lit 57, { cls := Value.type "tuple", data := Data.seq #[Value.str (Str.ofString "self") 312, Value.str (Str.ofString "obj") 313, Value.str (Str.ofString "objtype") 314] }) ::
(nat_lit 58, { cls := Value.type "tuple", data := Data.seq #[] }) ::
(nat_lit 60, { cls := Value.type "code", data := Data.fields (List.toArray (Value.str (Str.ofString "__get__") 309 :: Value.str (Str.ofString "_tuplegetter.__get__") 310 :: Value.str (Str.ofString "/claim/cut.py") 311 :: Value.int 12 0 :: Value.int 3 0 :: Value.int 0 0 :: Value.int 0 0 :: Value.int 3 0 :: Value.ref 55 :: Value.bool true :: Value.int 273 0 :: Value.ref 56 :: Value.none :: Value.ref 57 :: Value.ref 58 :: Value.ref 59 :: Value.int 315 0 :: Value.int 12 0 :: Value.str (Str.ofString "/claim/cut.py") 316 :: [])) }) ::
(nat_lit 61, { cls := Value.type "function", data := Data.func { name := Str.ofString "__get__", qualname := Str.ofString "_tuplegetter.__get__", params := (let_mvar% ?f43 := (fun (x : Arguments) (_ : prm (nth (inn (nth PySem.Challenge.pw_in0191_01.main.body 3)) 1) = x) => x); ?f43 _ (by conv => lhs; whnf)), body := FuncBody.stmts (let_mvar% ?f44 := (fun (x : List Stmt) (_ : inn (nth (inn (nth PySem.Challenge.pw_in0191_01.main.body 3)) 1) = x) => x); ?f44 _ (by conv => lhs; whnf)), scope := (let_mvar% ?f45 := (fun (x : Scope) (_ : scp (nth (inn (nth PySem.Challenge.pw_in0191_01.main.body 3)) 1) = x) => x); ?f45 _ (by conv => lhs; whnf)), globals := 3, closure := [], defaults := Value.ref 54, kwdefaults := Value.none, pyModule := Value.str (Str.ofString "cpy313.importlib.metadata._collections") 286, code := Value.ref 60 } }) ::
(nat_lit 62, { cls := Value.type "tuple", data := Data.seq #[] }) ::
(nat_lit 64, { cls := Value.type "tuple", data := Data.seq #[Value.str (Str.ofString "self") 321, Value.str (Str.ofString "obj") 322, Value.str (Str.ofString "value") 323] }) ::
(nat_lit 65, { cls := Value.type "tuple", data := Data.seq #[] }) ::
(nat_lit 67, { cls := Value.type "code", data := Data.fields (List.toArray (Value.str (Str.ofString "__set__") 318 :: Value.str (Str.ofString "_tuplegetter.__set__") 319 :: Value.str (Str.ofString "/claim/cut.py") 320 :: Value.int 19 0 :: Value.int 3 0 :: Value.int 0 0 :: Value.int 0 0 :: Value.int 3 0 :: Value.ref 62 :: Value.bool true :: Value.int 273 0 :: Value.ref 63 :: Value.none :: Value.ref 64 :: Value.ref 65 :: Value.ref 66 :: Value.int 324 0 :: Value.int 19 0 :: Value.str (Str.ofString "/claim/cut.py") 325 :: [])) }) ::
(nat_lit 68, { cls := Value.type "function", data := Data.func { name := Str.ofString "__set__", qualname := Str.ofString "_tuplegetter.__set__", params := (let_mvar% ?f46 := (fun (x : Arguments) (_ : prm (nth (inn (nth PySem.Challenge.pw_in0191_01.main.body 3)) 2) = x) => x); ?f46 _ (by conv => lhs; whnf)), body := FuncBody.stmts (let_mvar% ?f47 := (fun (x : List Stmt) (_ : inn (nth (inn (nth PySem.Challenge.pw_in0191_01.main.body 3)) 2) = x) => x); ?f47 _ (by conv => lhs; whnf)), scope := (let_mvar% ?f48 := (fun (x : Scope) (_ : scp (nth (inn (nth PySem.Challenge.pw_in0191_01.main.body 3)) 2) = x) => x); ?f48 _ (by conv => lhs; whnf)), globals := 3, closure := [], defaults := Value.none, kwdefaults := Value.none, pyModule := Value.str (Str.ofString "cpy313.importlib.metadata._collections") 286, code := Value.ref 67 } }) ::
(nat_lit 69, { cls := Value.type "tuple", data := Data.seq #[] }) ::
(nat_lit 71, { cls := Value.type "tuple", data := Data.seq #[Value.str (Str.ofString "self") 330, Value.str (Str.ofString "obj") 331] }) ::
(nat_lit 72, { cls := Value.type "tuple", data := Data.seq #[] }) ::
(nat_lit 74, { cls := Value.type "code", data := Data.fields (List.toArray (Value.str (Str.ofString "__delete__") 327 :: Value.str (Str.ofString "_tuplegetter.__delete__") 328 :: Value.str (Str.ofString "/claim/cut.py") 329 :: Value.int 22 0 :: Value.int 2 0 :: Value.int 0 0 :: Value.int 0 0 :: Value.int 3 0 :: Value.ref 69 :: Value.bool true :: Value.int 273 0 :: Value.ref 70 :: Value.none :: Value.ref 71 :: Value.ref 72 :: Value.ref 73 :: Value.int 332 0 :: Value.int 22 0 :: Value.str (Str.ofString "/claim/cut.py") 333 :: [])) }) ::
(nat_lit 75, { cls := Value.type "function", data := Data.func { name := Str.ofString "__delete__", qualname := Str.ofString "_tuplegetter.__delete__", params := (let_mvar% ?f49 := (fun (x : Arguments) (_ : prm (nth (inn (nth PySem.Challenge.pw_in0191_01.main.body 3)) 3) = x) => x); ?f49 _ (by conv => lhs; whnf)), body := FuncBody.stmts (let_mvar% ?f50 := (fun (x : List Stmt) (_ : inn (nth (inn (nth PySem.Challenge.pw_in0191_01.main.body 3)) 3) = x) => x); ?f50 _ (by conv => lhs; whnf)), scope := (let_mvar% ?f51 := (fun (x : Scope) (_ : scp (nth (inn (nth PySem.Challenge.pw_in0191_01.main.body 3)) 3) = x) => x); ?f51 _ (by conv => lhs; whnf)), globals := 3, closure := [], defaults := Value.none, kwdefaults := Value.none, pyModule := Value.str (Str.ofString "cpy313.importlib.metadata._collections") 286, code := Value.ref 74 } }) ::
(nat_lit 76, { cls := Value.type "tuple", data := Data.seq #[Value.str (Str.ofString "__doc__") 335, Value.str (Str.ofString "index") 336] }) ::
(nat_lit 77, { cls := Value.type "dict", data := Data.dict (List.toArray ({ hash := PyData.keyHash P (Str.ofString "__module__"), key := Value.str (Str.ofString "__module__") 295, val := Value.str (Str.ofString "cpy313.importlib.metadata._collections") 286 } :: { hash := PyData.keyHash P (Str.ofString "__firstlineno__"), key := Value.str (Str.ofString "__firstlineno__") 299, val := Value.int 6 298 } :: { hash := PyData.keyHash P (Str.ofString "__init__"), key := Value.str (Str.ofString "__init__") 308, val := Value.ref 53 } :: { hash := PyData.keyHash P (Str.ofString "__get__"), key := Value.str (Str.ofString "__get__") 317, val := Value.ref 61 } :: { hash := PyData.keyHash P (Str.ofString "__set__"), key := Value.str (Str.ofString "__set__") 326, val := Value.ref 68 } :: { hash := PyData.keyHash P (Str.ofString "__delete__"), key := Value.str (Str.ofString "__delete__") 334, val := Value.ref 75 } :: { hash := PyData.keyHash P (Str.ofString "__static_attributes__"), key := Value.str (Str.ofString "__static_attributes__") 337, val := Value.ref 76 } :: { hash := PyData.keyHash P (Str.ofString "__dict__"), key := Value.str (Str.ofString "__dict__") 339, val := Value.ref 79 } :: { hash := PyData.keyHash P (Str.ofString "__weakref__"), key := Value.str (Str.ofString "__weakref__") 341, val := Value.ref 80 } :: { hash := PyData.keyHash P (Str.ofString "__doc__"), key := Value.str (Str.ofString "__doc__") 342, val := Value.none } :: [])) 4 }) ::
(nat_lit 78, { cls := Value.type "type", data := Data.cls { name := Str.ofString "_tuplegetter", bases := [Value.type "object"], mro := [Value.ref 78, Value.type "object"], ns := 77, qualname := Str.ofString "_tuplegetter" }, slots := #[none, none, some (Value.str (Str.ofString "_tuplegetter") 288), some (Value.str (Str.ofString "_tuplegetter") 296), some (Value.builtin "object.__new__"), some (Value.bool true)] }) ::
(nat_lit 79, { cls := Value.type "getset_descriptor", data := Data.fields #[Value.str (Str.ofString "__dict__") 338, Value.ref 78, Value.builtin "function.__dict__", Value.builtin "function.__dict__#set"] }) ::
(nat_lit 80, { cls := Value.type "getset_descriptor", data := Data.fields #[Value.str (Str.ofString "__weakref__") 340, Value.ref 78, Value.builtin "ExceptionGroup.__weakref__", Value.none] }) ::
(nat_lit 83, { cls := Value.type "tuple", data := Data.seq #[Value.type "collections.defaultdict"] }) ::
(nat_lit 86, { cls := Value.type "cell", data := Data.cell (some (Value.ref 108)) }) ::
(nat_lit 91, { cls := Value.type "tuple", data := Data.seq #[Value.ref 86] }) ::
(nat_lit 92, { cls := Value.type "tuple", data := Data.seq #[Value.str (Str.ofString "__class__") 363] }) ::
(nat_lit 94, { cls := Value.type "tuple", data := Data.seq #[Value.str (Str.ofString "self") 364, Value.str (Str.ofString "key") 365] }) ::
(nat_lit 95, { cls := Value.type "tuple", data := Data.seq #[] }) ::
(nat_lit 97, { cls := Value.type "code", data := Data.fields (List.toArray (Value.str (Str.ofString "__missing__") 360 :: Value.str (Str.ofString "FreezableDefaultDict.__missing__") 361 :: Value.str (Str.ofString "/claim/cut.py") 362 :: Value.int 39 0 :: Value.int 2 0 :: Value.int 0 0 :: Value.int 0 0 :: Value.int 3 0 :: Value.ref 92 :: Value.bool true :: Value.int 273 0 :: Value.ref 93 :: Value.none :: Value.ref 94 :: Value.ref 95 :: Value.ref 96 :: Value.int 366 0 :: Value.int 39 0 :: Value.str (Str.ofString "/claim/cut.py") 367 :: [])) }) ::
(nat_lit 98, { cls := Value.type "function", data := Data.func { name := Str.ofString "__missing__", qualname := Str.ofString "FreezableDefaultDict.__missing__", params := (let_mvar% ?f52 := (fun (x : Arguments) (_ : prm (nth (inn (nth PySem.Challenge.pw_in0191_01.main.body 4)) 1) = x) => x); ?f52 _ (by conv => lhs; whnf)), body := FuncBody.stmts (let_mvar% ?f53 := (fun (x : List Stmt) (_ : inn (nth (inn (nth PySem.Challenge.pw_in0191_01.main.body 4)) 1) = x) => x); ?f53 _ (by conv => lhs; whnf)), scope := (let_mvar% ?f54 := (fun (x : Scope) (_ : scp (nth (inn (nth PySem.Challenge.pw_in0191_01.main.body 4)) 1) = x) => x); ?f54 _ (by conv => lhs; whnf)), globals := 3, closure := [(Str.ofString "__class__", 86)], defaults := Value.none, kwdefaults := Value.none, pyModule := Value.str (Str.ofString "cpy313.importlib.metadata._collections") 286, code := Value.ref 97, closureTuple := Value.ref 91 } }) ::
(nat_lit 99, { cls := Value.type "tuple", data := Data.seq #[] }) ::
(nat_lit 101, { cls := Value.type "tuple", data := Data.seq #[Value.str (Str.ofString "self") 372] }) ::
(nat_lit 102, { cls := Value.type "tuple", data := Data.seq #[Value.str (Str.ofString "self") 373] }) ::
(nat_lit 104, { cls := Value.type "code", data := Data.fields (List.toArray (Value.str (Str.ofString "freeze") 369 :: Value.str (Str.ofString "FreezableDefaultDict.freeze") 370 :: Value.str (Str.ofString "/claim/cut.py") 371 :: Value.int 42 0 :: Value.int 1 0 :: Value.int 0 0 :: Value.int 0 0 :: Value.int 3 0 :: Value.ref 99 :: Value.bool true :: Value.int 273 0 :: Value.ref 100 :: Value.none :: Value.ref 101 :: Value.ref 102 :: Value.ref 103 :: Value.int 374 0 :: Value.int 42 0 :: Value.str (Str.ofString "/claim/cut.py") 375 :: [])) }) ::
(nat_lit 105, { cls := Value.type "function", data := Data.func { name := Str.ofString "freeze", qualname := Str.ofString "FreezableDefaultDict.freeze", params := (let_mvar% ?f55 := (fun (x : Arguments) (_ : prm (nth (inn (nth PySem.Challenge.pw_in0191_01.main.body 4)) 2) = x) => x); ?f55 _ (by conv => lhs; whnf)), body := FuncBody.stmts (let_mvar% ?f56 := (fun (x : List Stmt) (_ : inn (nth (inn (nth PySem.Challenge.pw_in0191_01.main.body 4)) 2) = x) => x); ?f56 _ (by conv => lhs; whnf)), scope := (let_mvar% ?f57 := (fun (x : Scope) (_ : scp (nth (inn (nth PySem.Challenge.pw_in0191_01.main.body 4)) 2) = x) => x); ?f57 _ (by conv => lhs; whnf)), globals := 3, closure := [], defaults := Value.none, kwdefaults := Value.none, pyModule := Value.str (Str.ofString "cpy313.importlib.metadata._collections") 286, code := Value.ref 104 } }) ::
(nat_lit 106, { cls := Value.type "tuple", data := Data.seq #[Value.str (Str.ofString "_frozen") 377] }) ::
(nat_lit 107, { cls := Value.type "dict", data := Data.dict (List.toArray ({ hash := PyData.keyHash P (Str.ofString "__module__"), key := Value.str (Str.ofString "__module__") 352, val := Value.str (Str.ofString "cpy313.importlib.metadata._collections") 286 } :: { hash := PyData.keyHash P (Str.ofString "__firstlineno__"), key := Value.str (Str.ofString "__firstlineno__") 356, val := Value.int 24 355 } :: { hash := PyData.keyHash P (Str.ofString "__doc__"), key := Value.str (Str.ofString "__doc__") 358, val := Value.str ((let_mvar% ?f109 := (fun (x : Str) (_ : doc (nth PySem.Challenge.pw_in0191_01.main.body 4) = Const.str x) => x); ?f109 _ (by conv => lhs; whnf))) 357 } :: { hash := PyData.keyHash P (Str.ofString "__missing__"), key := Value.str (Str.ofString "__missing__") 368, val := Value.ref 98 } :: { hash := PyData.keyHash P (Str.ofString "freeze"), key := Value.str (Str.ofString "freeze") 376, val := Value.ref 105 } :: { hash := PyData.keyHash P (Str.ofString "__static_attributes__"), key := Value.str (Str.ofString "__static_attributes__") 378, val := Value.ref 106 } :: { hash := PyData.keyHash P (Str.ofString "__dict__"), key := Value.str (Str.ofString "__dict__") 381, val := Value.ref 109 } :: { hash := PyData.keyHash P (Str.ofString "__weakref__"), key := Value.str (Str.ofString "__weakref__") 383, val := Value.ref 110 } :: [])) 4 }) ::
(nat_lit 108, { cls := Value.type "type", data := Data.cls { name := Str.ofString "FreezableDefaultDict", bases := [Value.type "collections.defaultdict"], mro := [Value.ref 108, Value.type "collections.defaultdict", Value.type "dict", Value.type "object"], ns := 107, qualname := Str.ofString "FreezableDefaultDict", slotNames := [Str.ofString ""] }, slots := #[some (Value.ref 83), none, some (Value.str (Str.ofString "FreezableDefaultDict") 345), some (Value.str (Str.ofString "FreezableDefaultDict") 353), some (Value.builtin "dict.__new__"), some (Value.bool true)] }) ::
(nat_lit 109, { cls := Value.type "getset_descriptor", data := Data.fields #[Value.str (Str.ofString "__dict__") 380, Value.ref 108, Value.builtin "function.__dict__", Value.builtin "function.__dict__#set"] }) ::
(nat_lit 110, { cls := Value.type "getset_descriptor", data := Data.fields #[Value.str (Str.ofString "__weakref__") 382, Value.ref 108, Value.builtin "ExceptionGroup.__weakref__", Value.none] }) ::
(nat_lit 113, { cls := Value.type "tuple", data := Data.seq #[Value.type "tuple"] }) ::
(nat_lit 116, { cls := Value.type "cell", data := Data.cell (some (Value.ref 180)) }) ::
(nat_lit 121, { cls := Value.type "tuple", data := Data.seq #[] }) ::
(nat_lit 122, { cls := Value.type "tuple", data := Data.seq #[Value.str (Str.ofString "name") 404, Value.str (Str.ofString "value") 405] }) ::
(nat_lit 123, { cls := Value.type "dict", data := Data.dict #[] }) ::
(nat_lit 124, { cls := Value.type "tuple", data := Data.seq #[] }) ::
(nat_lit 126, { cls := Value.type "tuple", data := Data.seq #[Value.str (Str.ofString "_cls") 411, Value.str (Str.ofString "name") 412, Value.str (Str.ofString "value") 413] }) ::
(nat_lit 127, { cls := Value.type "tuple", data := Data.seq #[] }) ::
(nat_lit 129, { cls := Value.type "code", data := Data.fields (List.toArray (Value.str (Str.ofString "__new__") 408 :: Value.str (Str.ofString "Pair.__new__") 409 :: Value.str (Str.ofString "/claim/cut.py") 410 :: Value.int 50 0 :: Value.int 3 0 :: Value.int 0 0 :: Value.int 0 0 :: Value.int 3 0 :: Value.ref 124 :: Value.bool true :: Value.int 273 0 :: Value.ref 125 :: Value.none :: Value.ref 126 :: Value.ref 127 :: Value.ref 128 :: Value.int 414 0 :: Value.int 50 0 :: Value.str (Str.ofString "/claim/cut.py") 415 :: [])) }) ::
(nat_lit 130, { cls := Value.type "function", data := Data.func { name := Str.ofString "__new__", qualname := Str.ofString "Pair.__new__", params := (let_mvar% ?f58 := (fun (x : Arguments) (_ : prm (nth (inn (nth PySem.Challenge.pw_in0191_01.main.body 5)) 4) = x) => x); ?f58 _ (by conv => lhs; whnf)), body := FuncBody.stmts (let_mvar% ?f59 := (fun (x : List Stmt) (_ : inn (nth (inn (nth PySem.Challenge.pw_in0191_01.main.body 5)) 4) = x) => x); ?f59 _ (by conv => lhs; whnf)), scope := (let_mvar% ?f60 := (fun (x : Scope) (_ : scp (nth (inn (nth PySem.Challenge.pw_in0191_01.main.body 5)) 4) = x) => x); ?f60 _ (by conv => lhs; whnf)), globals := 3, closure := [], defaults := Value.none, kwdefaults := Value.none, doc := Value.str ((let_mvar% ?f110 := (fun (x : Str) (_ : doc (nth (inn (nth PySem.Challenge.pw_in0191_01.main.body 5)) 4) = Const.str x) => x); ?f110 _ (by conv => lhs; whnf))) 416, pyModule := Value.str (Str.ofString "cpy313.importlib.metadata._collections") 286, code := Value.ref 129 } }) ::
(nat_lit 131, { cls := Value.type "tuple", data := Data.seq #[] }) ::
(nat_lit 133, { cls := Value.type "tuple", data := Data.seq #[Value.str (Str.ofString "cls") 421, Value.str (Str.ofString "iterable") 422, Value.str (Str.ofString "result") 423] }) ::
(nat_lit 134, { cls := Value.type "tuple", data := Data.seq #[] }) ::
(nat_lit 136, { cls := Value.type "code", data := Data.fields (List.toArray (Value.str (Str.ofString "_make") 418 :: Value.str (Str.ofString "Pair._make") 419 :: Value.str (Str.ofString "/claim/cut.py") 420 :: Value.int 54 0 :: Value.int 2 0 :: Value.int 0 0 :: Value.int 0 0 :: Value.int 3 0 :: Value.ref 131 :: Value.bool true :: Value.int 273 0 :: Value.ref 132 :: Value.none :: Value.ref 133 :: Value.ref 134 :: Value.ref 135 :: Value.int 424 0 :: Value.int 54 0 :: Value.str (Str.ofString "/claim/cut.py") 425 :: [])) }) ::
(nat_lit 137, { cls := Value.type "function", data := Data.func { name := Str.ofString "_make", qualname := Str.ofString "Pair._make", params := (let_mvar% ?f61 := (fun (x : Arguments) (_ : prm (nth (inn (nth PySem.Challenge.pw_in0191_01.main.body 5)) 5) = x) => x); ?f61 _ (by conv => lhs; whnf)), body := FuncBody.stmts (let_mvar% ?f62 := (fun (x : List Stmt) (_ : inn (nth (inn (nth PySem.Challenge.pw_in0191_01.main.body 5)) 5) = x) => x); ?f62 _ (by conv => lhs; whnf)), scope := (let_mvar% ?f63 := (fun (x : Scope) (_ : scp (nth (inn (nth PySem.Challenge.pw_in0191_01.main.body 5)) 5) = x) => x); ?f63 _ (by conv => lhs; whnf)), globals := 3, closure := [], defaults := Value.none, kwdefaults := Value.none, doc := Value.str ((let_mvar% ?f111 := (fun (x : Str) (_ : doc (nth (inn (nth PySem.Challenge.pw_in0191_01.main.body 5)) 5) = Const.str x) => x); ?f111 _ (by conv => lhs; whnf))) 426, pyModule := Value.str (Str.ofString "cpy313.importlib.metadata._collections") 286, annotations := some 140, code := Value.ref 136 } }) ::
(nat_lit 138, { cls := Value.type "dict", data := Data.dict #[{ hash := PyData.keyHash P (Str.ofString "__module__"), key := Value.str (Str.ofString "__module__") 428, val := Value.str (Str.ofString "cpy313.importlib.metadata._collections") 286 }, { hash := PyData.keyHash P (Str.ofString "__name__"), key := Value.str (Str.ofString "__name__") 431, val := Value.str (Str.ofString "_make") 430 }, { hash := PyData.keyHash P (Str.ofString "__qualname__"), key := Value.str (Str.ofString "__qualname__") 434, val := Value.str (Str.ofString "Pair._make") 433 }, { hash := PyData.keyHash P (Str.ofString "__doc__"), key := Value.str (Str.ofString "__doc__") 436, val := Value.str ((let_mvar% ?f112 := (fun (x : Str) (_ : doc (nth (inn (nth PySem.Challenge.pw_in0191_01.main.body 5)) 5) = Const.str x) => x); ?f112 _ (by conv => lhs; whnf))) 426 }, { hash := PyData.keyHash P (Str.ofString "__annotations__"), key := Value.str (Str.ofString "__annotations__") 438, val := Value.ref 140 }] 5 }) ::
(nat_lit 139, { cls := Value.type "classmethod", dict := some 138, data := Data.fields #[Value.ref 137, Value.bool false] }) ::
(nat_lit 140, { cls := Value.type "dict", data := Data.dict #[] }) ::
(nat_lit 141, { cls := Value.type "tuple", data := Data.seq #[Value.ref 116] }) ::
(nat_lit 142, { cls := Value.type "tuple", data := Data.seq #[Value.str (Str.ofString "__class__") 443] }) ::
(nat_lit 144, { cls := Value.type "tuple", data := Data.seq #[Value.str (Str.ofString "self") 444, Value.str (Str.ofString "kwds") 445, Value.str (Str.ofString "result") 446] }) ::
(nat_lit 145, { cls := Value.type "tuple", data := Data.seq #[] }) ::
(nat_lit 147, { cls := Value.type "code", data := Data.fields (List.toArray (Value.str (Str.ofString "_replace") 440 :: Value.str (Str.ofString "Pair._replace") 441 :: Value.str (Str.ofString "/claim/cut.py") 442 :: Value.int 62 0 :: Value.int 1 0 :: Value.int 1 0 :: Value.int 0 0 :: Value.int 11 0 :: Value.ref 142 :: Value.bool true :: Value.int 273 0 :: Value.ref 143 :: Value.none :: Value.ref 144 :: Value.ref 145 :: Value.ref 146 :: Value.int 447 0 :: Value.int 62 0 :: Value.str (Str.ofString "/claim/cut.py") 448 :: [])) }) ::
(nat_lit 148, { cls := Value.type "function", data := Data.func { name := Str.ofString "_replace", qualname := Str.ofString "Pair._replace", params := (let_mvar% ?f64 := (fun (x : Arguments) (_ : prm (nth (inn (nth PySem.Challenge.pw_in0191_01.main.body 5)) 6) = x) => x); ?f64 _ (by conv => lhs; whnf)), body := FuncBody.stmts (let_mvar% ?f65 := (fun (x : List Stmt) (_ : inn (nth (inn (nth PySem.Challenge.pw_in0191_01.main.body 5)) 6) = x) => x); ?f65 _ (by conv => lhs; whnf)), scope := (let_mvar% ?f66 := (fun (x : Scope) (_ : scp (nth (inn (nth PySem.Challenge.pw_in0191_01.main.body 5)) 6) = x) => x); ?f66 _ (by conv => lhs; whnf)), globals := 3, closure := [(Str.ofString "__class__", 116)], defaults := Value.none, kwdefaults := Value.none, doc := Value.str ((let_mvar% ?f113 := (fun (x : Str) (_ : doc (nth (inn (nth PySem.Challenge.pw_in0191_01.main.body 5)) 6) = Const.str x) => x); ?f113 _ (by conv => lhs; whnf))) 449, pyModule := Value.str (Str.ofString "cpy313.importlib.metadata._collections") 286, code := Value.ref 147, closureTuple := Value.ref 141 } }) ::
(nat_lit 149, { cls := Value.type "tuple", data := Data.seq #[] }) ::
(nat_lit 151, { cls := Value.type "tuple", data := Data.seq #[Value.str (Str.ofString "self") 455] }) ::
(nat_lit 152, { cls := Value.type "tuple", data := Data.seq #[] }) ::
(nat_lit 154, { cls := Value.type "code", data := Data.fields (List.toArray (Value.str (Str.ofString "__repr__") 452 :: Value.str (Str.ofString "Pair.__repr__") 453 :: Value.str (Str.ofString "/claim/cut.py") 454 :: Value.int 73 0 :: Value.int 1 0 :: Value.int 0 0 :: Value.int 0 0 :: Value.int 3 0 :: Value.ref 149 :: Value.bool true :: Value.int 273 0 :: Value.ref 150 :: Value.none :: Value.ref 151 :: Value.ref 152 :: Value.ref 153 :: Value.int 456 0 :: Value.int 73 0 :: Value.str (Str.ofString "/claim/cut.py") 457 :: [])) }) ::
(nat_lit 155, { cls := Value.type "function", data := Data.func { name := Str.ofString "__repr__", qualname := Str.ofString "Pair.__repr__", params := (let_mvar% ?f67 := (fun (x : Arguments) (_ : prm (nth (inn (nth PySem.Challenge.pw_in0191_01.main.body 5)) 8) = x) => x); ?f67 _ (by conv => lhs; whnf)), body := FuncBody.stmts (let_mvar% ?f68 := (fun (x : List Stmt) (_ : inn (nth (inn (nth PySem.Challenge.pw_in0191_01.main.body 5)) 8) = x) => x); ?f68 _ (by conv => lhs; whnf)), scope := (let_mvar% ?f69 := (fun (x : Scope) (_ : scp (nth (inn (nth PySem.Challenge.pw_in0191_01.main.body 5)) 8) = x) => x); ?f69 _ (by conv => lhs; whnf)), globals := 3, closure := [], defaults := Value.none, kwdefaults := Value.none, doc := Value.str ((let_mvar% ?f114 := (fun (x : Str) (_ : doc (nth (inn (nth PySem.Challenge.pw_in0191_01.main.body 5)) 8) = Const.str x) => x); ?f114 _ (by conv => lhs; whnf))) 458, pyModule := Value.str (Str.ofString "cpy313.importlib.metadata._collections") 286, code := Value.ref 154 } }) ::
(nat_lit 156, { cls := Value.type "tuple", data := Data.seq #[] }) ::
(nat_lit 158, { cls := Value.type "tuple", data := Data.seq #[Value.str (Str.ofString "self") 463] }) ::
(nat_lit 159, { cls := Value.type "tuple", data := Data.seq #[] }) ::
(nat_lit 161, { cls := Value.type "code", data := Data.fields (List.toArray (Value.str (Str.ofString "_asdict") 460 :: Value.str (Str.ofString "Pair._asdict") 461 :: Value.str (Str.ofString "/claim/cut.py") 462 :: Value.int 77 0 :: Value.int 1 0 :: Value.int 0 0 :: Value.int 0 0 :: Value.int 3 0 :: Value.ref 156 :: Value.bool true :: Value.int 273 0 :: Value.ref 157 :: Value.none :: Value.ref 158 :: Value.ref 159 :: Value.ref 160 :: Value.int 464 0 :: Value.int 77 0 :: Value.str (Str.ofString "/claim/cut.py") 465 :: [])) }) ::
(nat_lit 162, { cls := Value.type "function", data := Data.func { name := Str.ofString "_asdict", qualname := Str.ofString "Pair._asdict", params := (let_mvar% ?f70 := (fun (x : Arguments) (_ : prm (nth (inn (nth PySem.Challenge.pw_in0191_01.main.body 5)) 9) = x) => x); ?f70 _ (by conv => lhs; whnf)), body := FuncBody.stmts (let_mvar% ?f71 := (fun (x : List Stmt) (_ : inn (nth (inn (nth PySem.Challenge.pw_in0191_01.main.body 5)) 9) = x) => x); ?f71 _ (by conv => lhs; whnf)), scope := (let_mvar% ?f72 := (fun (x : Scope) (_ : scp (nth (inn (nth PySem.Challenge.pw_in0191_01.main.body 5)) 9) = x) => x); ?f72 _ (by conv => lhs; whnf)), globals := 3, closure := [], defaults := Value.none, kwdefaults := Value.none, pyModule := Value.str (Str.ofString "cpy313.importlib.metadata._collections") 286, code := Value.ref 161 } }) ::
(nat_lit 163, { cls := Value.type "tuple", data := Data.seq #[] }) ::
(nat_lit 165, { cls := Value.type "tuple", data := Data.seq #[Value.str (Str.ofString "self") 470] }) ::
(nat_lit 166, { cls := Value.type "tuple", data := Data.seq #[] }) ::
(nat_lit 168, { cls := Value.type "code", data := Data.fields (List.toArray (Value.str (Str.ofString "__getnewargs__") 467 :: Value.str (Str.ofString "Pair.__getnewargs__") 468 :: Value.str (Str.ofString "/claim/cut.py") 469 :: Value.int 80 0 :: Value.int 1 0 :: Value.int 0 0 :: Value.int 0 0 :: Value.int 3 0 :: Value.ref 163 :: Value.bool true :: Value.int 273 0 :: Value.ref 164 :: Value.none :: Value.ref 165 :: Value.ref 166 :: Value.ref 167 :: Value.int 471 0 :: Value.int 80 0 :: Value.str (Str.ofString "/claim/cut.py") 472 :: [])) }) ::
(nat_lit 169, { cls := Value.type "function", data := Data.func { name := Str.ofString "__getnewargs__", qualname := Str.ofString "Pair.__getnewargs__", params := (let_mvar% ?f73 := (fun (x : Arguments) (_ : prm (nth (inn (nth PySem.Challenge.pw_in0191_01.main.body 5)) 10) = x) => x); ?f73 _ (by conv => lhs; whnf)), body := FuncBody.stmts (let_mvar% ?f74 := (fun (x : List Stmt) (_ : inn (nth (inn (nth PySem.Challenge.pw_in0191_01.main.body 5)) 10) = x) => x); ?f74 _ (by conv => lhs; whnf)), scope := (let_mvar% ?f75 := (fun (x : Scope) (_ : scp (nth (inn (nth PySem.Challenge.pw_in0191_01.main.body 5)) 10) = x) => x); ?f75 _ (by conv => lhs; whnf)), globals := 3, closure := [], defaults := Value.none, kwdefaults := Value.none, doc := Value.str ((let_mvar% ?f115 := (fun (x : Str) (_ : doc (nth (inn (nth PySem.Challenge.pw_in0191_01.main.body 5)) 10) = Const.str x) => x); ?f115 _ (by conv => lhs; whnf))) 473, pyModule := Value.str (Str.ofString "cpy313.importlib.metadata._collections") 286, code := Value.ref 168 } }) ::
(nat_lit 170, { cls := Value.type "tuple", data := Data.seq #[Value.str (Str.ofString "name") 475, Value.str (Str.ofString "value") 476] }) ::
(nat_lit 171, { cls := Value.type "dict", data := Data.dict #[{ hash := PyData.keyHash P (Str.ofString "index"), key := Value.str (Str.ofString "index") 484, val := Value.int 0 478 }, { hash := PyData.keyHash P (Str.ofString "__doc__"), key := Value.str (Str.ofString "__doc__") 486, val := Value.str (Str.ofString "Alias for field number 0") 479 }] 2 }) ::
(nat_lit 172, { cls := Value.ref 78, dict := some 171 }) ::
(nat_lit 174, { cls := Value.type "dict", data := Data.dict #[{ hash := PyData.keyHash P (Str.ofString "index"), key := Value.str (Str.ofString "index") 494, val := Value.int 1 488 }, { hash := PyData.keyHash P (Str.ofString "__doc__"), key := Value.str (Str.ofString "__doc__") 496, val := Value.str (Str.ofString "Alias for field number 1") 489 }] 2 }) ::
(nat_lit 175, { cls := Value.ref 78, dict := some 174 }) ::
(nat_lit 177, { cls := Value.type "tuple", data := Data.seq #[] }) ::
(nat_lit 179, { cls := Value.type "dict", data := Data.dict (List.toArray ({ hash := PyData.keyHash P (Str.ofString "__module__"), key := Value.str (Str.ofString "__module__") 395, val := Value.str (Str.ofString "cpy313.importlib.metadata._collections") 286 } :: { hash := PyData.keyHash P (Str.ofString "__firstlineno__"), key := Value.str (Str.ofString "__firstlineno__") 399, val := Value.int 44 398 } :: { hash := PyData.keyHash P (Str.ofString "__doc__"), key := Value.str (Str.ofString "__doc__") 401, val := Value.str ((let_mvar% ?f116 := (fun (x : Str) (_ : doc (nth PySem.Challenge.pw_in0191_01.main.body 5) = Const.str x) => x); ?f116 _ (by conv => lhs; whnf))) 400 } :: { hash := PyData.keyHash P (Str.ofString "__slots__"), key := Value.str (Str.ofString "__slots__") 403, val := Value.ref 121 } :: { hash := PyData.keyHash P (Str.ofString "_fields"), key := Value.str (Str.ofString "_fields") 406, val := Value.ref 122 } :: { hash := PyData.keyHash P (Str.ofString "_field_defaults"), key := Value.str (Str.ofString "_field_defaults") 407, val := Value.ref 123 } :: { hash := PyData.keyHash P (Str.ofString "__new__"), key := Value.str (Str.ofString "__new__") 417, val := Value.ref 181 } :: { hash := PyData.keyHash P (Str.ofString "_make"), key := Value.str (Str.ofString "_make") 439, val := Value.ref 139 } :: { hash := PyData.keyHash P (Str.ofString "_replace"), key := Value.str (Str.ofString "_replace") 450, val := Value.ref 148 } :: { hash := PyData.keyHash P (Str.ofString "__replace__"), key := Value.str (Str.ofString "__replace__") 451, val := Value.ref 148 } :: { hash := PyData.keyHash P (Str.ofString "__repr__"), key := Value.str (Str.ofString "__repr__") 459, val := Value.ref 155 } :: { hash := PyData.keyHash P (Str.ofString "_asdict"), key := Value.str (Str.ofString "_asdict") 466, val := Value.ref 162 } :: { hash := PyData.keyHash P (Str.ofString "__getnewargs__"), key := Value.str (Str.ofString "__getnewargs__") 474, val := Value.ref 169 } :: { hash := PyData.keyHash P (Str.ofString "__match_args__"), key := Value.str (Str.ofString "__match_args__") 477, val := Value.ref 170 } :: { hash := PyData.keyHash P (Str.ofString "name"), key := Value.str (Str.ofString "name") 487, val := Value.ref 172 } :: { hash := PyData.keyHash P (Str.ofString "value"), key := Value.str (Str.ofString "value") 497, val := Value.ref 175 } :: { hash := PyData.keyHash P (Str.ofString "__static_attributes__"), key := Value.str (Str.ofString "__static_attributes__") 498, val := Value.ref 177 } :: [])) 2 }) ::
(nat_lit 180, { cls := Value.type "type", data := Data.cls { name := Str.ofString "Pair", bases := [Value.type "tuple"], mro := [Value.ref 180, Value.type "tuple", Value.type "object"], ns := 179, qualname := Str.ofString "Pair", hasDict := false, subclasses := [Value.ref 203] }, slots := #[some (Value.ref 113), none, some (Value.str (Str.ofString "Pair") 388), some (Value.str (Str.ofString "Pair") 396), some Value.none, some (Value.bool false)] }) ::
(nat_lit 181, { cls := Value.type "staticmethod", data := Data.fields #[Value.ref 130] }) ::
(nat_lit 184, { cls := Value.type "tuple", data := Data.seq #[Value.ref 180] }) ::
(nat_lit 191, { cls := Value.type "tuple", data := Data.seq #[] }) ::
(nat_lit 193, { cls := Value.type "tuple", data := Data.seq #[Value.str (Str.ofString "cls") 518, Value.str (Str.ofString "text") 519] }) ::
(nat_lit 194, { cls := Value.type "tuple", data := Data.seq #[] }) ::
(nat_lit 196, { cls := Value.type "code", data := Data.fields (List.toArray (Value.str (Str.ofString "parse") 515 :: Value.str (Str.ofString "Pair.parse") 516 :: Value.str (Str.ofString "/claim/cut.py") 517 :: Value.int 88 0 :: Value.int 2 0 :: Value.int 0 0 :: Value.int 0 0 :: Value.int 3 0 :: Value.ref 191 :: Value.bool true :: Value.int 273 0 :: Value.ref 192 :: Value.none :: Value.ref 193 :: Value.ref 194 :: Value.ref 195 :: Value.int 520 0 :: Value.int 88 0 :: Value.str (Str.ofString "/claim/cut.py") 521 :: [])) }) ::
(nat_lit 197, { cls := Value.type "function", data := Data.func { name := Str.ofString "parse", qualname := Str.ofString "Pair.parse", params := (let_mvar% ?f76 := (fun (x : Arguments) (_ : prm (nth (inn (nth PySem.Challenge.pw_in0191_01.main.body 6)) 0) = x) => x); ?f76 _ (by conv => lhs; whnf)), body := FuncBody.stmts (let_mvar% ?f77 := (fun (x : List Stmt) (_ : inn (nth (inn (nth PySem.Challenge.pw_in0191_01.main.body 6)) 0) = x) => x); ?f77 _ (by conv => lhs; whnf)), scope := (let_mvar% ?f78 := (fun (x : Scope) (_ : scp (nth (inn (nth PySem.Challenge.pw_in0191_01.main.body 6)) 0) = x) => x); ?f78 _ (by conv => lhs; whnf)), globals := 3, closure := [], defaults := Value.none, kwdefaults := Value.none, pyModule := Value.str (Str.ofString "cpy313.importlib.metadata._collections") 286, annotations := some 200, code := Value.ref 196 } }) ::
(nat_lit 198, { cls := Value.type "dict", data := Data.dict #[{ hash := PyData.keyHash P (Str.ofString "__module__"), key := Value.str (Str.ofString "__module__") 523, val := Value.str (Str.ofString "cpy313.importlib.metadata._collections") 286 }, { hash := PyData.keyHash P (Str.ofString "__name__"), key := Value.str (Str.ofString "__name__") 526, val := Value.str (Str.ofString "parse") 525 }, { hash := PyData.keyHash P (Str.ofString "__qualname__"), key := Value.str (Str.ofString "__qualname__") 529, val := Value.str (Str.ofString "Pair.parse") 528 }, { hash := PyData.keyHash P (Str.ofString "__doc__"), key := Value.str (Str.ofString "__doc__") 531, val := Value.none }, { hash := PyData.keyHash P (Str.ofString "__annotations__"), key := Value.str (Str.ofString "__annotations__") 533, val := Value.ref 200 }] 5 }) ::
(nat_lit 199, { cls := Value.type "classmethod", dict := some 198, data := Data.fields #[Value.ref 197, Value.bool false] }) ::
(nat_lit 200, { cls := Value.type "dict", data := Data.dict #[] }) ::
(nat_lit 201, { cls := Value.type "tuple", data := Data.seq #[] }) ::
(nat_lit 202, { cls := Value.type "dict", data := Data.dict #[{ hash := PyData.keyHash P (Str.ofString "__module__"), key := Value.str (Str.ofString "__module__") 510, val := Value.str (Str.ofString "cpy313.importlib.metadata._collections") 286 }, { hash := PyData.keyHash P (Str.ofString "__firstlineno__"), key := Value.str (Str.ofString "__firstlineno__") 514, val := Value.int 86 513 }, { hash := PyData.keyHash P (Str.ofString "parse"), key := Value.str (Str.ofString "parse") 534, val := Value.ref 199 }, { hash := PyData.keyHash P (Str.ofString "__static_attributes__"), key := Value.str (Str.ofString "__static_attributes__") 535, val := Value.ref 201 }, { hash := PyData.keyHash P (Str.ofString "__dict__"), key := Value.str (Str.ofString "__dict__") 537, val := Value.ref 204 }, { hash := PyData.keyHash P (Str.ofString "__doc__"), key := Value.str (Str.ofString "__doc__") 538, val := Value.none }] 3 }) ::
(nat_lit 203, { cls := Value.type "type", data := Data.cls { name := Str.ofString "Pair", bases := [Value.ref 180], mro := [Value.ref 203, Value.ref 180, Value.type "tuple", Value.type "object"], ns := 202, qualname := Str.ofString "Pair" }, slots := #[some (Value.ref 184), none, some (Value.str (Str.ofString "Pair") 503), some (Value.str (Str.ofString "Pair") 511), some Value.none, some (Value.bool false)] }) ::
(nat_lit 204, { cls := Value.type "getset_descriptor", data := Data.fields #[Value.str (Str.ofString "__dict__") 536, Value.ref 203, Value.builtin "function.__dict__", Value.builtin "function.__dict__#set"] }) ::
(nat_lit 207, { cls := Value.type "tuple", data := Data.seq #[] }) ::
(nat_lit 209, { cls := Value.type "tuple", data := Data.seq #[Value.str (Str.ofString "mode") 546] }) ::
(nat_lit 210, { cls := Value.type "tuple", data := Data.seq #[] }) ::
(nat_lit 212, { cls := Value.type "code", data := Data.fields (List.toArray (Value.str (Str.ofString "S_IMODE") 543 :: Value.str (Str.ofString "S_IMODE") 544 :: Value.str (Str.ofString "/claim/cut.py") 545 :: Value.int 92 0 :: Value.int 1 0 :: Value.int 0 0 :: Value.int 0 0 :: Value.int 3 0 :: Value.ref 207 :: Value.bool true :: Value.int 273 0 :: Value.ref 208 :: Value.none :: Value.ref 209 :: Value.ref 210 :: Value.ref 211 :: Value.int 547 0 :: Value.int 92 0 :: Value.str (Str.ofString "/claim/cut.py") 548 :: [])) }) ::
(nat_lit 213, { cls := Value.type "function", data := Data.func { name := Str.ofString "S_IMODE", qualname := Str.ofString "S_IMODE", params := (let_mvar% ?f79 := (fun (x : Arguments) (_ : prm (nth PySem.Challenge.pw_in0191_01.main.body 8) = x) => x); ?f79 _ (by conv => lhs; whnf)), body := FuncBody.stmts (let_mvar% ?f80 := (fun (x : List Stmt) (_ : inn (nth PySem.Challenge.pw_in0191_01.main.body 8) = x) => x); ?f80 _ (by conv => lhs; whnf)), scope := (let_mvar% ?f81 := (fun (x : Scope) (_ : scp (nth PySem.Challenge.pw_in0191_01.main.body 8) = x) => x); ?f81 _ (by conv => lhs; whnf)), globals := 3, closure := [], defaults := Value.none, kwdefaults := Value.none, doc := Value.str ((let_mvar% ?f117 := (fun (x : Str) (_ : doc (nth PySem.Challenge.pw_in0191_01.main.body 8) = Const.str x) => x); ?f117 _ (by conv => lhs; whnf))) 549, pyModule := Value.str (Str.ofString "cpy313.stat") 541, code := Value.ref 212 } }) ::
(nat_lit 214, { cls := Value.type "tuple", data := Data.seq #[] }) ::
(nat_lit 216, { cls := Value.type "tuple", data := Data.seq #[Value.str (Str.ofString "mode") 554] }) ::
(nat_lit 217, { cls := Value.type "tuple", data := Data.seq #[] }) ::
(nat_lit 219, { cls := Value.type "code", data := Data.fields (List.toArray (Value.str (Str.ofString "S_IFMT") 551 :: Value.str (Str.ofString "S_IFMT") 552 :: Value.str (Str.ofString "/claim/cut.py") 553 :: Value.int 97 0 :: Value.int 1 0 :: Value.int 0 0 :: Value.int 0 0 :: Value.int 3 0 :: Value.ref 214 :: Value.bool true :: Value.int 273 0 :: Value.ref 215 :: Value.none :: Value.ref 216 :: Value.ref 217 :: Value.ref 218 :: Value.int 555 0 :: Value.int 97 0 :: Value.str (Str.ofString "/claim/cut.py") 556 :: [])) }) ::
(nat_lit 220, { cls := Value.type "function", data := Data.func { name := Str.ofString "S_IFMT", qualname := Str.ofString "S_IFMT", params := (let_mvar% ?f82 := (fun (x : Arguments) (_ : prm (nth PySem.Challenge.pw_in0191_01.main.body 9) = x) => x); ?f82 _ (by conv => lhs; whnf)), body := FuncBody.stmts (let_mvar% ?f83 := (fun (x : List Stmt) (_ : inn (nth PySem.Challenge.pw_in0191_01.main.body 9) = x) => x); ?f83 _ (by conv => lhs; whnf)), scope := (let_mvar% ?f84 := (fun (x : Scope) (_ : scp (nth PySem.Challenge.pw_in0191_01.main.body 8) = x) => x); ?f84 _ (by conv => lhs; whnf)), globals := 3, closure := [], defaults := Value.none, kwdefaults := Value.none, doc := Value.str ((let_mvar% ?f118 := (fun (x : Str) (_ : doc (nth PySem.Challenge.pw_in0191_01.main.body 9) = Const.str x) => x); ?f118 _ (by conv => lhs; whnf))) 557, pyModule := Value.str (Str.ofString "cpy313.stat") 541, code := Value.ref 219 } }) ::
(nat_lit 221, { cls := Value.type "tuple", data := Data.seq #[Value.int 40960 569, Value.str (Str.ofString "l") 597] }) ::
(nat_lit 222, { cls := Value.type "tuple", data := Data.seq #[Value.int 49152 571, Value.str (Str.ofString "s") 598] }) ::
(nat_lit 223, { cls := Value.type "tuple", data := Data.seq #[Value.int 32768 565, Value.str (Str.ofString "-") 599] }) ::
(nat_lit 224, { cls := Value.type "tuple", data := Data.seq #[Value.int 24576 563, Value.str (Str.ofString "b") 600] }) ::
(nat_lit 225, { cls := Value.type "tuple", data := Data.seq #[Value.int 16384 559, Value.str (Str.ofString "d") 601] }) ::
(nat_lit 226, { cls := Value.type "tuple", data := Data.seq #[Value.int 8192 561, Value.str (Str.ofString "c") 602] }) ::
(nat_lit 227, { cls := Value.type "tuple", data := Data.seq #[Value.int 4096 567, Value.str (Str.ofString "p") 603] }) ::
(nat_lit 228, { cls := Value.type "tuple", data := Data.seq (List.toArray (Value.ref 221 :: Value.ref 222 :: Value.ref 223 :: Value.ref 224 :: Value.ref 225 :: Value.ref 226 :: Value.ref 227 :: [])) }) ::
(nat_lit 229, { cls := Value.type "tuple", data := Data.seq #[Value.int 256 579, Value.str (Str.ofString "r") 604] }) ::
(nat_lit 230, { cls := Value.type "tuple", data := Data.seq #[Value.ref 229] }) ::
(nat_lit 231, { cls := Value.type "tuple", data := Data.seq #[Value.int 128 581, Value.str (Str.ofString "w") 605] }) ::
(nat_lit 232, { cls := Value.type "tuple", data := Data.seq #[Value.ref 231] }) ::
(nat_lit 233, { cls := Value.type "tuple", data := Data.seq #[Value.int 2112 606, Value.str (Str.ofString "s") 607] }) ::
(nat_lit 234, { cls := Value.type "tuple", data := Data.seq #[Value.int 2048 573, Value.str (Str.ofString "S") 608] }) ::
(nat_lit 235, { cls := Value.type "tuple", data := Data.seq #[Value.int 64 583, Value.str (Str.ofString "x") 609] }) ::
(nat_lit 236, { cls := Value.type "tuple", data := Data.seq #[Value.ref 233, Value.ref 234, Value.ref 235] }) ::
(nat_lit 237, { cls := Value.type "tuple", data := Data.seq #[Value.int 32 585, Value.str (Str.ofString "r") 610] }) ::
(nat_lit 238, { cls := Value.type "tuple", data := Data.seq #[Value.ref 237] }) ::
(nat_lit 239, { cls := Value.type "tuple", data := Data.seq #[Value.int 16 587, Value.str (Str.ofString "w") 611] }) ::
(nat_lit 240, { cls := Value.type "tuple", data := Data.seq #[Value.ref 239] }) ::
(nat_lit 241, { cls := Value.type "tuple", data := Data.seq #[Value.int 1032 612, Value.str (Str.ofString "s") 613] }) ::
(nat_lit 242, { cls := Value.type "tuple", data := Data.seq #[Value.int 1024 575, Value.str (Str.ofString "S") 614] }) ::
(nat_lit 243, { cls := Value.type "tuple", data := Data.seq #[Value.int 8 589, Value.str (Str.ofString "x") 615] }) ::
(nat_lit 244, { cls := Value.type "tuple", data := Data.seq #[Value.ref 241, Value.ref 242, Value.ref 243] }) ::
(nat_lit 245, { cls := Value.type "tuple", data := Data.seq #[Value.int 4 591, Value.str (Str.ofString "r") 616] }) ::
(nat_lit 246, { cls := Value.type "tuple", data := Data.seq #[Value.ref 245] }) ::
(nat_lit 247, { cls := Value.type "tuple", data := Data.seq #[Value.int 2 593, Value.str (Str.ofString "w") 617] }) ::
(nat_lit 248, { cls := Value.type "tuple", data := Data.seq #[Value.ref 247] }) ::
(nat_lit 249, { cls := Value.type "tuple", data := Data.seq #[Value.int 513 618, Value.str (Str.ofString "t") 619] }) ::
(nat_lit 250, { cls := Value.type "tuple", data := Data.seq #[Value.int 512 577, Value.str (Str.ofString "T") 620] }) ::
(nat_lit 251, { cls := Value.type "tuple", data := Data.seq #[Value.int 1 595, Value.str (Str.ofString "x") 621] }) ::
(nat_lit 252, { cls := Value.type "tuple", data := Data.seq #[Value.ref 249, Value.ref 250, Value.ref 251] }) ::
(nat_lit 253, { cls := Value.type "tuple", data := Data.seq (List.toArray (Value.ref 228 :: Value.ref 230 :: Value.ref 232 :: Value.ref 236 :: Value.ref 238 :: Value.ref 240 :: Value.ref 244 :: Value.ref 246 :: Value.ref 248 :: Value.ref 252 :: [])) }) ::
(nat_lit 254, { cls := Value.type "tuple", data := Data.seq #[] }) ::
(nat_lit 256, { cls := Value.type "tuple", data := Data.seq #[Value.str (Str.ofString "mode") 626, Value.str (Str.ofString "perm") 627, Value.str (Str.ofString "index") 628, Value.str (Str.ofString "table") 629, Value.str (Str.ofString "bit") 630, Value.str (Str.ofString "char") 631] }) ::
(nat_lit 257, { cls := Value.type "tuple", data := Data.seq #[] }) ::
(nat_lit 259, { cls := Value.type "code", data := Data.fields (List.toArray (Value.str (Str.ofString "filemode") 623 :: Value.str (Str.ofString "filemode") 624 :: Value.str (Str.ofString "/claim/cut.py") 625 :: Value.int 122 0 :: Value.int 1 0 :: Value.int 0 0 :: Value.int 0 0 :: Value.int 3 0 :: Value.ref 254 :: Value.bool true :: Value.int 273 0 :: Value.ref 255 :: Value.none :: Value.ref 256 :: Value.ref 257 :: Value.ref 258 :: Value.int 632 0 :: Value.int 122 0 :: Value.str (Str.ofString "/claim/cut.py") 633 :: [])) }) ::
(nat_lit 260, { cls := Value.type "function", data := Data.func { name := Str.ofString "filemode", qualname := Str.ofString "filemode", params := (let_mvar% ?f85 := (fun (x : Arguments) (_ : prm (nth PySem.Challenge.pw_in0191_01.main.body 30) = x) => x); ?f85 _ (by conv => lhs; whnf)), body := FuncBody.stmts (let_mvar% ?f86 := (fun (x : List Stmt) (_ : inn (nth PySem.Challenge.pw_in0191_01.main.body 30) = x) => x); ?f86 _ (by conv => lhs; whnf)), scope := (let_mvar% ?f87 := (fun (x : Scope) (_ : scp (nth PySem.Challenge.pw_in0191_01.main.body 30) = x) => x); ?f87 _ (by conv => lhs; whnf)), globals := 3, closure := [], defaults := Value.none, kwdefaults := Value.none, doc := Value.str ((let_mvar% ?f119 := (fun (x : Str) (_ : doc (nth PySem.Challenge.pw_in0191_01.main.body 30) = Const.str x) => x); ?f119 _ (by conv => lhs; whnf))) 634, pyModule := Value.str (Str.ofString "cpy313.stat") 541, code := Value.ref 259 } }) ::
(nat_lit 261, { cls := Value.type "tuple", data := Data.seq #[] }) ::
(nat_lit 263, { cls := Value.type "tuple", data := Data.seq #[Value.str (Str.ofString "kind") 641, Value.str (Str.ofString "rights") 642, Value.str (Str.ofString "signs") 643, Value.str (Str.ofString "place") 644, Value.str (Str.ofString "three") 645, Value.str (Str.ofString "above") 646] }) ::
(nat_lit 264, { cls := Value.type "tuple", data := Data.seq #[] }) ::
(nat_lit 266, { cls := Value.type "code", data := Data.fields (List.toArray (Value.str (Str.ofString "_law_signs") 638 :: Value.str (Str.ofString "_law_signs") 639 :: Value.str (Str.ofString "/claim/cut.py") 640 :: Value.int 141 0 :: Value.int 2 0 :: Value.int 0 0 :: Value.int 0 0 :: Value.int 3 0 :: Value.ref 261 :: Value.bool true :: Value.int 273 0 :: Value.ref 262 :: Value.none :: Value.ref 263 :: Value.ref 264 :: Value.ref 265 :: Value.int 647 0 :: Value.int 141 0 :: Value.str (Str.ofString "/claim/cut.py") 648 :: [])) }) ::
(nat_lit 267, { cls := Value.type "function", data := Data.func { name := Str.ofString "_law_signs", qualname := Str.ofString "_law_signs", params := (let_mvar% ?f88 := (fun (x : Arguments) (_ : prm (nth PySem.Challenge.pw_in0191_01.main.body 32) = x) => x); ?f88 _ (by conv => lhs; whnf)), body := FuncBody.stmts (let_mvar% ?f89 := (fun (x : List Stmt) (_ : inn (nth PySem.Challenge.pw_in0191_01.main.body 32) = x) => x); ?f89 _ (by conv => lhs; whnf)), scope := (let_mvar% ?f90 := (fun (x : Scope) (_ : scp (nth PySem.Challenge.pw_in0191_01.main.body 32) = x) => x); ?f90 _ (by conv => lhs; whnf)), globals := 3, closure := [], defaults := Value.none, kwdefaults := Value.none, pyModule := Value.str (Str.ofString "law_in0191_01") 636, code := Value.ref 266 } }) ::
(nat_lit 268, { cls := Value.type "tuple", data := Data.seq #[] }) ::
(nat_lit 270, { cls := Value.type "tuple", data := Data.seq #[Value.str (Str.ofString "place") 653] }) ::
(nat_lit 271, { cls := Value.type "tuple", data := Data.seq #[] }) ::
(nat_lit 273, { cls := Value.type "code", data := Data.fields (List.toArray (Value.str (Str.ofString "_law_name") 650 :: Value.str (Str.ofString "_law_name") 651 :: Value.str (Str.ofString "/claim/cut.py") 652 :: Value.int 150 0 :: Value.int 1 0 :: Value.int 0 0 :: Value.int 0 0 :: Value.int 3 0 :: Value.ref 268 :: Value.bool true :: Value.int 273 0 :: Value.ref 269 :: Value.none :: Value.ref 270 :: Value.ref 271 :: Value.ref 272 :: Value.int 654 0 :: Value.int 150 0 :: Value.str (Str.ofString "/claim/cut.py") 655 :: [])) }) ::
(nat_lit 274, { cls := Value.type "function", data := Data.func { name := Str.ofString "_law_name", qualname := Str.ofString "_law_name", params := (let_mvar% ?f91 := (fun (x : Arguments) (_ : prm (nth PySem.Challenge.pw_in0191_01.main.body 33) = x) => x); ?f91 _ (by conv => lhs; whnf)), body := FuncBody.stmts (let_mvar% ?f92 := (fun (x : List Stmt) (_ : inn (nth PySem.Challenge.pw_in0191_01.main.body 33) = x) => x); ?f92 _ (by conv => lhs; whnf)), scope := (let_mvar% ?f93 := (fun (x : Scope) (_ : scp (nth PySem.Challenge.pw_in0191_01.main.body 33) = x) => x); ?f93 _ (by conv => lhs; whnf)), globals := 3, closure := [], defaults := Value.none, kwdefaults := Value.none, pyModule := Value.str (Str.ofString "law_in0191_01") 636, code := Value.ref 273 } }) ::
(nat_lit 275, { cls := Value.type "tuple", data := Data.seq #[] }) ::
(nat_lit 278, { cls := Value.type "code", data := Data.fields (List.toArray (Value.str (Str.ofString "_law_run") 657 :: Value.str (Str.ofString "_law_run") 658 :: Value.str (Str.ofString "/claim/cut.py") 659 :: Value.int 152 0 :: Value.int 1 0 :: Value.int 0 0 :: Value.int 0 0 :: Value.int 3 0 :: Value.ref 275 :: Value.bool true :: Value.int 273 0 :: Value.ref 276 :: Value.none :: Value.none :: Value.none :: Value.ref 277 :: Value.int 660 0 :: Value.int 152 0 :: Value.str (Str.ofString "/claim/cut.py") 661 :: [])) }) ::
(nat_lit 279, { cls := Value.type "function", data := Data.func { name := Str.ofString "_law_run", qualname := Str.ofString "_law_run", params := (let_mvar% ?f94 := (fun (x : Arguments) (_ : prm (nth PySem.Challenge.pw_in0191_01.main.body 34) = x) => x); ?f94 _ (by conv => lhs; whnf)), body := FuncBody.stmts (let_mvar% ?f95 := (fun (x : List Stmt) (_ : inn (nth PySem.Challenge.pw_in0191_01.main.body 34) = x) => x); ?f95 _ (by conv => lhs; whnf)), scope := (let_mvar% ?f96 := (fun (x : Scope) (_ : scp (nth PySem.Challenge.pw_in0191_01.main.body 34) = x) => x); ?f96 _ (by conv => lhs; whnf)), globals := 3, closure := [], defaults := Value.none, kwdefaults := Value.none, pyModule := Value.str (Str.ofString "law_in0191_01") 636, code := Value.ref 278 } }) ::
(nat_lit 280, { cls := Value.type "tuple", data := Data.seq #[] }) ::
(nat_lit 282, { cls := Value.type "tuple", data := Data.seq #[Value.str (Str.ofString "rows") 666, Value.str (Str.ofString "key") 667, Value.str (Str.ofString "record") 668, Value.str (Str.ofString "grows") 669, Value.str (Str.ofString "row") 670] }) ::
(nat_lit 283, { cls := Value.type "tuple", data := Data.seq #[] }) ::
(nat_lit 285, { cls := Value.type "code", data := Data.fields (List.toArray (Value.str (Str.ofString "_law_put") 663 :: Value.str (Str.ofString "_law_put") 664 :: Value.str (Str.ofString "/claim/cut.py") 665 :: Value.int 167 0 :: Value.int 4 0 :: Value.int 0 0 :: Value.int 0 0 :: Value.int 3 0 :: Value.ref 280 :: Value.bool true :: Value.int 273 0 :: Value.ref 281 :: Value.none :: Value.ref 282 :: Value.ref 283 :: Value.ref 284 :: Value.int 671 0 :: Value.int 167 0 :: Value.str (Str.ofString "/claim/cut.py") 672 :: [])) }) ::
(nat_lit 286, { cls := Value.type "function", data := Data.func { name := Str.ofString "_law_put", qualname := Str.ofString "_law_put", params := (let_mvar% ?f97 := (fun (x : Arguments) (_ : prm (nth PySem.Challenge.pw_in0191_01.main.body 35) = x) => x); ?f97 _ (by conv => lhs; whnf)), body := FuncBody.stmts (let_mvar% ?f98 := (fun (x : List Stmt) (_ : inn (nth PySem.Challenge.pw_in0191_01.main.body 35) = x) => x); ?f98 _ (by conv => lhs; whnf)), scope := (let_mvar% ?f99 := (fun (x : Scope) (_ : scp (nth PySem.Challenge.pw_in0191_01.main.body 35) = x) => x); ?f99 _ (by conv => lhs; whnf)), globals := 3, closure := [], defaults := Value.none, kwdefaults := Value.none, pyModule := Value.str (Str.ofString "law_in0191_01") 636, code := Value.ref 285 } }) ::
(nat_lit 287, { cls := Value.type "tuple", data := Data.seq #[] }) ::
(nat_lit 289, { cls := Value.type "tuple", data := Data.seq #[Value.str (Str.ofString "rows") 677, Value.str (Str.ofString "key") 678, Value.str (Str.ofString "row") 679] }) ::
(nat_lit 290, { cls := Value.type "tuple", data := Data.seq #[] }) ::
(nat_lit 292, { cls := Value.type "code", data := Data.fields (List.toArray (Value.str (Str.ofString "_law_found") 674 :: Value.str (Str.ofString "_law_found") 675 :: Value.str (Str.ofString "/claim/cut.py") 676 :: Value.int 175 0 :: Value.int 2 0 :: Value.int 0 0 :: Value.int 0 0 :: Value.int 3 0 :: Value.ref 287 :: Value.bool true :: Value.int 273 0 :: Value.ref 288 :: Value.none :: Value.ref 289 :: Value.ref 290 :: Value.ref 291 :: Value.int 680 0 :: Value.int 175 0 :: Value.str (Str.ofString "/claim/cut.py") 681 :: [])) }) ::
(nat_lit 293, { cls := Value.type "function", data := Data.func { name := Str.ofString "_law_found", qualname := Str.ofString "_law_found", params := (let_mvar% ?f100 := (fun (x : Arguments) (_ : prm (nth PySem.Challenge.pw_in0191_01.main.body 36) = x) => x); ?f100 _ (by conv => lhs; whnf)), body := FuncBody.stmts (let_mvar% ?f101 := (fun (x : List Stmt) (_ : inn (nth PySem.Challenge.pw_in0191_01.main.body 36) = x) => x); ?f101 _ (by conv => lhs; whnf)), scope := (let_mvar% ?f102 := (fun (x : Scope) (_ : scp (nth PySem.Challenge.pw_in0191_01.main.body 36) = x) => x); ?f102 _ (by conv => lhs; whnf)), globals := 3, closure := [], defaults := Value.none, kwdefaults := Value.none, pyModule := Value.str (Str.ofString "law_in0191_01") 636, code := Value.ref 292 } }) ::
(nat_lit 294, { cls := Value.type "tuple", data := Data.seq #[] }) ::
(nat_lit 297, { cls := Value.type "code", data := Data.fields (List.toArray (Value.str (Str.ofString "_law_due") 683 :: Value.str (Str.ofString "_law_due") 684 :: Value.str (Str.ofString "/claim/cut.py") 685 :: Value.int 180 0 :: Value.int 1 0 :: Value.int 0 0 :: Value.int 0 0 :: Value.int 3 0 :: Value.ref 294 :: Value.bool true :: Value.int 273 0 :: Value.ref 295 :: Value.none :: Value.none :: Value.none :: Value.ref 296 :: Value.int 686 0 :: Value.int 180 0 :: Value.str (Str.ofString "/claim/cut.py") 687 :: [])) }) ::
(nat_lit 298, { cls := Value.type "function", data := Data.func { name := Str.ofString "_law_due", qualname := Str.ofString "_law_due", params := (let_mvar% ?f103 := (fun (x : Arguments) (_ : prm (nth PySem.Challenge.pw_in0191_01.main.body 37) = x) => x); ?f103 _ (by conv => lhs; whnf)), body := FuncBody.stmts (let_mvar% ?f104 := (fun (x : List Stmt) (_ : inn (nth PySem.Challenge.pw_in0191_01.main.body 37) = x) => x); ?f104 _ (by conv => lhs; whnf)), scope := (let_mvar% ?f105 := (fun (x : Scope) (_ : scp (nth PySem.Challenge.pw_in0191_01.main.body 37) = x) => x); ?f105 _ (by conv => lhs; whnf)), globals := 3, closure := [], defaults := Value.none, kwdefaults := Value.none, pyModule := Value.str (Str.ofString "law_in0191_01") 636, code := Value.ref 297 } }) ::
(nat_lit 299, { cls := Value.type "tuple", data := Data.seq #[] }) ::
(nat_lit 302, { cls := Value.type "code", data := Data.fields (List.toArray (Value.str (Str.ofString "law") 689 :: Value.str (Str.ofString "law") 690 :: Value.str (Str.ofString "/claim/cut.py") 691 :: Value.int 198 0 :: Value.int 1 0 :: Value.int 0 0 :: Value.int 0 0 :: Value.int 3 0 :: Value.ref 299 :: Value.bool true :: Value.int 273 0 :: Value.ref 300 :: Value.none :: Value.none :: Value.none :: Value.ref 301 :: Value.int 692 0 :: Value.int 198 0 :: Value.str (Str.ofString "/claim/cut.py") 693 :: [])) }) ::
(nat_lit 303, { cls := Value.type "function", data := Data.func { name := Str.ofString "law", qualname := Str.ofString "law", params := (let_mvar% ?f106 := (fun (x : Arguments) (_ : prm (nth PySem.Challenge.pw_in0191_01.main.body 38) = x) => x); ?f106 _ (by conv => lhs; whnf)), body := FuncBody.stmts (let_mvar% ?f107 := (fun (x : List Stmt) (_ : inn (nth PySem.Challenge.pw_in0191_01.main.body 38) = x) => x); ?f107 _ (by conv => lhs; whnf)), scope := (let_mvar% ?f108 := (fun (x : Scope) (_ : scp (nth PySem.Challenge.pw_in0191_01.main.body 38) = x) => x); ?f108 _ (by conv => lhs; whnf)), globals := 3, closure := [], defaults := Value.none, kwdefaults := Value.none, pyModule := Value.str (Str.ofString "law_in0191_01") 636, code := Value.ref 302 } }) :: []
set_option linter.unusedVariables false
noncomputable def o41 : Params → Obj := PySem.W.boot_o_0
noncomputable def o42 : Params → Obj := fun P => { cls := Value.type "dict", data := Data.dict #[{ hash := PyData.keyHash P (Str.ofString "builtins"), key := Value.str (Str.ofString "builtins") 162, val := Value.ref 4 }, { hash := PyData.keyHash P (Str.ofString "__main__"), key := Value.str (Str.ofString "__main__") 163, val := Value.ref 5 }, { hash := PyData.keyHash P (Str.ofString "_collections"), key := Value.str (Str.ofString "_collections") 246, val := Value.ref 13 }] 3 }
noncomputable def o43 : Params → Obj := fun P => { cls := Value.none, data := Data.dict (List.toArray ({ hash := PyData.keyHash P (Str.ofString "\x69mport.loaded._collections"), key := Value.str (Str.ofString "\x69mport.loaded._collections") 185, val := Value.bool true } :: { hash := PyData.keyHash P (Str.ofString "class._frozen_importlib.BuiltinImporter"), key := Value.str (Str.ofString "class._frozen_importlib.BuiltinImporter") 187, val := Value.ref 15 } :: { hash := PyData.keyHash P (Str.ofString "watched.\x69mport"), key := Value.str (Str.ofString "watched.\x69mport") 208, val := Value.ref 19 } :: { hash := PyData.keyHash P (Str.ofString "class._frozen_importlib.ModuleSpec"), key := Value.str (Str.ofString "class._frozen_importlib.ModuleSpec") 218, val := Value.ref 23 } :: { hash := PyData.keyHash P (Str.ofString "sys.modules.booked-epoch"), key := Value.str (Str.ofString "sys.modules.booked-epoch") 247, val := Value.int 3 0 } :: { hash := PyData.keyHash P (Str.ofString "sys.modules.landed._collections"), key := Value.str (Str.ofString "sys.modules.landed._collections") 248, val := Value.bool true } :: { hash := PyData.keyHash P (Str.ofString "\x69mport.later-laid._collections"), key := Value.str (Str.ofString "\x69mport.later-laid._collections") 263, val := Value.bool true } :: { hash := PyData.keyHash P (Str.ofString "watched.library"), key := Value.str (Str.ofString "watched.library") 265, val := Value.ref 28 } :: { hash := PyData.keyHash P (Str.ofString "watched.library-objects"), key := Value.str (Str.ofString "watched.library-objects") 0, val := Value.str (Str.ofString "\x0d") 0 } :: { hash := PyData.keyHash P (Str.ofString "watched.library-deep._collections"), key := Value.str (Str.ofString "watched.library-deep._collections") 266, val := Value.str (Str.ofString "\x04\x00\x00\x0c\x04\x00\x00\x0c\x04\x00\x00\x03\x04\x00\x00\x0c\x08\x04dict\x02") 0 } :: [])) 10 }
noncomputable def o44 : Params → Obj := fun P => { cls := Value.type "dict", data := Data.dict (List.toArray ({ hash := PyData.keyHash P (Str.ofString "__name__"), key := Value.str (Str.ofString "__name__") 165, val := Value.str (Str.ofString "__main__") 164 } :: { hash := PyData.keyHash P (Str.ofString "__doc__"), key := Value.str (Str.ofString "__doc__") 166, val := Value.none } :: { hash := PyData.keyHash P (Str.ofString "__package__"), key := Value.str (Str.ofString "__package__") 167, val := Value.none } :: { hash := PyData.keyHash P (Str.ofString "__loader__"), key := Value.str (Str.ofString "__loader__") 168, val := Value.builtin "__main__.__loader__#opaque" } :: { hash := PyData.keyHash P (Str.ofString "__spec__"), key := Value.str (Str.ofString "__spec__") 169, val := Value.none } :: { hash := PyData.keyHash P (Str.ofString "__annotations__"), key := Value.str (Str.ofString "__annotations__") 170, val := Value.ref 6 } :: { hash := PyData.keyHash P (Str.ofString "__builtins__"), key := Value.str (Str.ofString "__builtins__") 171, val := Value.ref 4 } :: { hash := PyData.keyHash P (Str.ofString "__file__"), key := Value.str (Str.ofString "__file__") 173, val := Value.str (Str.ofString "/claim/cut.py") 172 } :: { hash := PyData.keyHash P (Str.ofString "__cached__"), key := Value.str (Str.ofString "__cached__") 174, val := Value.none } :: { hash := PyData.keyHash P (Str.ofString "defaultdict"), key := Value.str (Str.ofString "defaultdict") 272, val := Value.type "collections.defaultdict" } :: [])) 10 }
noncomputable def o45 : Params → Obj := PySem.W.boot_o_4
noncomputable def o46 : Params → Obj := PySem.W.boot_o_5
noncomputable def o47 : Params → Obj := PySem.W.boot_o_6
noncomputable def o48 : Params → Obj := PySem.W.boot_o_7
noncomputable def o49 : Params → Obj := PySem.W.boot_o_8
noncomputable def o50 : Params → Obj := PySem.W.boot_o_9
noncomputable def o51 : Params → Obj := PySem.W.boot_o_10
noncomputable def o52 : Params → Obj := fun P => { cls := Value.type "tuple", data := Data.seq #[Value.str (Str.ofString "defaultdict") 182] }
noncomputable def o53 : Params → Obj := fun P => { cls := Value.type "dict", data := Data.dict (List.toArray ({ hash := PyData.keyHash P (Str.ofString "__name__"), key := Value.str (Str.ofString "__name__") 250, val := Value.str (Str.ofString "_collections") 249 } :: { hash := PyData.keyHash P (Str.ofString "__doc__"), key := Value.str (Str.ofString "__doc__") 251, val := Value.builtin "off-the-table:_collections.__doc__:shared#opaque" } :: { hash := PyData.keyHash P (Str.ofString "__package__"), key := Value.str (Str.ofString "__package__") 253, val := Value.str (Str.ofString "") 252 } :: { hash := PyData.keyHash P (Str.ofString "__loader__"), key := Value.str (Str.ofString "__loader__") 254, val := Value.builtin "off-the-table:_collections.__loader__:shared#opaque" } :: { hash := PyData.keyHash P (Str.ofString "__spec__"), key := Value.str (Str.ofString "__spec__") 255, val := Value.builtin "off-the-table:_collections.__spec__:shared#opaque" } :: { hash := PyData.keyHash P (Str.ofString "_count_elements"), key := Value.str (Str.ofString "_count_elements") 256, val := Value.builtin "_collections._count_elements" } :: { hash := PyData.keyHash P (Str.ofString "deque"), key := Value.str (Str.ofString "deque") 257, val := Value.type "collections.deque" } :: { hash := PyData.keyHash P (Str.ofString "defaultdict"), key := Value.str (Str.ofString "defaultdict") 258, val := Value.type "collections.defaultdict" } :: { hash := PyData.keyHash P (Str.ofString "_deque_iterator"), key := Value.str (Str.ofString "_deque_iterator") 259, val := Value.builtin "off-the-table:_collections._deque_iterator:shared#opaque" } :: { hash := PyData.keyHash P (Str.ofString "_deque_reverse_iterator"), key := Value.str (Str.ofString "_deque_reverse_iterator") 260, val := Value.builtin "off-the-table:_collections._deque_reverse_iterator:shared#opaque" } :: { hash := PyData.keyHash P (Str.ofString "_tuplegetter"), key := Value.str (Str.ofString "_tuplegetter") 261, val := Value.type "collections._tuplegetter" } :: { hash := PyData.keyHash P (Str.ofString "OrderedDict"), key := Value.str (Str.ofString "OrderedDict") 262, val := Value.type "collections.OrderedDict" } :: [])) 12 }
noncomputable def o54 : Params → Obj := fun P => { cls := Value.type "module", dict := some 12 }
noncomputable def o55 : Params → Obj := fun P => { cls := Value.type "dict", data := Data.dict (List.toArray ({ hash := PyData.keyHash P (Str.ofString "__module__"), key := Value.str (Str.ofString "__module__") 191, val := Value.str (Str.ofString "_frozen_importlib") 188 } :: { hash := PyData.keyHash P (Str.ofString "__firstlineno__"), key := Value.str (Str.ofString "__firstlineno__") 192, val := Value.int 971 189 } :: { hash := PyData.keyHash P (Str.ofString "__doc__"), key := Value.str (Str.ofString "__doc__") 193, val := Value.builtin "_frozen_importlib.BuiltinImporter.__doc__:str#opaque" } :: { hash := PyData.keyHash P (Str.ofString "_ORIGIN"), key := Value.str (Str.ofString "_ORIGIN") 194, val := Value.str (Str.ofString "built-in") 190 } :: { hash := PyData.keyHash P (Str.ofString "find_spec"), key := Value.str (Str.ofString "find_spec") 195, val := Value.builtin "_frozen_importlib.BuiltinImporter.find_spec#opaque" } :: { hash := PyData.keyHash P (Str.ofString "create_module"), key := Value.str (Str.ofString "create_module") 196, val := Value.builtin "_frozen_importlib.BuiltinImporter.create_module#opaque" } :: { hash := PyData.keyHash P (Str.ofString "exec_module"), key := Value.str (Str.ofString "exec_module") 197, val := Value.builtin "_frozen_importlib.BuiltinImporter.exec_module#opaque" } :: { hash := PyData.keyHash P (Str.ofString "get_code"), key := Value.str (Str.ofString "get_code") 198, val := Value.builtin "_frozen_importlib.BuiltinImporter.get_code#opaque" } :: { hash := PyData.keyHash P (Str.ofString "get_source"), key := Value.str (Str.ofString "get_source") 199, val := Value.builtin "_frozen_importlib.BuiltinImporter.get_source#opaque" } :: { hash := PyData.keyHash P (Str.ofString "is_package"), key := Value.str (Str.ofString "is_package") 200, val := Value.builtin "_frozen_importlib.BuiltinImporter.is_package#opaque" } :: { hash := PyData.keyHash P (Str.ofString "load_module"), key := Value.str (Str.ofString "load_module") 201, val := Value.builtin "_frozen_importlib.BuiltinImporter.load_module#opaque" } :: { hash := PyData.keyHash P (Str.ofString "__static_attributes__"), key := Value.str (Str.ofString "__static_attributes__") 202, val := Value.ref 16 } :: { hash := PyData.keyHash P (Str.ofString "__dict__"), key := Value.str (Str.ofString "__dict__") 204, val := Value.ref 17 } :: { hash := PyData.keyHash P (Str.ofString "__weakref__"), key := Value.str (Str.ofString "__weakref__") 206, val := Value.ref 18 } :: [])) 14 }
noncomputable def o56 : Params → Obj := fun P => { cls := Value.type "type", data := Data.cls { name := Str.ofString "BuiltinImporter", bases := [Value.type "object"], mro := [Value.ref 15, Value.type "object"], ns := 14, qualname := Str.ofString "BuiltinImporter" } }
noncomputable def o57 : Params → Obj := PySem.W.boot_o_7
noncomputable def o58 : Params → Obj := fun P => { cls := Value.type "getset_descriptor", data := Data.fields #[Value.str (Str.ofString "__dict__") 203, Value.ref 15, Value.builtin "function.__dict__", Value.builtin "function.__dict__#set"] }
noncomputable def o59 : Params → Obj := fun P => { cls := Value.type "getset_descriptor", data := Data.fields #[Value.str (Str.ofString "__weakref__") 205, Value.ref 15, Value.builtin "ExceptionGroup.__weakref__", Value.none] }
noncomputable def o60 : Params → Obj := fun P => { cls := Value.none, data := Data.seq (List.toArray (Value.int 14 0 :: Value.str (Str.ofString "\x06¿\n__module__\x06¼\x11_frozen_importlib\x06À\x0f__firstlineno__\x04½\x00ϋ\x06Á\x07__doc__\t4_frozen_importlib.BuiltinImporter.__doc__:str#opaque\x06Â\x07_ORIGIN\x06¾\x08built-in\x06Ã\tfind_spec\t2_frozen_importlib.BuiltinImporter.find_spec#opaque\x06Ä\x0dcreate_module\t6_frozen_importlib.BuiltinImporter.create_module#opaque\x06Å\x0bexec_module\t4_frozen_importlib.BuiltinImporter.exec_module#opaque\x06Æ\x08get_code\t1_frozen_importlib.BuiltinImporter.get_code#opaque\x06Ç\nget_source\t3_frozen_importlib.BuiltinImporter.get_source#opaque\x06È\nis_package\t3_frozen_importlib.BuiltinImporter.is_package#opaque\x06É\x0bload_module\t4_frozen_importlib.BuiltinImporter.load_module#opaque\x06Ê\x15__static_attributes__\x04\x00\x00\x10\x06Ì\x08__dict__\x04\x00\x00\x11\x06Î\x0b__weakref__\x04\x00\x00\x12") 0 :: Value.bool true :: Value.bool true :: Value.str (Str.ofString "") 207 :: Value.int 22 0 :: Value.str (Str.ofString "\x06å\n__module__\x06Û\x11_frozen_importlib\x06æ\x0f__firstlineno__\x04Ü\x00Ȳ\x06ç\x07__doc__\t/_frozen_importlib.ModuleSpec.__doc__:str#opaque\x06è\x08__init__\t,_frozen_importlib.ModuleSpec.__init__#opaque\x06é\x08__repr__\t,_frozen_importlib.ModuleSpec.__repr__#opaque\x06ê\x06__eq__\t*_frozen_importlib.ModuleSpec.__eq__#opaque\x06ë\x06cached\t*_frozen_importlib.ModuleSpec.cached#opaque\x06ì\x06parent\t*_frozen_importlib.ModuleSpec.parent#opaque\x06í\x0chas_location\t0_frozen_importlib.ModuleSpec.has_location#opaque\x06î\x15__static_attributes__\x04\x00\x00\x18\x06ð\x08__dict__\x04\x00\x00\x19\x06ò\x0b__weakref__\x04\x00\x00\x1a\x06ó\x08__hash__\x00") 0 :: Value.bool true :: Value.bool true :: Value.str (Str.ofString "") 244 :: [])) 1 }
noncomputable def o61 : Params → Obj := fun P => { cls := Value.type "list", data := Data.seq #[] }
noncomputable def o62 : Params → Obj := fun P => { cls := Value.type "dict", data := Data.dict (List.toArray ({ hash := PyData.keyHash P (Str.ofString "name"), key := Value.str (Str.ofString "name") 210, val := Value.str (Str.ofString "_collections") 209 } :: { hash := PyData.keyHash P (Str.ofString "loader"), key := Value.str (Str.ofString "loader") 211, val := Value.ref 15 } :: { hash := PyData.keyHash P (Str.ofString "origin"), key := Value.str (Str.ofString "origin") 212, val := Value.str (Str.ofString "built-in") 186 } :: { hash := PyData.keyHash P (Str.ofString "loader_state"), key := Value.str (Str.ofString "loader_state") 213, val := Value.none } :: { hash := PyData.keyHash P (Str.ofString "submodule_search_locations"), key := Value.str (Str.ofString "submodule_search_locations") 214, val := Value.none } :: { hash := PyData.keyHash P (Str.ofString "_uninitialized_submodules"), key := Value.str (Str.ofString "_uninitialized_submodules") 215, val := Value.ref 20 } :: { hash := PyData.keyHash P (Str.ofString "_set_fileattr"), key := Value.str (Str.ofString "_set_fileattr") 216, val := Value.bool false } :: { hash := PyData.keyHash P (Str.ofString "_cached"), key := Value.str (Str.ofString "_cached") 217, val := Value.none } :: { hash := PyData.keyHash P (Str.ofString "_initializing"), key := Value.str (Str.ofString "_initializing") 245, val := Value.bool false } :: [])) 9 }
noncomputable def o63 : Params → Obj := fun P => { cls := Value.type "dict", data := Data.dict (List.toArray ({ hash := PyData.keyHash P (Str.ofString "__module__"), key := Value.str (Str.ofString "__module__") 229, val := Value.str (Str.ofString "_frozen_importlib") 219 } :: { hash := PyData.keyHash P (Str.ofString "__firstlineno__"), key := Value.str (Str.ofString "__firstlineno__") 230, val := Value.int 562 220 } :: { hash := PyData.keyHash P (Str.ofString "__doc__"), key := Value.str (Str.ofString "__doc__") 231, val := Value.builtin "_frozen_importlib.ModuleSpec.__doc__:str#opaque" } :: { hash := PyData.keyHash P (Str.ofString "__init__"), key := Value.str (Str.ofString "__init__") 232, val := Value.builtin "_frozen_importlib.ModuleSpec.__init__#opaque" } :: { hash := PyData.keyHash P (Str.ofString "__repr__"), key := Value.str (Str.ofString "__repr__") 233, val := Value.builtin "_frozen_importlib.ModuleSpec.__repr__#opaque" } :: { hash := PyData.keyHash P (Str.ofString "__eq__"), key := Value.str (Str.ofString "__eq__") 234, val := Value.builtin "_frozen_importlib.ModuleSpec.__eq__#opaque" } :: { hash := PyData.keyHash P (Str.ofString "cached"), key := Value.str (Str.ofString "cached") 235, val := Value.builtin "_frozen_importlib.ModuleSpec.cached#opaque" } :: { hash := PyData.keyHash P (Str.ofString "parent"), key := Value.str (Str.ofString "parent") 236, val := Value.builtin "_frozen_importlib.ModuleSpec.parent#opaque" } :: { hash := PyData.keyHash P (Str.ofString "has_location"), key := Value.str (Str.ofString "has_location") 237, val := Value.builtin "_frozen_importlib.ModuleSpec.has_location#opaque" } :: { hash := PyData.keyHash P (Str.ofString "__static_attributes__"), key := Value.str (Str.ofString "__static_attributes__") 238, val := Value.ref 24 } :: { hash := PyData.keyHash P (Str.ofString "__dict__"), key := Value.str (Str.ofString "__dict__") 240, val := Value.ref 25 } :: { hash := PyData.keyHash P (Str.ofString "__weakref__"), key := Value.str (Str.ofString "__weakref__") 242, val := Value.ref 26 } :: { hash := PyData.keyHash P (Str.ofString "__hash__"), key := Value.str (Str.ofString "__hash__") 243, val := Value.none } :: [])) 13 }
noncomputable def o64 : Params → Obj := fun P => { cls := Value.type "type", data := Data.cls { name := Str.ofString "ModuleSpec", bases := [Value.type "object"], mro := [Value.ref 23, Value.type "object"], ns := 22, qualname := Str.ofString "ModuleSpec" } }
noncomputable def o65 : Params → Obj := fun P => { cls := Value.type "tuple", data := Data.seq (List.toArray (Value.str (Str.ofString "_cached") 221 :: Value.str (Str.ofString "_set_fileattr") 222 :: Value.str (Str.ofString "_uninitialized_submodules") 223 :: Value.str (Str.ofString "loader") 224 :: Value.str (Str.ofString "loader_state") 225 :: Value.str (Str.ofString "name") 226 :: Value.str (Str.ofString "origin") 227 :: Value.str (Str.ofString "submodule_search_locations") 228 :: [])) }
noncomputable def o66 : Params → Obj := fun P => { cls := Value.type "getset_descriptor", data := Data.fields #[Value.str (Str.ofString "__dict__") 239, Value.ref 23, Value.builtin "function.__dict__", Value.builtin "function.__dict__#set"] }
noncomputable def o67 : Params → Obj := fun P => { cls := Value.type "getset_descriptor", data := Data.fields #[Value.str (Str.ofString "__weakref__") 241, Value.ref 23, Value.builtin "ExceptionGroup.__weakref__", Value.none] }
noncomputable def o68 : Params → Obj := fun P => { cls := Value.ref 23, dict := some 21 }
noncomputable def o69 : Params → Obj := fun P => { cls := Value.none, data := Data.seq #[Value.int 12 0, Value.str (Str.ofString "\x06ú\x08__name__\x06ù\x0c_collections\x06û\x07__doc__\t\x1f_collections.__doc__:str#opaque\x06ý\x0b__package__\x06ü\x00\x06þ\n__loader__\x04\x00\x00\x0f\x06ÿ\x08__spec__\x04\x00\x00\x1b\x06Ā\x0f_count_elements\t\x1c_collections._count_elements\x06ā\x05deque\x08\x11collections.deque\x06Ă\x0bdefaultdict\x08\x17collections.defaultdict\x06ă\x0f_deque_iterator\x08\x1bcollections._deque_iterator\x06Ą\x17_deque_reverse_iterator\x08#collections._deque_reverse_iterator\x06ą\x0c_tuplegetter\x08\x18collections._tuplegetter\x06Ć\x0bOrderedDict\x08\x17collections.OrderedDict") 0, Value.bool true, Value.bool false, Value.str (Str.ofString "_collections") 264] }
noncomputable def o70 : Params → Obj := PySem.W.boot_o_7
noncomputable def o71 : Params → Obj := PySem.W.boot_o_8
noncomputable def o72 : Params → Obj := fun P => { cls := Value.type "code", data := Data.fields (List.toArray (Value.str (Str.ofString "<module>") 274 :: Value.str (Str.ofString "<module>") 275 :: Value.str (Str.ofString "/claim/cut.py") 276 :: Value.int 1 0 :: Value.int 0 0 :: Value.int 0 0 :: Value.int 0 0 :: Value.int 0 0 :: Value.ref 29 :: Value.bool false :: Value.int 273 0 :: Value.ref 30 :: Value.none :: Value.none :: Value.none :: Value.none :: Value.int 277 0 :: Value.int 1 0 :: Value.str (Str.ofString "/claim/cut.py") 278 :: [])) }
noncomputable def o73 : Params → Obj := fun P => { cls := Value.type "frame", slots := (List.toArray (some (Value.ref 31) :: some (Value.ref 3) :: some (Value.ref 3) :: none :: some (Value.str (Str.ofString "__main__") 164) :: none :: some (Value.ref 0) :: [])) }
noncomputable def o76 : Params → Obj := fun P => { cls := Value.type "dict", data := Data.dict (List.toArray ({ hash := PyData.keyHash P (Str.ofString "__name__"), key := Value.str (Str.ofString "__name__") 165, val := Value.str (Str.ofString "cpy313.importlib.metadata._collections") 286 } :: { hash := PyData.keyHash P (Str.ofString "__doc__"), key := Value.str (Str.ofString "__doc__") 166, val := Value.none } :: { hash := PyData.keyHash P (Str.ofString "__package__"), key := Value.str (Str.ofString "__package__") 167, val := Value.none } :: { hash := PyData.keyHash P (Str.ofString "__loader__"), key := Value.str (Str.ofString "__loader__") 168, val := Value.builtin "__main__.__loader__#opaque" } :: { hash := PyData.keyHash P (Str.ofString "__spec__"), key := Value.str (Str.ofString "__spec__") 169, val := Value.none } :: { hash := PyData.keyHash P (Str.ofString "__annotations__"), key := Value.str (Str.ofString "__annotations__") 170, val := Value.ref 6 } :: { hash := PyData.keyHash P (Str.ofString "__builtins__"), key := Value.str (Str.ofString "__builtins__") 171, val := Value.ref 4 } :: { hash := PyData.keyHash P (Str.ofString "__file__"), key := Value.str (Str.ofString "__file__") 173, val := Value.str (Str.ofString "/claim/cut.py") 172 } :: { hash := PyData.keyHash P (Str.ofString "__cached__"), key := Value.str (Str.ofString "__cached__") 174, val := Value.none } :: { hash := PyData.keyHash P (Str.ofString "defaultdict"), key := Value.str (Str.ofString "defaultdict") 272, val := Value.type "collections.defaultdict" } :: { hash := PyData.keyHash P (Str.ofString "_wall"), key := Value.str (Str.ofString "_wall") 285, val := Value.ref 39 } :: { hash := PyData.keyHash P (Str.ofString "_tuplegetter"), key := Value.str (Str.ofString "_tuplegetter") 344, val := Value.ref 78 } :: [])) 12 }
noncomputable def o77 : Params → Obj := fun P => { cls := Value.none, data := Data.fields #[Value.int 2 0, Value.int 0 0, Value.ref 38, Value.int 6 0, Value.int 0 0, Value.ref 45] }
noncomputable def o78 : Params → Obj := PySem.W.boot_o_7
noncomputable def o79 : Params → Obj := PySem.W.boot_o_8
noncomputable def o80 : Params → Obj := fun P => { cls := Value.type "tuple", data := Data.seq #[Value.str (Str.ofString "k") 282] }
noncomputable def o81 : Params → Obj := PySem.W.boot_o_7
noncomputable def o82 : Params → Obj := fun P => { cls := Value.none, data := Data.func { name := Str.ofString "_wall", qualname := Str.ofString "_wall", params := (let_mvar% ?f120 := (fun (x : Arguments) (_ : prm (nth PySem.Challenge.pw_in0191_01.main.body 1) = x) => x); ?f120 _ (by conv => lhs; whnf)), body := FuncBody.stmts (let_mvar% ?f121 := (fun (x : List Stmt) (_ : inn (nth PySem.Challenge.pw_in0191_01.main.body 1) = x) => x); ?f121 _ (by conv => lhs; whnf)), scope := (let_mvar% ?f122 := (fun (x : Scope) (_ : scp (nth PySem.Challenge.pw_in0191_01.main.body 1) = x) => x); ?f122 _ (by conv => lhs; whnf)), globals := 0, closure := [], defaults := Value.none, kwdefaults := Value.none } }
noncomputable def o83 : Params → Obj := fun P => { cls := Value.type "code", data := Data.fields (List.toArray (Value.str (Str.ofString "_wall") 279 :: Value.str (Str.ofString "_wall") 280 :: Value.str (Str.ofString "/claim/cut.py") 281 :: Value.int 2 0 :: Value.int 1 0 :: Value.int 0 0 :: Value.int 0 0 :: Value.int 3 0 :: Value.ref 33 :: Value.bool true :: Value.int 273 0 :: Value.ref 34 :: Value.none :: Value.ref 35 :: Value.ref 36 :: Value.ref 37 :: Value.int 283 0 :: Value.int 2 0 :: Value.str (Str.ofString "/claim/cut.py") 284 :: [])) }
noncomputable def o84 : Params → Obj := fun P => { cls := Value.type "function", data := Data.func { name := Str.ofString "_wall", qualname := Str.ofString "_wall", params := (let_mvar% ?f123 := (fun (x : Arguments) (_ : prm (nth PySem.Challenge.pw_in0191_01.main.body 1) = x) => x); ?f123 _ (by conv => lhs; whnf)), body := FuncBody.stmts (let_mvar% ?f124 := (fun (x : List Stmt) (_ : inn (nth PySem.Challenge.pw_in0191_01.main.body 1) = x) => x); ?f124 _ (by conv => lhs; whnf)), scope := (let_mvar% ?f125 := (fun (x : Scope) (_ : scp (nth PySem.Challenge.pw_in0191_01.main.body 1) = x) => x); ?f125 _ (by conv => lhs; whnf)), globals := 3, closure := [], defaults := Value.none, kwdefaults := Value.none, pyModule := Value.str (Str.ofString "__main__") 164, code := Value.ref 38 } }
noncomputable def o85 : Params → Obj := PySem.W.boot_o_7
noncomputable def o86 : Params → Obj := fun P => { cls := Value.type "builtin_function_or_method", data := Data.fields #[Value.builtin "type.__prepare__", Value.type "type"] }
noncomputable def o87 : Params → Obj := fun P => { cls := Value.type "dict", data := Data.dict (List.toArray ({ hash := PyData.keyHash P (Str.ofString "__module__"), key := Value.str (Str.ofString "__module__") 295, val := Value.str (Str.ofString "cpy313.importlib.metadata._collections") 286 } :: { hash := PyData.keyHash P (Str.ofString "__qualname__"), key := Value.str (Str.ofString "__qualname__") 297, val := Value.str (Str.ofString "_tuplegetter") 296 } :: { hash := PyData.keyHash P (Str.ofString "__firstlineno__"), key := Value.str (Str.ofString "__firstlineno__") 299, val := Value.int 6 298 } :: { hash := PyData.keyHash P (Str.ofString "__init__"), key := Value.str (Str.ofString "__init__") 308, val := Value.ref 53 } :: { hash := PyData.keyHash P (Str.ofString "__get__"), key := Value.str (Str.ofString "__get__") 317, val := Value.ref 61 } :: { hash := PyData.keyHash P (Str.ofString "__set__"), key := Value.str (Str.ofString "__set__") 326, val := Value.ref 68 } :: { hash := PyData.keyHash P (Str.ofString "__delete__"), key := Value.str (Str.ofString "__delete__") 334, val := Value.ref 75 } :: { hash := PyData.keyHash P (Str.ofString "__static_attributes__"), key := Value.str (Str.ofString "__static_attributes__") 337, val := Value.ref 76 } :: [])) 8 }
noncomputable def o88 : Params → Obj := PySem.W.boot_o_7
noncomputable def o89 : Params → Obj := fun P => { cls := Value.none, data := Data.fields (List.toArray (Value.int 8 0 :: Value.int 4 0 :: Value.ref 52 :: Value.int 12 0 :: Value.int 4 0 :: Value.ref 60 :: Value.int 19 0 :: Value.int 4 0 :: Value.ref 67 :: Value.int 22 0 :: Value.int 4 0 :: Value.ref 74 :: [])) }
noncomputable def o90 : Params → Obj := fun P => { cls := Value.type "code", data := Data.fields (List.toArray (Value.str (Str.ofString "_tuplegetter") 290 :: Value.str (Str.ofString "_tuplegetter") 291 :: Value.str (Str.ofString "/claim/cut.py") 292 :: Value.int 6 0 :: Value.int 0 0 :: Value.int 0 0 :: Value.int 0 0 :: Value.int 0 0 :: Value.ref 43 :: Value.bool false :: Value.int 273 0 :: Value.ref 44 :: Value.none :: Value.none :: Value.none :: Value.none :: Value.int 293 0 :: Value.int 6 0 :: Value.str (Str.ofString "/claim/cut.py") 294 :: [])) }
noncomputable def o91 : Params → Obj := fun P => { cls := Value.type "frame", slots := (List.toArray (some (Value.ref 45) :: some (Value.ref 3) :: some (Value.ref 42) :: none :: some (Value.str (Str.ofString "cpy313.importlib.metadata._collections") 286) :: none :: some (Value.ref 0) :: [])) }
noncomputable def o92 : Params → Obj := PySem.W.boot_o_7
noncomputable def o93 : Params → Obj := PySem.W.boot_o_8
noncomputable def o94 : Params → Obj := fun P => { cls := Value.type "tuple", data := Data.seq #[Value.str (Str.ofString "self") 303, Value.str (Str.ofString "index") 304, Value.str (Str.ofString "doc") 305] }
noncomputable def o95 : Params → Obj := PySem.W.boot_o_7
noncomputable def o96 : Params → Obj := fun P => { cls := Value.none, data := Data.func { name := Str.ofString "__init__", qualname := Str.ofString "_tuplegetter.__init__", params := (let_mvar% ?f126 := (fun (x : Arguments) (_ : prm (nth (inn (nth PySem.Challenge.pw_in0191_01.main.body 3)) 0) = x) => x); ?f126 _ (by conv => lhs; whnf)), body := FuncBody.stmts (let_mvar% ?f127 := (fun (x : List Stmt) (_ : inn (nth (inn (nth PySem.Challenge.pw_in0191_01.main.body 3)) 0) = x) => x); ?f127 _ (by conv => lhs; whnf)), scope := (let_mvar% ?f128 := (fun (x : Scope) (_ : scp (nth (inn (nth PySem.Challenge.pw_in0191_01.main.body 3)) 0) = x) => x); ?f128 _ (by conv => lhs; whnf)), globals := 0, closure := [], defaults := Value.none, kwdefaults := Value.none } }
noncomputable def o97 : Params → Obj := fun P => { cls := Value.type "code", data := Data.fields (List.toArray (Value.str (Str.ofString "__init__") 300 :: Value.str (Str.ofString "_tuplegetter.__init__") 301 :: Value.str (Str.ofString "/claim/cut.py") 302 :: Value.int 8 0 :: Value.int 3 0 :: Value.int 0 0 :: Value.int 0 0 :: Value.int 3 0 :: Value.ref 47 :: Value.bool true :: Value.int 273 0 :: Value.ref 48 :: Value.none :: Value.ref 49 :: Value.ref 50 :: Value.ref 51 :: Value.int 306 0 :: Value.int 8 0 :: Value.str (Str.ofString "/claim/cut.py") 307 :: [])) }
noncomputable def o98 : Params → Obj := fun P => { cls := Value.type "function", data := Data.func { name := Str.ofString "__init__", qualname := Str.ofString "_tuplegetter.__init__", params := (let_mvar% ?f129 := (fun (x : Arguments) (_ : prm (nth (inn (nth PySem.Challenge.pw_in0191_01.main.body 3)) 0) = x) => x); ?f129 _ (by conv => lhs; whnf)), body := FuncBody.stmts (let_mvar% ?f130 := (fun (x : List Stmt) (_ : inn (nth (inn (nth PySem.Challenge.pw_in0191_01.main.body 3)) 0) = x) => x); ?f130 _ (by conv => lhs; whnf)), scope := (let_mvar% ?f131 := (fun (x : Scope) (_ : scp (nth (inn (nth PySem.Challenge.pw_in0191_01.main.body 3)) 0) = x) => x); ?f131 _ (by conv => lhs; whnf)), globals := 3, closure := [], defaults := Value.none, kwdefaults := Value.none, pyModule := Value.str (Str.ofString "cpy313.importlib.metadata._collections") 286, code := Value.ref 52 } }
noncomputable def o99 : Params → Obj := fun P => { cls := Value.type "tuple", data := Data.seq #[Value.none] }
noncomputable def o100 : Params → Obj := PySem.W.boot_o_7
noncomputable def o101 : Params → Obj := PySem.W.boot_o_8
noncomputable def o102 : Params → Obj := fun P => { cls := Value.type "tuple", data := Data.seq #[Value.str (Str.ofString "self") 312, Value.str (Str.ofString "obj") 313, Value.str (Str.ofString "objtype") 314] }
noncomputable def o103 : Params → Obj := PySem.W.boot_o_7
noncomputable def o104 : Params → Obj := fun P => { cls := Value.none, data := Data.func { name := Str.ofString "__get__", qualname := Str.ofString "_tuplegetter.__get__", params := (let_mvar% ?f132 := (fun (x : Arguments) (_ : prm (nth (inn (nth PySem.Challenge.pw_in0191_01.main.body 3)) 1) = x) => x); ?f132 _ (by conv => lhs; whnf)), body := FuncBody.stmts (let_mvar% ?f133 := (fun (x : List Stmt) (_ : inn (nth (inn (nth PySem.Challenge.pw_in0191_01.main.body 3)) 1) = x) => x); ?f133 _ (by conv => lhs; whnf)), scope := (let_mvar% ?f134 := (fun (x : Scope) (_ : scp (nth (inn (nth PySem.Challenge.pw_in0191_01.main.body 3)) 1) = x) => x); ?f134 _ (by conv => lhs; whnf)), globals := 0, closure := [], defaults := Value.none, kwdefaults := Value.none } }
noncomputable def o105 : Params → Obj := fun P => { cls := Value.type "code", data := Data.fields (List.toArray (Value.str (Str.ofString "__get__") 309 :: Value.str (Str.ofString "_tuplegetter.__get__") 310 :: Value.str (Str.ofString "/claim/cut.py") 311 :: Value.int 12 0 :: Value.int 3 0 :: Value.int 0 0 :: Value.int 0 0 :: Value.int 3 0 :: Value.ref 55 :: Value.bool true :: Value.int 273 0 :: Value.ref 56 :: Value.none :: Value.ref 57 :: Value.ref 58 :: Value.ref 59 :: Value.int 315 0 :: Value.int 12 0 :: Value.str (Str.ofString "/claim/cut.py") 316 :: [])) }
noncomputable def o106 : Params → Obj := fun P => { cls := Value.type "function", data := Data.func { name := Str.ofString "__get__", qualname := Str.ofString "_tuplegetter.__get__", params := (let_mvar% ?f135 := (fun (x : Arguments) (_ : prm (nth (inn (nth PySem.Challenge.pw_in0191_01.main.body 3)) 1) = x) => x); ?f135 _ (by conv => lhs; whnf)), body := FuncBody.stmts (let_mvar% ?f136 := (fun (x : List Stmt) (_ : inn (nth (inn (nth PySem.Challenge.pw_in0191_01.main.body 3)) 1) = x) => x); ?f136 _ (by conv => lhs; whnf)), scope := (let_mvar% ?f137 := (fun (x : Scope) (_ : scp (nth (inn (nth PySem.Challenge.pw_in0191_01.main.body 3)) 1) = x) => x); ?f137 _ (by conv => lhs; whnf)), globals := 3, closure := [], defaults := Value.ref 54, kwdefaults := Value.none, pyModule := Value.str (Str.ofString "cpy313.importlib.metadata._collections") 286, code := Value.ref 60 } }
noncomputable def o107 : Params → Obj := PySem.W.boot_o_7
noncomputable def o108 : Params → Obj := PySem.W.boot_o_8
noncomputable def o109 : Params → Obj := fun P => { cls := Value.type "tuple", data := Data.seq #[Value.str (Str.ofString "self") 321, Value.str (Str.ofString "obj") 322, Value.str (Str.ofString "value") 323] }
noncomputable def o110 : Params → Obj := PySem.W.boot_o_7
noncomputable def o111 : Params → Obj := fun P => { cls := Value.none, data := Data.func { name := Str.ofString "__set__", qualname := Str.ofString "_tuplegetter.__set__", params := (let_mvar% ?f138 := (fun (x : Arguments) (_ : prm (nth (inn (nth PySem.Challenge.pw_in0191_01.main.body 3)) 2) = x) => x); ?f138 _ (by conv => lhs; whnf)), body := FuncBody.stmts (let_mvar% ?f139 := (fun (x : List Stmt) (_ : inn (nth (inn (nth PySem.Challenge.pw_in0191_01.main.body 3)) 2) = x) => x); ?f139 _ (by conv => lhs; whnf)), scope := (let_mvar% ?f140 := (fun (x : Scope) (_ : scp (nth (inn (nth PySem.Challenge.pw_in0191_01.main.body 3)) 2) = x) => x); ?f140 _ (by conv => lhs; whnf)), globals := 0, closure := [], defaults := Value.none, kwdefaults := Value.none } }
noncomputable def o112 : Params → Obj := fun P => { cls := Value.type "code", data := Data.fields (List.toArray (Value.str (Str.ofString "__set__") 318 :: Value.str (Str.ofString "_tuplegetter.__set__") 319 :: Value.str (Str.ofString "/claim/cut.py") 320 :: Value.int 19 0 :: Value.int 3 0 :: Value.int 0 0 :: Value.int 0 0 :: Value.int 3 0 :: Value.ref 62 :: Value.bool true :: Value.int 273 0 :: Value.ref 63 :: Value.none :: Value.ref 64 :: Value.ref 65 :: Value.ref 66 :: Value.int 324 0 :: Value.int 19 0 :: Value.str (Str.ofString "/claim/cut.py") 325 :: [])) }
noncomputable def o113 : Params → Obj := fun P => { cls := Value.type "function", data := Data.func { name := Str.ofString "__set__", qualname := Str.ofString "_tuplegetter.__set__", params := (let_mvar% ?f141 := (fun (x : Arguments) (_ : prm (nth (inn (nth PySem.Challenge.pw_in0191_01.main.body 3)) 2) = x) => x); ?f141 _ (by conv => lhs; whnf)), body := FuncBody.stmts (let_mvar% ?f142 := (fun (x : List Stmt) (_ : inn (nth (inn (nth PySem.Challenge.pw_in0191_01.main.body 3)) 2) = x) => x); ?f142 _ (by conv => lhs; whnf)), scope := (let_mvar% ?f143 := (fun (x : Scope) (_ : scp (nth (inn (nth PySem.Challenge.pw_in0191_01.main.body 3)) 2) = x) => x); ?f143 _ (by conv => lhs; whnf)), globals := 3, closure := [], defaults := Value.none, kwdefaults := Value.none, pyModule := Value.str (Str.ofString "cpy313.importlib.metadata._collections") 286, code := Value.ref 67 } }
noncomputable def o114 : Params → Obj := PySem.W.boot_o_7
noncomputable def o115 : Params → Obj := PySem.W.boot_o_8
noncomputable def o116 : Params → Obj := fun P => { cls := Value.type "tuple", data := Data.seq #[Value.str (Str.ofString "self") 330, Value.str (Str.ofString "obj") 331] }
noncomputable def o117 : Params → Obj := PySem.W.boot_o_7
noncomputable def o118 : Params → Obj := fun P => { cls := Value.none, data := Data.func { name := Str.ofString "__delete__", qualname := Str.ofString "_tuplegetter.__delete__", params := (let_mvar% ?f144 := (fun (x : Arguments) (_ : prm (nth (inn (nth PySem.Challenge.pw_in0191_01.main.body 3)) 3) = x) => x); ?f144 _ (by conv => lhs; whnf)), body := FuncBody.stmts (let_mvar% ?f145 := (fun (x : List Stmt) (_ : inn (nth (inn (nth PySem.Challenge.pw_in0191_01.main.body 3)) 3) = x) => x); ?f145 _ (by conv => lhs; whnf)), scope := (let_mvar% ?f146 := (fun (x : Scope) (_ : scp (nth (inn (nth PySem.Challenge.pw_in0191_01.main.body 3)) 3) = x) => x); ?f146 _ (by conv => lhs; whnf)), globals := 0, closure := [], defaults := Value.none, kwdefaults := Value.none } }
noncomputable def o119 : Params → Obj := fun P => { cls := Value.type "code", data := Data.fields (List.toArray (Value.str (Str.ofString "__delete__") 327 :: Value.str (Str.ofString "_tuplegetter.__delete__") 328 :: Value.str (Str.ofString "/claim/cut.py") 329 :: Value.int 22 0 :: Value.int 2 0 :: Value.int 0 0 :: Value.int 0 0 :: Value.int 3 0 :: Value.ref 69 :: Value.bool true :: Value.int 273 0 :: Value.ref 70 :: Value.none :: Value.ref 71 :: Value.ref 72 :: Value.ref 73 :: Value.int 332 0 :: Value.int 22 0 :: Value.str (Str.ofString "/claim/cut.py") 333 :: [])) }
noncomputable def o120 : Params → Obj := fun P => { cls := Value.type "function", data := Data.func { name := Str.ofString "__delete__", qualname := Str.ofString "_tuplegetter.__delete__", params := (let_mvar% ?f147 := (fun (x : Arguments) (_ : prm (nth (inn (nth PySem.Challenge.pw_in0191_01.main.body 3)) 3) = x) => x); ?f147 _ (by conv => lhs; whnf)), body := FuncBody.stmts (let_mvar% ?f148 := (fun (x : List Stmt) (_ : inn (nth (inn (nth PySem.Challenge.pw_in0191_01.main.body 3)) 3) = x) => x); ?f148 _ (by conv => lhs; whnf)), scope := (let_mvar% ?f149 := (fun (x : Scope) (_ : scp (nth (inn (nth PySem.Challenge.pw_in0191_01.main.body 3)) 3) = x) => x); ?f149 _ (by conv => lhs; whnf)), globals := 3, closure := [], defaults := Value.none, kwdefaults := Value.none, pyModule := Value.str (Str.ofString "cpy313.importlib.metadata._collections") 286, code := Value.ref 74 } }
noncomputable def o121 : Params → Obj := fun P => { cls := Value.type "tuple", data := Data.seq #[Value.str (Str.ofString "__doc__") 335, Value.str (Str.ofString "index") 336] }
noncomputable def o122 : Params → Obj := fun P => { cls := Value.type "dict", data := Data.dict (List.toArray ({ hash := PyData.keyHash P (Str.ofString "__module__"), key := Value.str (Str.ofString "__module__") 295, val := Value.str (Str.ofString "cpy313.importlib.metadata._collections") 286 } :: { hash := PyData.keyHash P (Str.ofString "__firstlineno__"), key := Value.str (Str.ofString "__firstlineno__") 299, val := Value.int 6 298 } :: { hash := PyData.keyHash P (Str.ofString "__init__"), key := Value.str (Str.ofString "__init__") 308, val := Value.ref 53 } :: { hash := PyData.keyHash P (Str.ofString "__get__"), key := Value.str (Str.ofString "__get__") 317, val := Value.ref 61 } :: { hash := PyData.keyHash P (Str.ofString "__set__"), key := Value.str (Str.ofString "__set__") 326, val := Value.ref 68 } :: { hash := PyData.keyHash P (Str.ofString "__delete__"), key := Value.str (Str.ofString "__delete__") 334, val := Value.ref 75 } :: { hash := PyData.keyHash P (Str.ofString "__static_attributes__"), key := Value.str (Str.ofString "__static_attributes__") 337, val := Value.ref 76 } :: { hash := PyData.keyHash P (Str.ofString "__dict__"), key := Value.str (Str.ofString "__dict__") 339, val := Value.ref 79 } :: { hash := PyData.keyHash P (Str.ofString "__weakref__"), key := Value.str (Str.ofString "__weakref__") 341, val := Value.ref 80 } :: { hash := PyData.keyHash P (Str.ofString "__doc__"), key := Value.str (Str.ofString "__doc__") 342, val := Value.none } :: [])) 4 }
noncomputable def o123 : Params → Obj := fun P => { cls := Value.type "type", data := Data.cls { name := Str.ofString "_tuplegetter", bases := [Value.type "object"], mro := [Value.ref 78, Value.type "object"], ns := 77, qualname := Str.ofString "_tuplegetter" }, slots := #[none, none, some (Value.str (Str.ofString "_tuplegetter") 288), some (Value.str (Str.ofString "_tuplegetter") 296), some (Value.builtin "object.__new__"), some (Value.bool true)] }
noncomputable def o124 : Params → Obj := fun P => { cls := Value.type "getset_descriptor", data := Data.fields #[Value.str (Str.ofString "__dict__") 338, Value.ref 78, Value.builtin "function.__dict__", Value.builtin "function.__dict__#set"] }
noncomputable def o125 : Params → Obj := fun P => { cls := Value.type "getset_descriptor", data := Data.fields #[Value.str (Str.ofString "__weakref__") 340, Value.ref 78, Value.builtin "ExceptionGroup.__weakref__", Value.none] }
noncomputable def o126 : Params → Obj := fun P => { cls := Value.type "super", data := Data.fields #[Value.ref 78, Value.ref 78, Value.ref 78] }
noncomputable def o127 : Params → Obj := fun P => { cls := Value.type "builtin_function_or_method", data := Data.fields #[Value.builtin "object.__init_subclass__", Value.ref 78] }
noncomputable def o128 : Params → Obj := fun P => { cls := Value.none, data := Data.dict (List.toArray ({ hash := PyData.keyHash P (Str.ofString "\x69mport.loaded._collections"), key := Value.str (Str.ofString "\x69mport.loaded._collections") 185, val := Value.bool true } :: { hash := PyData.keyHash P (Str.ofString "class._frozen_importlib.BuiltinImporter"), key := Value.str (Str.ofString "class._frozen_importlib.BuiltinImporter") 187, val := Value.ref 15 } :: { hash := PyData.keyHash P (Str.ofString "watched.\x69mport"), key := Value.str (Str.ofString "watched.\x69mport") 208, val := Value.ref 19 } :: { hash := PyData.keyHash P (Str.ofString "class._frozen_importlib.ModuleSpec"), key := Value.str (Str.ofString "class._frozen_importlib.ModuleSpec") 218, val := Value.ref 23 } :: { hash := PyData.keyHash P (Str.ofString "sys.modules.booked-epoch"), key := Value.str (Str.ofString "sys.modules.booked-epoch") 247, val := Value.int 3 0 } :: { hash := PyData.keyHash P (Str.ofString "sys.modules.landed._collections"), key := Value.str (Str.ofString "sys.modules.landed._collections") 248, val := Value.bool true } :: { hash := PyData.keyHash P (Str.ofString "\x69mport.later-laid._collections"), key := Value.str (Str.ofString "\x69mport.later-laid._collections") 263, val := Value.bool true } :: { hash := PyData.keyHash P (Str.ofString "watched.library"), key := Value.str (Str.ofString "watched.library") 265, val := Value.ref 28 } :: { hash := PyData.keyHash P (Str.ofString "watched.library-objects"), key := Value.str (Str.ofString "watched.library-objects") 0, val := Value.str (Str.ofString "\x0d") 0 } :: { hash := PyData.keyHash P (Str.ofString "watched.library-deep._collections"), key := Value.str (Str.ofString "watched.library-deep._collections") 266, val := Value.str (Str.ofString "\x04\x00\x00\x0c\x04\x00\x00\x0c\x04\x00\x00\x03\x04\x00\x00\x0c\x08\x04dict\x02") 0 } :: { hash := PyData.keyHash P (Str.ofString "type.__subclasses__.collections.defaultdict.0"), key := Value.str (Str.ofString "type.__subclasses__.collections.defaultdict.0") 384, val := Value.int 108 0 } :: { hash := PyData.keyHash P (Str.ofString "type.__subclasses__.collections.defaultdict.n"), key := Value.str (Str.ofString "type.__subclasses__.collections.defaultdict.n") 385, val := Value.int 1 0 } :: [])) 12 }
noncomputable def o129 : Params → Obj := fun P => { cls := Value.type "dict", data := Data.dict (List.toArray ({ hash := PyData.keyHash P (Str.ofString "__name__"), key := Value.str (Str.ofString "__name__") 165, val := Value.str (Str.ofString "cpy313.importlib.metadata._collections") 286 } :: { hash := PyData.keyHash P (Str.ofString "__doc__"), key := Value.str (Str.ofString "__doc__") 166, val := Value.none } :: { hash := PyData.keyHash P (Str.ofString "__package__"), key := Value.str (Str.ofString "__package__") 167, val := Value.none } :: { hash := PyData.keyHash P (Str.ofString "__loader__"), key := Value.str (Str.ofString "__loader__") 168, val := Value.builtin "__main__.__loader__#opaque" } :: { hash := PyData.keyHash P (Str.ofString "__spec__"), key := Value.str (Str.ofString "__spec__") 169, val := Value.none } :: { hash := PyData.keyHash P (Str.ofString "__annotations__"), key := Value.str (Str.ofString "__annotations__") 170, val := Value.ref 6 } :: { hash := PyData.keyHash P (Str.ofString "__builtins__"), key := Value.str (Str.ofString "__builtins__") 171, val := Value.ref 4 } :: { hash := PyData.keyHash P (Str.ofString "__file__"), key := Value.str (Str.ofString "__file__") 173, val := Value.str (Str.ofString "/claim/cut.py") 172 } :: { hash := PyData.keyHash P (Str.ofString "__cached__"), key := Value.str (Str.ofString "__cached__") 174, val := Value.none } :: { hash := PyData.keyHash P (Str.ofString "defaultdict"), key := Value.str (Str.ofString "defaultdict") 272, val := Value.type "collections.defaultdict" } :: { hash := PyData.keyHash P (Str.ofString "_wall"), key := Value.str (Str.ofString "_wall") 285, val := Value.ref 39 } :: { hash := PyData.keyHash P (Str.ofString "_tuplegetter"), key := Value.str (Str.ofString "_tuplegetter") 344, val := Value.ref 78 } :: { hash := PyData.keyHash P (Str.ofString "FreezableDefaultDict"), key := Value.str (Str.ofString "FreezableDefaultDict") 387, val := Value.ref 108 } :: [])) 13 }
noncomputable def o130 : Params → Obj := fun P => { cls := Value.none, data := Data.fields (List.toArray (Value.int 2 0 :: Value.int 0 0 :: Value.ref 38 :: Value.int 6 0 :: Value.int 0 0 :: Value.ref 45 :: Value.int 24 0 :: Value.int 0 0 :: Value.ref 89 :: [])) }
noncomputable def o131 : Params → Obj := fun P => { cls := Value.type "tuple", data := Data.seq #[Value.type "collections.defaultdict"] }
noncomputable def o132 : Params → Obj := fun P => { cls := Value.type "builtin_function_or_method", data := Data.fields #[Value.builtin "type.__prepare__", Value.type "type"] }
noncomputable def o133 : Params → Obj := fun P => { cls := Value.type "dict", data := Data.dict (List.toArray ({ hash := PyData.keyHash P (Str.ofString "__module__"), key := Value.str (Str.ofString "__module__") 352, val := Value.str (Str.ofString "cpy313.importlib.metadata._collections") 286 } :: { hash := PyData.keyHash P (Str.ofString "__qualname__"), key := Value.str (Str.ofString "__qualname__") 354, val := Value.str (Str.ofString "FreezableDefaultDict") 353 } :: { hash := PyData.keyHash P (Str.ofString "__firstlineno__"), key := Value.str (Str.ofString "__firstlineno__") 356, val := Value.int 24 355 } :: { hash := PyData.keyHash P (Str.ofString "__doc__"), key := Value.str (Str.ofString "__doc__") 358, val := Value.str ((let_mvar% ?f150 := (fun (x : Str) (_ : doc (nth PySem.Challenge.pw_in0191_01.main.body 4) = Const.str x) => x); ?f150 _ (by conv => lhs; whnf))) 357 } :: { hash := PyData.keyHash P (Str.ofString "__missing__"), key := Value.str (Str.ofString "__missing__") 368, val := Value.ref 98 } :: { hash := PyData.keyHash P (Str.ofString "freeze"), key := Value.str (Str.ofString "freeze") 376, val := Value.ref 105 } :: { hash := PyData.keyHash P (Str.ofString "__static_attributes__"), key := Value.str (Str.ofString "__static_attributes__") 378, val := Value.ref 106 } :: { hash := PyData.keyHash P (Str.ofString "__classcell__"), key := Value.str (Str.ofString "__classcell__") 379, val := Value.ref 86 } :: [])) 8 }
noncomputable def o134 : Params → Obj := fun P => { cls := Value.type "cell", data := Data.cell (some (Value.ref 108)) }
noncomputable def o135 : Params → Obj := PySem.W.boot_o_7
noncomputable def o136 : Params → Obj := fun P => { cls := Value.none, data := Data.fields #[Value.int 39 0, Value.int 4 0, Value.ref 97, Value.int 42 0, Value.int 4 0, Value.ref 104] }
noncomputable def o137 : Params → Obj := fun P => { cls := Value.type "code", data := Data.fields (List.toArray (Value.str (Str.ofString "FreezableDefaultDict") 347 :: Value.str (Str.ofString "FreezableDefaultDict") 348 :: Value.str (Str.ofString "/claim/cut.py") 349 :: Value.int 24 0 :: Value.int 0 0 :: Value.int 0 0 :: Value.int 0 0 :: Value.int 0 0 :: Value.ref 87 :: Value.bool false :: Value.int 273 0 :: Value.ref 88 :: Value.none :: Value.none :: Value.none :: Value.none :: Value.int 350 0 :: Value.int 24 0 :: Value.str (Str.ofString "/claim/cut.py") 351 :: [])) }
noncomputable def o138 : Params → Obj := fun P => { cls := Value.type "frame", slots := (List.toArray (some (Value.ref 89) :: some (Value.ref 3) :: some (Value.ref 85) :: none :: some (Value.str (Str.ofString "cpy313.importlib.metadata._collections") 286) :: none :: some (Value.ref 0) :: [])) }
noncomputable def o139 : Params → Obj := fun P => { cls := Value.type "tuple", data := Data.seq #[Value.ref 86] }
noncomputable def o140 : Params → Obj := fun P => { cls := Value.type "tuple", data := Data.seq #[Value.str (Str.ofString "__class__") 363] }
noncomputable def o141 : Params → Obj := PySem.W.boot_o_8
noncomputable def o142 : Params → Obj := fun P => { cls := Value.type "tuple", data := Data.seq #[Value.str (Str.ofString "self") 364, Value.str (Str.ofString "key") 365] }
noncomputable def o143 : Params → Obj := PySem.W.boot_o_7
noncomputable def o144 : Params → Obj := fun P => { cls := Value.none, data := Data.func { name := Str.ofString "__missing__", qualname := Str.ofString "FreezableDefaultDict.__missing__", params := (let_mvar% ?f151 := (fun (x : Arguments) (_ : prm (nth (inn (nth PySem.Challenge.pw_in0191_01.main.body 4)) 1) = x) => x); ?f151 _ (by conv => lhs; whnf)), body := FuncBody.stmts (let_mvar% ?f152 := (fun (x : List Stmt) (_ : inn (nth (inn (nth PySem.Challenge.pw_in0191_01.main.body 4)) 1) = x) => x); ?f152 _ (by conv => lhs; whnf)), scope := (let_mvar% ?f153 := (fun (x : Scope) (_ : scp (nth (inn (nth PySem.Challenge.pw_in0191_01.main.body 4)) 1) = x) => x); ?f153 _ (by conv => lhs; whnf)), globals := 0, closure := [], defaults := Value.none, kwdefaults := Value.none } }
noncomputable def o145 : Params → Obj := fun P => { cls := Value.type "code", data := Data.fields (List.toArray (Value.str (Str.ofString "__missing__") 360 :: Value.str (Str.ofString "FreezableDefaultDict.__missing__") 361 :: Value.str (Str.ofString "/claim/cut.py") 362 :: Value.int 39 0 :: Value.int 2 0 :: Value.int 0 0 :: Value.int 0 0 :: Value.int 3 0 :: Value.ref 92 :: Value.bool true :: Value.int 273 0 :: Value.ref 93 :: Value.none :: Value.ref 94 :: Value.ref 95 :: Value.ref 96 :: Value.int 366 0 :: Value.int 39 0 :: Value.str (Str.ofString "/claim/cut.py") 367 :: [])) }
noncomputable def o146 : Params → Obj := fun P => { cls := Value.type "function", data := Data.func { name := Str.ofString "__missing__", qualname := Str.ofString "FreezableDefaultDict.__missing__", params := (let_mvar% ?f154 := (fun (x : Arguments) (_ : prm (nth (inn (nth PySem.Challenge.pw_in0191_01.main.body 4)) 1) = x) => x); ?f154 _ (by conv => lhs; whnf)), body := FuncBody.stmts (let_mvar% ?f155 := (fun (x : List Stmt) (_ : inn (nth (inn (nth PySem.Challenge.pw_in0191_01.main.body 4)) 1) = x) => x); ?f155 _ (by conv => lhs; whnf)), scope := (let_mvar% ?f156 := (fun (x : Scope) (_ : scp (nth (inn (nth PySem.Challenge.pw_in0191_01.main.body 4)) 1) = x) => x); ?f156 _ (by conv => lhs; whnf)), globals := 3, closure := [(Str.ofString "__class__", 86)], defaults := Value.none, kwdefaults := Value.none, pyModule := Value.str (Str.ofString "cpy313.importlib.metadata._collections") 286, code := Value.ref 97, closureTuple := Value.ref 91 } }
noncomputable def o147 : Params → Obj := PySem.W.boot_o_7
noncomputable def o148 : Params → Obj := PySem.W.boot_o_8
noncomputable def o149 : Params → Obj := fun P => { cls := Value.type "tuple", data := Data.seq #[Value.str (Str.ofString "self") 372] }
noncomputable def o150 : Params → Obj := fun P => { cls := Value.type "tuple", data := Data.seq #[Value.str (Str.ofString "self") 373] }
noncomputable def o151 : Params → Obj := fun P => { cls := Value.none, data := Data.func { name := Str.ofString "freeze", qualname := Str.ofString "FreezableDefaultDict.freeze", params := (let_mvar% ?f157 := (fun (x : Arguments) (_ : prm (nth (inn (nth PySem.Challenge.pw_in0191_01.main.body 4)) 2) = x) => x); ?f157 _ (by conv => lhs; whnf)), body := FuncBody.stmts (let_mvar% ?f158 := (fun (x : List Stmt) (_ : inn (nth (inn (nth PySem.Challenge.pw_in0191_01.main.body 4)) 2) = x) => x); ?f158 _ (by conv => lhs; whnf)), scope := (let_mvar% ?f159 := (fun (x : Scope) (_ : scp (nth (inn (nth PySem.Challenge.pw_in0191_01.main.body 4)) 2) = x) => x); ?f159 _ (by conv => lhs; whnf)), globals := 0, closure := [], defaults := Value.none, kwdefaults := Value.none } }
noncomputable def o152 : Params → Obj := fun P => { cls := Value.type "code", data := Data.fields (List.toArray (Value.str (Str.ofString "freeze") 369 :: Value.str (Str.ofString "FreezableDefaultDict.freeze") 370 :: Value.str (Str.ofString "/claim/cut.py") 371 :: Value.int 42 0 :: Value.int 1 0 :: Value.int 0 0 :: Value.int 0 0 :: Value.int 3 0 :: Value.ref 99 :: Value.bool true :: Value.int 273 0 :: Value.ref 100 :: Value.none :: Value.ref 101 :: Value.ref 102 :: Value.ref 103 :: Value.int 374 0 :: Value.int 42 0 :: Value.str (Str.ofString "/claim/cut.py") 375 :: [])) }
noncomputable def o153 : Params → Obj := fun P => { cls := Value.type "function", data := Data.func { name := Str.ofString "freeze", qualname := Str.ofString "FreezableDefaultDict.freeze", params := (let_mvar% ?f160 := (fun (x : Arguments) (_ : prm (nth (inn (nth PySem.Challenge.pw_in0191_01.main.body 4)) 2) = x) => x); ?f160 _ (by conv => lhs; whnf)), body := FuncBody.stmts (let_mvar% ?f161 := (fun (x : List Stmt) (_ : inn (nth (inn (nth PySem.Challenge.pw_in0191_01.main.body 4)) 2) = x) => x); ?f161 _ (by conv => lhs; whnf)), scope := (let_mvar% ?f162 := (fun (x : Scope) (_ : scp (nth (inn (nth PySem.Challenge.pw_in0191_01.main.body 4)) 2) = x) => x); ?f162 _ (by conv => lhs; whnf)), globals := 3, closure := [], defaults := Value.none, kwdefaults := Value.none, pyModule := Value.str (Str.ofString "cpy313.importlib.metadata._collections") 286, code := Value.ref 104 } }
noncomputable def o154 : Params → Obj := fun P => { cls := Value.type "tuple", data := Data.seq #[Value.str (Str.ofString "_frozen") 377] }
noncomputable def o155 : Params → Obj := fun P => { cls := Value.type "dict", data := Data.dict (List.toArray ({ hash := PyData.keyHash P (Str.ofString "__module__"), key := Value.str (Str.ofString "__module__") 352, val := Value.str (Str.ofString "cpy313.importlib.metadata._collections") 286 } :: { hash := PyData.keyHash P (Str.ofString "__firstlineno__"), key := Value.str (Str.ofString "__firstlineno__") 356, val := Value.int 24 355 } :: { hash := PyData.keyHash P (Str.ofString "__doc__"), key := Value.str (Str.ofString "__doc__") 358, val := Value.str ((let_mvar% ?f163 := (fun (x : Str) (_ : doc (nth PySem.Challenge.pw_in0191_01.main.body 4) = Const.str x) => x); ?f163 _ (by conv => lhs; whnf))) 357 } :: { hash := PyData.keyHash P (Str.ofString "__missing__"), key := Value.str (Str.ofString "__missing__") 368, val := Value.ref 98 } :: { hash := PyData.keyHash P (Str.ofString "freeze"), key := Value.str (Str.ofString "freeze") 376, val := Value.ref 105 } :: { hash := PyData.keyHash P (Str.ofString "__static_attributes__"), key := Value.str (Str.ofString "__static_attributes__") 378, val := Value.ref 106 } :: { hash := PyData.keyHash P (Str.ofString "__dict__"), key := Value.str (Str.ofString "__dict__") 381, val := Value.ref 109 } :: { hash := PyData.keyHash P (Str.ofString "__weakref__"), key := Value.str (Str.ofString "__weakref__") 383, val := Value.ref 110 } :: [])) 4 }
noncomputable def o156 : Params → Obj := fun P => { cls := Value.type "type", data := Data.cls { name := Str.ofString "FreezableDefaultDict", bases := [Value.type "collections.defaultdict"], mro := [Value.ref 108, Value.type "collections.defaultdict", Value.type "dict", Value.type "object"], ns := 107, qualname := Str.ofString "FreezableDefaultDict", slotNames := [Str.ofString ""] }, slots := #[some (Value.ref 83), none, some (Value.str (Str.ofString "FreezableDefaultDict") 345), some (Value.str (Str.ofString "FreezableDefaultDict") 353), some (Value.builtin "dict.__new__"), some (Value.bool true)] }
noncomputable def o157 : Params → Obj := fun P => { cls := Value.type "getset_descriptor", data := Data.fields #[Value.str (Str.ofString "__dict__") 380, Value.ref 108, Value.builtin "function.__dict__", Value.builtin "function.__dict__#set"] }
noncomputable def o158 : Params → Obj := fun P => { cls := Value.type "getset_descriptor", data := Data.fields #[Value.str (Str.ofString "__weakref__") 382, Value.ref 108, Value.builtin "ExceptionGroup.__weakref__", Value.none] }
noncomputable def o159 : Params → Obj := fun P => { cls := Value.type "super", data := Data.fields #[Value.ref 108, Value.ref 108, Value.ref 108] }
noncomputable def o160 : Params → Obj := fun P => { cls := Value.type "builtin_function_or_method", data := Data.fields #[Value.builtin "object.__init_subclass__", Value.ref 108] }
noncomputable def o161 : Params → Obj := fun P => { cls := Value.type "dict", data := Data.dict (List.toArray ({ hash := PyData.keyHash P (Str.ofString "__name__"), key := Value.str (Str.ofString "__name__") 165, val := Value.str (Str.ofString "cpy313.importlib.metadata._collections") 286 } :: { hash := PyData.keyHash P (Str.ofString "__doc__"), key := Value.str (Str.ofString "__doc__") 166, val := Value.none } :: { hash := PyData.keyHash P (Str.ofString "__package__"), key := Value.str (Str.ofString "__package__") 167, val := Value.none } :: { hash := PyData.keyHash P (Str.ofString "__loader__"), key := Value.str (Str.ofString "__loader__") 168, val := Value.builtin "__main__.__loader__#opaque" } :: { hash := PyData.keyHash P (Str.ofString "__spec__"), key := Value.str (Str.ofString "__spec__") 169, val := Value.none } :: { hash := PyData.keyHash P (Str.ofString "__annotations__"), key := Value.str (Str.ofString "__annotations__") 170, val := Value.ref 6 } :: { hash := PyData.keyHash P (Str.ofString "__builtins__"), key := Value.str (Str.ofString "__builtins__") 171, val := Value.ref 4 } :: { hash := PyData.keyHash P (Str.ofString "__file__"), key := Value.str (Str.ofString "__file__") 173, val := Value.str (Str.ofString "/claim/cut.py") 172 } :: { hash := PyData.keyHash P (Str.ofString "__cached__"), key := Value.str (Str.ofString "__cached__") 174, val := Value.none } :: { hash := PyData.keyHash P (Str.ofString "defaultdict"), key := Value.str (Str.ofString "defaultdict") 272, val := Value.type "collections.defaultdict" } :: { hash := PyData.keyHash P (Str.ofString "_wall"), key := Value.str (Str.ofString "_wall") 285, val := Value.ref 39 } :: { hash := PyData.keyHash P (Str.ofString "_tuplegetter"), key := Value.str (Str.ofString "_tuplegetter") 344, val := Value.ref 78 } :: { hash := PyData.keyHash P (Str.ofString "FreezableDefaultDict"), key := Value.str (Str.ofString "FreezableDefaultDict") 387, val := Value.ref 108 } :: { hash := PyData.keyHash P (Str.ofString "Pair"), key := Value.str (Str.ofString "Pair") 502, val := Value.ref 180 } :: [])) 14 }
noncomputable def o162 : Params → Obj := fun P => { cls := Value.none, data := Data.fields (List.toArray (Value.int 2 0 :: Value.int 0 0 :: Value.ref 38 :: Value.int 6 0 :: Value.int 0 0 :: Value.ref 45 :: Value.int 24 0 :: Value.int 0 0 :: Value.ref 89 :: Value.int 44 0 :: Value.int 0 0 :: Value.ref 119 :: [])) }
noncomputable def o163 : Params → Obj := fun P => { cls := Value.type "tuple", data := Data.seq #[Value.type "tuple"] }
noncomputable def o164 : Params → Obj := fun P => { cls := Value.type "builtin_function_or_method", data := Data.fields #[Value.builtin "type.__prepare__", Value.type "type"] }
noncomputable def o165 : Params → Obj := fun P => { cls := Value.type "dict", data := Data.dict (List.toArray ({ hash := PyData.keyHash P (Str.ofString "__module__"), key := Value.str (Str.ofString "__module__") 395, val := Value.str (Str.ofString "cpy313.importlib.metadata._collections") 286 } :: { hash := PyData.keyHash P (Str.ofString "__qualname__"), key := Value.str (Str.ofString "__qualname__") 397, val := Value.str (Str.ofString "Pair") 396 } :: { hash := PyData.keyHash P (Str.ofString "__firstlineno__"), key := Value.str (Str.ofString "__firstlineno__") 399, val := Value.int 44 398 } :: { hash := PyData.keyHash P (Str.ofString "__doc__"), key := Value.str (Str.ofString "__doc__") 401, val := Value.str ((let_mvar% ?f164 := (fun (x : Str) (_ : doc (nth PySem.Challenge.pw_in0191_01.main.body 5) = Const.str x) => x); ?f164 _ (by conv => lhs; whnf))) 400 } :: { hash := PyData.keyHash P (Str.ofString "__slots__"), key := Value.str (Str.ofString "__slots__") 403, val := Value.ref 121 } :: { hash := PyData.keyHash P (Str.ofString "_fields"), key := Value.str (Str.ofString "_fields") 406, val := Value.ref 122 } :: { hash := PyData.keyHash P (Str.ofString "_field_defaults"), key := Value.str (Str.ofString "_field_defaults") 407, val := Value.ref 123 } :: { hash := PyData.keyHash P (Str.ofString "__new__"), key := Value.str (Str.ofString "__new__") 417, val := Value.ref 130 } :: { hash := PyData.keyHash P (Str.ofString "_make"), key := Value.str (Str.ofString "_make") 439, val := Value.ref 139 } :: { hash := PyData.keyHash P (Str.ofString "_replace"), key := Value.str (Str.ofString "_replace") 450, val := Value.ref 148 } :: { hash := PyData.keyHash P (Str.ofString "__replace__"), key := Value.str (Str.ofString "__replace__") 451, val := Value.ref 148 } :: { hash := PyData.keyHash P (Str.ofString "__repr__"), key := Value.str (Str.ofString "__repr__") 459, val := Value.ref 155 } :: { hash := PyData.keyHash P (Str.ofString "_asdict"), key := Value.str (Str.ofString "_asdict") 466, val := Value.ref 162 } :: { hash := PyData.keyHash P (Str.ofString "__getnewargs__"), key := Value.str (Str.ofString "__getnewargs__") 474, val := Value.ref 169 } :: { hash := PyData.keyHash P (Str.ofString "__match_args__"), key := Value.str (Str.ofString "__match_args__") 477, val := Value.ref 170 } :: { hash := PyData.keyHash P (Str.ofString "name"), key := Value.str (Str.ofString "name") 487, val := Value.ref 172 } :: { hash := PyData.keyHash P (Str.ofString "value"), key := Value.str (Str.ofString "value") 497, val := Value.ref 175 } :: { hash := PyData.keyHash P (Str.ofString "__static_attributes__"), key := Value.str (Str.ofString "__static_attributes__") 498, val := Value.ref 177 } :: { hash := PyData.keyHash P (Str.ofString "__classcell__"), key := Value.str (Str.ofString "__classcell__") 499, val := Value.ref 116 } :: [])) 19 }
noncomputable def o166 : Params → Obj := fun P => { cls := Value.type "cell", data := Data.cell (some (Value.ref 180)) }
noncomputable def o167 : Params → Obj := PySem.W.boot_o_7
noncomputable def o168 : Params → Obj := fun P => { cls := Value.none, data := Data.fields (List.toArray (Value.int 50 0 :: Value.int 4 0 :: Value.ref 129 :: Value.int 55 0 :: Value.int 4 0 :: Value.ref 136 :: Value.int 62 0 :: Value.int 4 0 :: Value.ref 147 :: Value.int 73 0 :: Value.int 4 0 :: Value.ref 154 :: Value.int 77 0 :: Value.int 4 0 :: Value.ref 161 :: Value.int 80 0 :: Value.int 4 0 :: Value.ref 168 :: [])) }
noncomputable def o169 : Params → Obj := fun P => { cls := Value.type "code", data := Data.fields (List.toArray (Value.str (Str.ofString "Pair") 390 :: Value.str (Str.ofString "Pair") 391 :: Value.str (Str.ofString "/claim/cut.py") 392 :: Value.int 44 0 :: Value.int 0 0 :: Value.int 0 0 :: Value.int 0 0 :: Value.int 0 0 :: Value.ref 117 :: Value.bool false :: Value.int 273 0 :: Value.ref 118 :: Value.none :: Value.none :: Value.none :: Value.none :: Value.int 393 0 :: Value.int 44 0 :: Value.str (Str.ofString "/claim/cut.py") 394 :: [])) }
noncomputable def o170 : Params → Obj := fun P => { cls := Value.type "frame", slots := (List.toArray (some (Value.ref 119) :: some (Value.ref 3) :: some (Value.ref 115) :: none :: some (Value.str (Str.ofString "cpy313.importlib.metadata._collections") 286) :: none :: some (Value.ref 0) :: [])) }
noncomputable def o171 : Params → Obj := PySem.W.boot_o_7
noncomputable def o172 : Params → Obj := fun P => { cls := Value.type "tuple", data := Data.seq #[Value.str (Str.ofString "name") 404, Value.str (Str.ofString "value") 405] }
noncomputable def o173 : Params → Obj := PySem.W.boot_o_6
noncomputable def o174 : Params → Obj := PySem.W.boot_o_7
noncomputable def o175 : Params → Obj := PySem.W.boot_o_8
noncomputable def o176 : Params → Obj := fun P => { cls := Value.type "tuple", data := Data.seq #[Value.str (Str.ofString "_cls") 411, Value.str (Str.ofString "name") 412, Value.str (Str.ofString "value") 413] }
noncomputable def o177 : Params → Obj := PySem.W.boot_o_7
noncomputable def o178 : Params → Obj := fun P => { cls := Value.none, data := Data.func { name := Str.ofString "__new__", qualname := Str.ofString "Pair.__new__", params := (let_mvar% ?f165 := (fun (x : Arguments) (_ : prm (nth (inn (nth PySem.Challenge.pw_in0191_01.main.body 5)) 4) = x) => x); ?f165 _ (by conv => lhs; whnf)), body := FuncBody.stmts (let_mvar% ?f166 := (fun (x : List Stmt) (_ : inn (nth (inn (nth PySem.Challenge.pw_in0191_01.main.body 5)) 4) = x) => x); ?f166 _ (by conv => lhs; whnf)), scope := (let_mvar% ?f167 := (fun (x : Scope) (_ : scp (nth (inn (nth PySem.Challenge.pw_in0191_01.main.body 5)) 4) = x) => x); ?f167 _ (by conv => lhs; whnf)), globals := 0, closure := [], defaults := Value.none, kwdefaults := Value.none } }
noncomputable def o179 : Params → Obj := fun P => { cls := Value.type "code", data := Data.fields (List.toArray (Value.str (Str.ofString "__new__") 408 :: Value.str (Str.ofString "Pair.__new__") 409 :: Value.str (Str.ofString "/claim/cut.py") 410 :: Value.int 50 0 :: Value.int 3 0 :: Value.int 0 0 :: Value.int 0 0 :: Value.int 3 0 :: Value.ref 124 :: Value.bool true :: Value.int 273 0 :: Value.ref 125 :: Value.none :: Value.ref 126 :: Value.ref 127 :: Value.ref 128 :: Value.int 414 0 :: Value.int 50 0 :: Value.str (Str.ofString "/claim/cut.py") 415 :: [])) }
noncomputable def o180 : Params → Obj := fun P => { cls := Value.type "function", data := Data.func { name := Str.ofString "__new__", qualname := Str.ofString "Pair.__new__", params := (let_mvar% ?f168 := (fun (x : Arguments) (_ : prm (nth (inn (nth PySem.Challenge.pw_in0191_01.main.body 5)) 4) = x) => x); ?f168 _ (by conv => lhs; whnf)), body := FuncBody.stmts (let_mvar% ?f169 := (fun (x : List Stmt) (_ : inn (nth (inn (nth PySem.Challenge.pw_in0191_01.main.body 5)) 4) = x) => x); ?f169 _ (by conv => lhs; whnf)), scope := (let_mvar% ?f170 := (fun (x : Scope) (_ : scp (nth (inn (nth PySem.Challenge.pw_in0191_01.main.body 5)) 4) = x) => x); ?f170 _ (by conv => lhs; whnf)), globals := 3, closure := [], defaults := Value.none, kwdefaults := Value.none, doc := Value.str ((let_mvar% ?f171 := (fun (x : Str) (_ : doc (nth (inn (nth PySem.Challenge.pw_in0191_01.main.body 5)) 4) = Const.str x) => x); ?f171 _ (by conv => lhs; whnf))) 416, pyModule := Value.str (Str.ofString "cpy313.importlib.metadata._collections") 286, code := Value.ref 129 } }
noncomputable def o181 : Params → Obj := PySem.W.boot_o_7
noncomputable def o182 : Params → Obj := PySem.W.boot_o_8
noncomputable def o183 : Params → Obj := fun P => { cls := Value.type "tuple", data := Data.seq #[Value.str (Str.ofString "cls") 421, Value.str (Str.ofString "iterable") 422, Value.str (Str.ofString "result") 423] }
noncomputable def o184 : Params → Obj := PySem.W.boot_o_7
noncomputable def o185 : Params → Obj := fun P => { cls := Value.none, data := Data.func { name := Str.ofString "_make", qualname := Str.ofString "Pair._make", params := (let_mvar% ?f172 := (fun (x : Arguments) (_ : prm (nth (inn (nth PySem.Challenge.pw_in0191_01.main.body 5)) 5) = x) => x); ?f172 _ (by conv => lhs; whnf)), body := FuncBody.stmts (let_mvar% ?f173 := (fun (x : List Stmt) (_ : inn (nth (inn (nth PySem.Challenge.pw_in0191_01.main.body 5)) 5) = x) => x); ?f173 _ (by conv => lhs; whnf)), scope := (let_mvar% ?f174 := (fun (x : Scope) (_ : scp (nth (inn (nth PySem.Challenge.pw_in0191_01.main.body 5)) 5) = x) => x); ?f174 _ (by conv => lhs; whnf)), globals := 0, closure := [], defaults := Value.none, kwdefaults := Value.none } }
noncomputable def o186 : Params → Obj := fun P => { cls := Value.type "code", data := Data.fields (List.toArray (Value.str (Str.ofString "_make") 418 :: Value.str (Str.ofString "Pair._make") 419 :: Value.str (Str.ofString "/claim/cut.py") 420 :: Value.int 54 0 :: Value.int 2 0 :: Value.int 0 0 :: Value.int 0 0 :: Value.int 3 0 :: Value.ref 131 :: Value.bool true :: Value.int 273 0 :: Value.ref 132 :: Value.none :: Value.ref 133 :: Value.ref 134 :: Value.ref 135 :: Value.int 424 0 :: Value.int 54 0 :: Value.str (Str.ofString "/claim/cut.py") 425 :: [])) }
noncomputable def o187 : Params → Obj := fun P => { cls := Value.type "function", data := Data.func { name := Str.ofString "_make", qualname := Str.ofString "Pair._make", params := (let_mvar% ?f175 := (fun (x : Arguments) (_ : prm (nth (inn (nth PySem.Challenge.pw_in0191_01.main.body 5)) 5) = x) => x); ?f175 _ (by conv => lhs; whnf)), body := FuncBody.stmts (let_mvar% ?f176 := (fun (x : List Stmt) (_ : inn (nth (inn (nth PySem.Challenge.pw_in0191_01.main.body 5)) 5) = x) => x); ?f176 _ (by conv => lhs; whnf)), scope := (let_mvar% ?f177 := (fun (x : Scope) (_ : scp (nth (inn (nth PySem.Challenge.pw_in0191_01.main.body 5)) 5) = x) => x); ?f177 _ (by conv => lhs; whnf)), globals := 3, closure := [], defaults := Value.none, kwdefaults := Value.none, doc := Value.str ((let_mvar% ?f178 := (fun (x : Str) (_ : doc (nth (inn (nth PySem.Challenge.pw_in0191_01.main.body 5)) 5) = Const.str x) => x); ?f178 _ (by conv => lhs; whnf))) 426, pyModule := Value.str (Str.ofString "cpy313.importlib.metadata._collections") 286, annotations := some 140, code := Value.ref 136 } }
noncomputable def o188 : Params → Obj := fun P => { cls := Value.type "dict", data := Data.dict #[{ hash := PyData.keyHash P (Str.ofString "__module__"), key := Value.str (Str.ofString "__module__") 428, val := Value.str (Str.ofString "cpy313.importlib.metadata._collections") 286 }, { hash := PyData.keyHash P (Str.ofString "__name__"), key := Value.str (Str.ofString "__name__") 431, val := Value.str (Str.ofString "_make") 430 }, { hash := PyData.keyHash P (Str.ofString "__qualname__"), key := Value.str (Str.ofString "__qualname__") 434, val := Value.str (Str.ofString "Pair._make") 433 }, { hash := PyData.keyHash P (Str.ofString "__doc__"), key := Value.str (Str.ofString "__doc__") 436, val := Value.str ((let_mvar% ?f179 := (fun (x : Str) (_ : doc (nth (inn (nth PySem.Challenge.pw_in0191_01.main.body 5)) 5) = Const.str x) => x); ?f179 _ (by conv => lhs; whnf))) 426 }, { hash := PyData.keyHash P (Str.ofString "__annotations__"), key := Value.str (Str.ofString "__annotations__") 438, val := Value.ref 140 }] 5 }
noncomputable def o189 : Params → Obj := fun P => { cls := Value.type "classmethod", dict := some 138, data := Data.fields #[Value.ref 137, Value.bool false] }
noncomputable def o190 : Params → Obj := PySem.W.boot_o_6
noncomputable def o191 : Params → Obj := fun P => { cls := Value.type "tuple", data := Data.seq #[Value.ref 116] }
noncomputable def o192 : Params → Obj := fun P => { cls := Value.type "tuple", data := Data.seq #[Value.str (Str.ofString "__class__") 443] }
noncomputable def o193 : Params → Obj := PySem.W.boot_o_8
noncomputable def o194 : Params → Obj := fun P => { cls := Value.type "tuple", data := Data.seq #[Value.str (Str.ofString "self") 444, Value.str (Str.ofString "kwds") 445, Value.str (Str.ofString "result") 446] }
noncomputable def o195 : Params → Obj := PySem.W.boot_o_7
noncomputable def o196 : Params → Obj := fun P => { cls := Value.none, data := Data.func { name := Str.ofString "_replace", qualname := Str.ofString "Pair._replace", params := (let_mvar% ?f180 := (fun (x : Arguments) (_ : prm (nth (inn (nth PySem.Challenge.pw_in0191_01.main.body 5)) 6) = x) => x); ?f180 _ (by conv => lhs; whnf)), body := FuncBody.stmts (let_mvar% ?f181 := (fun (x : List Stmt) (_ : inn (nth (inn (nth PySem.Challenge.pw_in0191_01.main.body 5)) 6) = x) => x); ?f181 _ (by conv => lhs; whnf)), scope := (let_mvar% ?f182 := (fun (x : Scope) (_ : scp (nth (inn (nth PySem.Challenge.pw_in0191_01.main.body 5)) 6) = x) => x); ?f182 _ (by conv => lhs; whnf)), globals := 0, closure := [], defaults := Value.none, kwdefaults := Value.none } }
noncomputable def o197 : Params → Obj := fun P => { cls := Value.type "code", data := Data.fields (List.toArray (Value.str (Str.ofString "_replace") 440 :: Value.str (Str.ofString "Pair._replace") 441 :: Value.str (Str.ofString "/claim/cut.py") 442 :: Value.int 62 0 :: Value.int 1 0 :: Value.int 1 0 :: Value.int 0 0 :: Value.int 11 0 :: Value.ref 142 :: Value.bool true :: Value.int 273 0 :: Value.ref 143 :: Value.none :: Value.ref 144 :: Value.ref 145 :: Value.ref 146 :: Value.int 447 0 :: Value.int 62 0 :: Value.str (Str.ofString "/claim/cut.py") 448 :: [])) }
noncomputable def o198 : Params → Obj := fun P => { cls := Value.type "function", data := Data.func { name := Str.ofString "_replace", qualname := Str.ofString "Pair._replace", params := (let_mvar% ?f183 := (fun (x : Arguments) (_ : prm (nth (inn (nth PySem.Challenge.pw_in0191_01.main.body 5)) 6) = x) => x); ?f183 _ (by conv => lhs; whnf)), body := FuncBody.stmts (let_mvar% ?f184 := (fun (x : List Stmt) (_ : inn (nth (inn (nth PySem.Challenge.pw_in0191_01.main.body 5)) 6) = x) => x); ?f184 _ (by conv => lhs; whnf)), scope := (let_mvar% ?f185 := (fun (x : Scope) (_ : scp (nth (inn (nth PySem.Challenge.pw_in0191_01.main.body 5)) 6) = x) => x); ?f185 _ (by conv => lhs; whnf)), globals := 3, closure := [(Str.ofString "__class__", 116)], defaults := Value.none, kwdefaults := Value.none, doc := Value.str ((let_mvar% ?f186 := (fun (x : Str) (_ : doc (nth (inn (nth PySem.Challenge.pw_in0191_01.main.body 5)) 6) = Const.str x) => x); ?f186 _ (by conv => lhs; whnf))) 449, pyModule := Value.str (Str.ofString "cpy313.importlib.metadata._collections") 286, code := Value.ref 147, closureTuple := Value.ref 141 } }
noncomputable def o199 : Params → Obj := PySem.W.boot_o_7
noncomputable def o200 : Params → Obj := PySem.W.boot_o_8
noncomputable def o201 : Params → Obj := fun P => { cls := Value.type "tuple", data := Data.seq #[Value.str (Str.ofString "self") 455] }
noncomputable def o202 : Params → Obj := PySem.W.boot_o_7
noncomputable def o203 : Params → Obj := fun P => { cls := Value.none, data := Data.func { name := Str.ofString "__repr__", qualname := Str.ofString "Pair.__repr__", params := (let_mvar% ?f187 := (fun (x : Arguments) (_ : prm (nth (inn (nth PySem.Challenge.pw_in0191_01.main.body 5)) 8) = x) => x); ?f187 _ (by conv => lhs; whnf)), body := FuncBody.stmts (let_mvar% ?f188 := (fun (x : List Stmt) (_ : inn (nth (inn (nth PySem.Challenge.pw_in0191_01.main.body 5)) 8) = x) => x); ?f188 _ (by conv => lhs; whnf)), scope := (let_mvar% ?f189 := (fun (x : Scope) (_ : scp (nth (inn (nth PySem.Challenge.pw_in0191_01.main.body 5)) 8) = x) => x); ?f189 _ (by conv => lhs; whnf)), globals := 0, closure := [], defaults := Value.none, kwdefaults := Value.none } }
noncomputable def o204 : Params → Obj := fun P => { cls := Value.type "code", data := Data.fields (List.toArray (Value.str (Str.ofString "__repr__") 452 :: Value.str (Str.ofString "Pair.__repr__") 453 :: Value.str (Str.ofString "/claim/cut.py") 454 :: Value.int 73 0 :: Value.int 1 0 :: Value.int 0 0 :: Value.int 0 0 :: Value.int 3 0 :: Value.ref 149 :: Value.bool true :: Value.int 273 0 :: Value.ref 150 :: Value.none :: Value.ref 151 :: Value.ref 152 :: Value.ref 153 :: Value.int 456 0 :: Value.int 73 0 :: Value.str (Str.ofString "/claim/cut.py") 457 :: [])) }
noncomputable def o205 : Params → Obj := fun P => { cls := Value.type "function", data := Data.func { name := Str.ofString "__repr__", qualname := Str.ofString "Pair.__repr__", params := (let_mvar% ?f190 := (fun (x : Arguments) (_ : prm (nth (inn (nth PySem.Challenge.pw_in0191_01.main.body 5)) 8) = x) => x); ?f190 _ (by conv => lhs; whnf)), body := FuncBody.stmts (let_mvar% ?f191 := (fun (x : List Stmt) (_ : inn (nth (inn (nth PySem.Challenge.pw_in0191_01.main.body 5)) 8) = x) => x); ?f191 _ (by conv => lhs; whnf)), scope := (let_mvar% ?f192 := (fun (x : Scope) (_ : scp (nth (inn (nth PySem.Challenge.pw_in0191_01.main.body 5)) 8) = x) => x); ?f192 _ (by conv => lhs; whnf)), globals := 3, closure := [], defaults := Value.none, kwdefaults := Value.none, doc := Value.str ((let_mvar% ?f193 := (fun (x : Str) (_ : doc (nth (inn (nth PySem.Challenge.pw_in0191_01.main.body 5)) 8) = Const.str x) => x); ?f193 _ (by conv => lhs; whnf))) 458, pyModule := Value.str (Str.ofString "cpy313.importlib.metadata._collections") 286, code := Value.ref 154 } }
noncomputable def o206 : Params → Obj := PySem.W.boot_o_7
noncomputable def o207 : Params → Obj := PySem.W.boot_o_8
noncomputable def o208 : Params → Obj := fun P => { cls := Value.type "tuple", data := Data.seq #[Value.str (Str.ofString "self") 463] }
noncomputable def o209 : Params → Obj := PySem.W.boot_o_7
noncomputable def o210 : Params → Obj := fun P => { cls := Value.none, data := Data.func { name := Str.ofString "_asdict", qualname := Str.ofString "Pair._asdict", params := (let_mvar% ?f194 := (fun (x : Arguments) (_ : prm (nth (inn (nth PySem.Challenge.pw_in0191_01.main.body 5)) 9) = x) => x); ?f194 _ (by conv => lhs; whnf)), body := FuncBody.stmts (let_mvar% ?f195 := (fun (x : List Stmt) (_ : inn (nth (inn (nth PySem.Challenge.pw_in0191_01.main.body 5)) 9) = x) => x); ?f195 _ (by conv => lhs; whnf)), scope := (let_mvar% ?f196 := (fun (x : Scope) (_ : scp (nth (inn (nth PySem.Challenge.pw_in0191_01.main.body 5)) 9) = x) => x); ?f196 _ (by conv => lhs; whnf)), globals := 0, closure := [], defaults := Value.none, kwdefaults := Value.none } }
noncomputable def o211 : Params → Obj := fun P => { cls := Value.type "code", data := Data.fields (List.toArray (Value.str (Str.ofString "_asdict") 460 :: Value.str (Str.ofString "Pair._asdict") 461 :: Value.str (Str.ofString "/claim/cut.py") 462 :: Value.int 77 0 :: Value.int 1 0 :: Value.int 0 0 :: Value.int 0 0 :: Value.int 3 0 :: Value.ref 156 :: Value.bool true :: Value.int 273 0 :: Value.ref 157 :: Value.none :: Value.ref 158 :: Value.ref 159 :: Value.ref 160 :: Value.int 464 0 :: Value.int 77 0 :: Value.str (Str.ofString "/claim/cut.py") 465 :: [])) }
noncomputable def o212 : Params → Obj := fun P => { cls := Value.type "function", data := Data.func { name := Str.ofString "_asdict", qualname := Str.ofString "Pair._asdict", params := (let_mvar% ?f197 := (fun (x : Arguments) (_ : prm (nth (inn (nth PySem.Challenge.pw_in0191_01.main.body 5)) 9) = x) => x); ?f197 _ (by conv => lhs; whnf)), body := FuncBody.stmts (let_mvar% ?f198 := (fun (x : List Stmt) (_ : inn (nth (inn (nth PySem.Challenge.pw_in0191_01.main.body 5)) 9) = x) => x); ?f198 _ (by conv => lhs; whnf)), scope := (let_mvar% ?f199 := (fun (x : Scope) (_ : scp (nth (inn (nth PySem.Challenge.pw_in0191_01.main.body 5)) 9) = x) => x); ?f199 _ (by conv => lhs; whnf)), globals := 3, closure := [], defaults := Value.none, kwdefaults := Value.none, pyModule := Value.str (Str.ofString "cpy313.importlib.metadata._collections") 286, code := Value.ref 161 } }
noncomputable def o213 : Params → Obj := PySem.W.boot_o_7
noncomputable def o214 : Params → Obj := PySem.W.boot_o_8
noncomputable def o215 : Params → Obj := fun P => { cls := Value.type "tuple", data := Data.seq #[Value.str (Str.ofString "self") 470] }
noncomputable def o216 : Params → Obj := PySem.W.boot_o_7
noncomputable def o217 : Params → Obj := fun P => { cls := Value.none, data := Data.func { name := Str.ofString "__getnewargs__", qualname := Str.ofString "Pair.__getnewargs__", params := (let_mvar% ?f200 := (fun (x : Arguments) (_ : prm (nth (inn (nth PySem.Challenge.pw_in0191_01.main.body 5)) 10) = x) => x); ?f200 _ (by conv => lhs; whnf)), body := FuncBody.stmts (let_mvar% ?f201 := (fun (x : List Stmt) (_ : inn (nth (inn (nth PySem.Challenge.pw_in0191_01.main.body 5)) 10) = x) => x); ?f201 _ (by conv => lhs; whnf)), scope := (let_mvar% ?f202 := (fun (x : Scope) (_ : scp (nth (inn (nth PySem.Challenge.pw_in0191_01.main.body 5)) 10) = x) => x); ?f202 _ (by conv => lhs; whnf)), globals := 0, closure := [], defaults := Value.none, kwdefaults := Value.none } }
noncomputable def o218 : Params → Obj := fun P => { cls := Value.type "code", data := Data.fields (List.toArray (Value.str (Str.ofString "__getnewargs__") 467 :: Value.str (Str.ofString "Pair.__getnewargs__") 468 :: Value.str (Str.ofString "/claim/cut.py") 469 :: Value.int 80 0 :: Value.int 1 0 :: Value.int 0 0 :: Value.int 0 0 :: Value.int 3 0 :: Value.ref 163 :: Value.bool true :: Value.int 273 0 :: Value.ref 164 :: Value.none :: Value.ref 165 :: Value.ref 166 :: Value.ref 167 :: Value.int 471 0 :: Value.int 80 0 :: Value.str (Str.ofString "/claim/cut.py") 472 :: [])) }
noncomputable def o219 : Params → Obj := fun P => { cls := Value.type "function", data := Data.func { name := Str.ofString "__getnewargs__", qualname := Str.ofString "Pair.__getnewargs__", params := (let_mvar% ?f203 := (fun (x : Arguments) (_ : prm (nth (inn (nth PySem.Challenge.pw_in0191_01.main.body 5)) 10) = x) => x); ?f203 _ (by conv => lhs; whnf)), body := FuncBody.stmts (let_mvar% ?f204 := (fun (x : List Stmt) (_ : inn (nth (inn (nth PySem.Challenge.pw_in0191_01.main.body 5)) 10) = x) => x); ?f204 _ (by conv => lhs; whnf)), scope := (let_mvar% ?f205 := (fun (x : Scope) (_ : scp (nth (inn (nth PySem.Challenge.pw_in0191_01.main.body 5)) 10) = x) => x); ?f205 _ (by conv => lhs; whnf)), globals := 3, closure := [], defaults := Value.none, kwdefaults := Value.none, doc := Value.str ((let_mvar% ?f206 := (fun (x : Str) (_ : doc (nth (inn (nth PySem.Challenge.pw_in0191_01.main.body 5)) 10) = Const.str x) => x); ?f206 _ (by conv => lhs; whnf))) 473, pyModule := Value.str (Str.ofString "cpy313.importlib.metadata._collections") 286, code := Value.ref 168 } }
noncomputable def o220 : Params → Obj := fun P => { cls := Value.type "tuple", data := Data.seq #[Value.str (Str.ofString "name") 475, Value.str (Str.ofString "value") 476] }
noncomputable def o221 : Params → Obj := fun P => { cls := Value.type "dict", data := Data.dict #[{ hash := PyData.keyHash P (Str.ofString "index"), key := Value.str (Str.ofString "index") 484, val := Value.int 0 478 }, { hash := PyData.keyHash P (Str.ofString "__doc__"), key := Value.str (Str.ofString "__doc__") 486, val := Value.str (Str.ofString "Alias for field number 0") 479 }] 2 }
noncomputable def o222 : Params → Obj := fun P => { cls := Value.ref 78, dict := some 171 }
noncomputable def o223 : Params → Obj := fun P => { cls := Value.type "frame", data := Data.dict #[{ hash := PyData.keyHash P (Str.ofString "self"), key := Value.str (Str.ofString "self") 480, val := Value.ref 172 }, { hash := PyData.keyHash P (Str.ofString "index"), key := Value.str (Str.ofString "index") 481, val := Value.int 0 478 }, { hash := PyData.keyHash P (Str.ofString "doc"), key := Value.str (Str.ofString "doc") 482, val := Value.str (Str.ofString "Alias for field number 0") 479 }] 3 }
noncomputable def o224 : Params → Obj := fun P => { cls := Value.type "dict", data := Data.dict #[{ hash := PyData.keyHash P (Str.ofString "index"), key := Value.str (Str.ofString "index") 494, val := Value.int 1 488 }, { hash := PyData.keyHash P (Str.ofString "__doc__"), key := Value.str (Str.ofString "__doc__") 496, val := Value.str (Str.ofString "Alias for field number 1") 489 }] 2 }
noncomputable def o225 : Params → Obj := fun P => { cls := Value.ref 78, dict := some 174 }
noncomputable def o226 : Params → Obj := fun P => { cls := Value.type "frame", data := Data.dict #[{ hash := PyData.keyHash P (Str.ofString "self"), key := Value.str (Str.ofString "self") 490, val := Value.ref 175 }, { hash := PyData.keyHash P (Str.ofString "index"), key := Value.str (Str.ofString "index") 491, val := Value.int 1 488 }, { hash := PyData.keyHash P (Str.ofString "doc"), key := Value.str (Str.ofString "doc") 492, val := Value.str (Str.ofString "Alias for field number 1") 489 }] 3 }
noncomputable def o227 : Params → Obj := PySem.W.boot_o_7
noncomputable def o228 : Params → Obj := fun P => { cls := Value.type "list", data := Data.seq #[] }
noncomputable def o229 : Params → Obj := fun P => { cls := Value.type "dict", data := Data.dict (List.toArray ({ hash := PyData.keyHash P (Str.ofString "__module__"), key := Value.str (Str.ofString "__module__") 395, val := Value.str (Str.ofString "cpy313.importlib.metadata._collections") 286 } :: { hash := PyData.keyHash P (Str.ofString "__firstlineno__"), key := Value.str (Str.ofString "__firstlineno__") 399, val := Value.int 44 398 } :: { hash := PyData.keyHash P (Str.ofString "__doc__"), key := Value.str (Str.ofString "__doc__") 401, val := Value.str ((let_mvar% ?f207 := (fun (x : Str) (_ : doc (nth PySem.Challenge.pw_in0191_01.main.body 5) = Const.str x) => x); ?f207 _ (by conv => lhs; whnf))) 400 } :: { hash := PyData.keyHash P (Str.ofString "__slots__"), key := Value.str (Str.ofString "__slots__") 403, val := Value.ref 121 } :: { hash := PyData.keyHash P (Str.ofString "_fields"), key := Value.str (Str.ofString "_fields") 406, val := Value.ref 122 } :: { hash := PyData.keyHash P (Str.ofString "_field_defaults"), key := Value.str (Str.ofString "_field_defaults") 407, val := Value.ref 123 } :: { hash := PyData.keyHash P (Str.ofString "__new__"), key := Value.str (Str.ofString "__new__") 417, val := Value.ref 181 } :: { hash := PyData.keyHash P (Str.ofString "_make"), key := Value.str (Str.ofString "_make") 439, val := Value.ref 139 } :: { hash := PyData.keyHash P (Str.ofString "_replace"), key := Value.str (Str.ofString "_replace") 450, val := Value.ref 148 } :: { hash := PyData.keyHash P (Str.ofString "__replace__"), key := Value.str (Str.ofString "__replace__") 451, val := Value.ref 148 } :: { hash := PyData.keyHash P (Str.ofString "__repr__"), key := Value.str (Str.ofString "__repr__") 459, val := Value.ref 155 } :: { hash := PyData.keyHash P (Str.ofString "_asdict"), key := Value.str (Str.ofString "_asdict") 466, val := Value.ref 162 } :: { hash := PyData.keyHash P (Str.ofString "__getnewargs__"), key := Value.str (Str.ofString "__getnewargs__") 474, val := Value.ref 169 } :: { hash := PyData.keyHash P (Str.ofString "__match_args__"), key := Value.str (Str.ofString "__match_args__") 477, val := Value.ref 170 } :: { hash := PyData.keyHash P (Str.ofString "name"), key := Value.str (Str.ofString "name") 487, val := Value.ref 172 } :: { hash := PyData.keyHash P (Str.ofString "value"), key := Value.str (Str.ofString "value") 497, val := Value.ref 175 } :: { hash := PyData.keyHash P (Str.ofString "__static_attributes__"), key := Value.str (Str.ofString "__static_attributes__") 498, val := Value.ref 177 } :: [])) 2 }
noncomputable def o230 : Params → Obj := fun P => { cls := Value.type "type", data := Data.cls { name := Str.ofString "Pair", bases := [Value.type "tuple"], mro := [Value.ref 180, Value.type "tuple", Value.type "object"], ns := 179, qualname := Str.ofString "Pair", hasDict := false }, slots := #[some (Value.ref 113), none, some (Value.str (Str.ofString "Pair") 388), some (Value.str (Str.ofString "Pair") 396), some Value.none, some (Value.bool false)] }
noncomputable def o231 : Params → Obj := fun P => { cls := Value.type "staticmethod", data := Data.fields #[Value.ref 130] }
noncomputable def o232 : Params → Obj := fun P => { cls := Value.type "super", data := Data.fields #[Value.ref 180, Value.ref 180, Value.ref 180] }
noncomputable def o233 : Params → Obj := fun P => { cls := Value.type "builtin_function_or_method", data := Data.fields #[Value.builtin "object.__init_subclass__", Value.ref 180] }
noncomputable def o287 : Params → Obj := fun P => { cls := Value.type "dict", data := Data.dict (List.toArray ({ hash := PyData.keyHash P (Str.ofString "__name__"), key := Value.str (Str.ofString "__name__") 165, val := Value.str (Str.ofString "cpy313.stat") 541 } :: { hash := PyData.keyHash P (Str.ofString "__doc__"), key := Value.str (Str.ofString "__doc__") 166, val := Value.none } :: { hash := PyData.keyHash P (Str.ofString "__package__"), key := Value.str (Str.ofString "__package__") 167, val := Value.none } :: { hash := PyData.keyHash P (Str.ofString "__loader__"), key := Value.str (Str.ofString "__loader__") 168, val := Value.builtin "__main__.__loader__#opaque" } :: { hash := PyData.keyHash P (Str.ofString "__spec__"), key := Value.str (Str.ofString "__spec__") 169, val := Value.none } :: { hash := PyData.keyHash P (Str.ofString "__annotations__"), key := Value.str (Str.ofString "__annotations__") 170, val := Value.ref 6 } :: { hash := PyData.keyHash P (Str.ofString "__builtins__"), key := Value.str (Str.ofString "__builtins__") 171, val := Value.ref 4 } :: { hash := PyData.keyHash P (Str.ofString "__file__"), key := Value.str (Str.ofString "__file__") 173, val := Value.str (Str.ofString "/claim/cut.py") 172 } :: { hash := PyData.keyHash P (Str.ofString "__cached__"), key := Value.str (Str.ofString "__cached__") 174, val := Value.none } :: { hash := PyData.keyHash P (Str.ofString "defaultdict"), key := Value.str (Str.ofString "defaultdict") 272, val := Value.type "collections.defaultdict" } :: { hash := PyData.keyHash P (Str.ofString "_wall"), key := Value.str (Str.ofString "_wall") 285, val := Value.ref 39 } :: { hash := PyData.keyHash P (Str.ofString "_tuplegetter"), key := Value.str (Str.ofString "_tuplegetter") 344, val := Value.ref 78 } :: { hash := PyData.keyHash P (Str.ofString "FreezableDefaultDict"), key := Value.str (Str.ofString "FreezableDefaultDict") 387, val := Value.ref 108 } :: { hash := PyData.keyHash P (Str.ofString "Pair"), key := Value.str (Str.ofString "Pair") 502, val := Value.ref 203 } :: [])) 14 }
noncomputable def o288 : Params → Obj := fun P => { cls := Value.none, data := Data.fields (List.toArray (Value.int 2 0 :: Value.int 0 0 :: Value.ref 38 :: Value.int 6 0 :: Value.int 0 0 :: Value.ref 45 :: Value.int 24 0 :: Value.int 0 0 :: Value.ref 89 :: Value.int 44 0 :: Value.int 0 0 :: Value.ref 119 :: Value.int 86 0 :: Value.int 0 0 :: Value.ref 189 :: [])) }
noncomputable def o289 : Params → Obj := fun P => { cls := Value.type "type", data := Data.cls { name := Str.ofString "Pair", bases := [Value.type "tuple"], mro := [Value.ref 180, Value.type "tuple", Value.type "object"], ns := 179, qualname := Str.ofString "Pair", hasDict := false, subclasses := [Value.ref 203] }, slots := #[some (Value.ref 113), none, some (Value.str (Str.ofString "Pair") 388), some (Value.str (Str.ofString "Pair") 396), some Value.none, some (Value.bool false)] }
noncomputable def o290 : Params → Obj := fun P => { cls := Value.type "tuple", data := Data.seq #[Value.ref 180] }
noncomputable def o291 : Params → Obj := fun P => { cls := Value.type "builtin_function_or_method", data := Data.fields #[Value.builtin "type.__prepare__", Value.type "type"] }
noncomputable def o292 : Params → Obj := fun P => { cls := Value.type "dict", data := Data.dict #[{ hash := PyData.keyHash P (Str.ofString "__module__"), key := Value.str (Str.ofString "__module__") 510, val := Value.str (Str.ofString "cpy313.importlib.metadata._collections") 286 }, { hash := PyData.keyHash P (Str.ofString "__qualname__"), key := Value.str (Str.ofString "__qualname__") 512, val := Value.str (Str.ofString "Pair") 511 }, { hash := PyData.keyHash P (Str.ofString "__firstlineno__"), key := Value.str (Str.ofString "__firstlineno__") 514, val := Value.int 86 513 }, { hash := PyData.keyHash P (Str.ofString "parse"), key := Value.str (Str.ofString "parse") 534, val := Value.ref 199 }, { hash := PyData.keyHash P (Str.ofString "__static_attributes__"), key := Value.str (Str.ofString "__static_attributes__") 535, val := Value.ref 201 }] 5 }
noncomputable def o293 : Params → Obj := PySem.W.boot_o_7
noncomputable def o294 : Params → Obj := fun P => { cls := Value.none, data := Data.fields #[Value.int 89 0, Value.int 4 0, Value.ref 196] }
noncomputable def o295 : Params → Obj := fun P => { cls := Value.type "code", data := Data.fields (List.toArray (Value.str (Str.ofString "Pair") 505 :: Value.str (Str.ofString "Pair") 506 :: Value.str (Str.ofString "/claim/cut.py") 507 :: Value.int 86 0 :: Value.int 0 0 :: Value.int 0 0 :: Value.int 0 0 :: Value.int 0 0 :: Value.ref 187 :: Value.bool false :: Value.int 273 0 :: Value.ref 188 :: Value.none :: Value.none :: Value.none :: Value.none :: Value.int 508 0 :: Value.int 86 0 :: Value.str (Str.ofString "/claim/cut.py") 509 :: [])) }
noncomputable def o296 : Params → Obj := fun P => { cls := Value.type "frame", slots := (List.toArray (some (Value.ref 189) :: some (Value.ref 3) :: some (Value.ref 186) :: none :: some (Value.str (Str.ofString "cpy313.importlib.metadata._collections") 286) :: none :: some (Value.ref 0) :: [])) }
noncomputable def o297 : Params → Obj := PySem.W.boot_o_7
noncomputable def o298 : Params → Obj := PySem.W.boot_o_8
noncomputable def o299 : Params → Obj := fun P => { cls := Value.type "tuple", data := Data.seq #[Value.str (Str.ofString "cls") 518, Value.str (Str.ofString "text") 519] }
noncomputable def o300 : Params → Obj := PySem.W.boot_o_7
noncomputable def o301 : Params → Obj := fun P => { cls := Value.none, data := Data.func { name := Str.ofString "parse", qualname := Str.ofString "Pair.parse", params := (let_mvar% ?f208 := (fun (x : Arguments) (_ : prm (nth (inn (nth PySem.Challenge.pw_in0191_01.main.body 6)) 0) = x) => x); ?f208 _ (by conv => lhs; whnf)), body := FuncBody.stmts (let_mvar% ?f209 := (fun (x : List Stmt) (_ : inn (nth (inn (nth PySem.Challenge.pw_in0191_01.main.body 6)) 0) = x) => x); ?f209 _ (by conv => lhs; whnf)), scope := (let_mvar% ?f210 := (fun (x : Scope) (_ : scp (nth (inn (nth PySem.Challenge.pw_in0191_01.main.body 6)) 0) = x) => x); ?f210 _ (by conv => lhs; whnf)), globals := 0, closure := [], defaults := Value.none, kwdefaults := Value.none } }
noncomputable def o302 : Params → Obj := fun P => { cls := Value.type "code", data := Data.fields (List.toArray (Value.str (Str.ofString "parse") 515 :: Value.str (Str.ofString "Pair.parse") 516 :: Value.str (Str.ofString "/claim/cut.py") 517 :: Value.int 88 0 :: Value.int 2 0 :: Value.int 0 0 :: Value.int 0 0 :: Value.int 3 0 :: Value.ref 191 :: Value.bool true :: Value.int 273 0 :: Value.ref 192 :: Value.none :: Value.ref 193 :: Value.ref 194 :: Value.ref 195 :: Value.int 520 0 :: Value.int 88 0 :: Value.str (Str.ofString "/claim/cut.py") 521 :: [])) }
noncomputable def o303 : Params → Obj := fun P => { cls := Value.type "function", data := Data.func { name := Str.ofString "parse", qualname := Str.ofString "Pair.parse", params := (let_mvar% ?f211 := (fun (x : Arguments) (_ : prm (nth (inn (nth PySem.Challenge.pw_in0191_01.main.body 6)) 0) = x) => x); ?f211 _ (by conv => lhs; whnf)), body := FuncBody.stmts (let_mvar% ?f212 := (fun (x : List Stmt) (_ : inn (nth (inn (nth PySem.Challenge.pw_in0191_01.main.body 6)) 0) = x) => x); ?f212 _ (by conv => lhs; whnf)), scope := (let_mvar% ?f213 := (fun (x : Scope) (_ : scp (nth (inn (nth PySem.Challenge.pw_in0191_01.main.body 6)) 0) = x) => x); ?f213 _ (by conv => lhs; whnf)), globals := 3, closure := [], defaults := Value.none, kwdefaults := Value.none, pyModule := Value.str (Str.ofString "cpy313.importlib.metadata._collections") 286, annotations := some 200, code := Value.ref 196 } }
noncomputable def o304 : Params → Obj := fun P => { cls := Value.type "dict", data := Data.dict #[{ hash := PyData.keyHash P (Str.ofString "__module__"), key := Value.str (Str.ofString "__module__") 523, val := Value.str (Str.ofString "cpy313.importlib.metadata._collections") 286 }, { hash := PyData.keyHash P (Str.ofString "__name__"), key := Value.str (Str.ofString "__name__") 526, val := Value.str (Str.ofString "parse") 525 }, { hash := PyData.keyHash P (Str.ofString "__qualname__"), key := Value.str (Str.ofString "__qualname__") 529, val := Value.str (Str.ofString "Pair.parse") 528 }, { hash := PyData.keyHash P (Str.ofString "__doc__"), key := Value.str (Str.ofString "__doc__") 531, val := Value.none }, { hash := PyData.keyHash P (Str.ofString "__annotations__"), key := Value.str (Str.ofString "__annotations__") 533, val := Value.ref 200 }] 5 }
noncomputable def o305 : Params → Obj := fun P => { cls := Value.type "classmethod", dict := some 198, data := Data.fields #[Value.ref 197, Value.bool false] }
noncomputable def o306 : Params → Obj := PySem.W.boot_o_6
noncomputable def o307 : Params → Obj := PySem.W.boot_o_7
noncomputable def o308 : Params → Obj := fun P => { cls := Value.type "dict", data := Data.dict #[{ hash := PyData.keyHash P (Str.ofString "__module__"), key := Value.str (Str.ofString "__module__") 510, val := Value.str (Str.ofString "cpy313.importlib.metadata._collections") 286 }, { hash := PyData.keyHash P (Str.ofString "__firstlineno__"), key := Value.str (Str.ofString "__firstlineno__") 514, val := Value.int 86 513 }, { hash := PyData.keyHash P (Str.ofString "parse"), key := Value.str (Str.ofString "parse") 534, val := Value.ref 199 }, { hash := PyData.keyHash P (Str.ofString "__static_attributes__"), key := Value.str (Str.ofString "__static_attributes__") 535, val := Value.ref 201 }, { hash := PyData.keyHash P (Str.ofString "__dict__"), key := Value.str (Str.ofString "__dict__") 537, val := Value.ref 204 }, { hash := PyData.keyHash P (Str.ofString "__doc__"), key := Value.str (Str.ofString "__doc__") 538, val := Value.none }] 3 }
noncomputable def o309 : Params → Obj := fun P => { cls := Value.type "type", data := Data.cls { name := Str.ofString "Pair", bases := [Value.ref 180], mro := [Value.ref 203, Value.ref 180, Value.type "tuple", Value.type "object"], ns := 202, qualname := Str.ofString "Pair" }, slots := #[some (Value.ref 184), none, some (Value.str (Str.ofString "Pair") 503), some (Value.str (Str.ofString "Pair") 511), some Value.none, some (Value.bool false)] }
noncomputable def o310 : Params → Obj := fun P => { cls := Value.type "getset_descriptor", data := Data.fields #[Value.str (Str.ofString "__dict__") 536, Value.ref 203, Value.builtin "function.__dict__", Value.builtin "function.__dict__#set"] }
noncomputable def o311 : Params → Obj := fun P => { cls := Value.type "super", data := Data.fields #[Value.ref 203, Value.ref 203, Value.ref 203] }
noncomputable def o312 : Params → Obj := fun P => { cls := Value.type "builtin_function_or_method", data := Data.fields #[Value.builtin "object.__init_subclass__", Value.ref 203] }
noncomputable def o313 : Params → Obj := fun P => { cls := Value.type "dict", data := Data.dict (List.toArray ({ hash := PyData.keyHash P (Str.ofString "__name__"), key := Value.str (Str.ofString "__name__") 165, val := Value.str (Str.ofString "cpy313.stat") 541 } :: { hash := PyData.keyHash P (Str.ofString "__doc__"), key := Value.str (Str.ofString "__doc__") 166, val := Value.none } :: { hash := PyData.keyHash P (Str.ofString "__package__"), key := Value.str (Str.ofString "__package__") 167, val := Value.none } :: { hash := PyData.keyHash P (Str.ofString "__loader__"), key := Value.str (Str.ofString "__loader__") 168, val := Value.builtin "__main__.__loader__#opaque" } :: { hash := PyData.keyHash P (Str.ofString "__spec__"), key := Value.str (Str.ofString "__spec__") 169, val := Value.none } :: { hash := PyData.keyHash P (Str.ofString "__annotations__"), key := Value.str (Str.ofString "__annotations__") 170, val := Value.ref 6 } :: { hash := PyData.keyHash P (Str.ofString "__builtins__"), key := Value.str (Str.ofString "__builtins__") 171, val := Value.ref 4 } :: { hash := PyData.keyHash P (Str.ofString "__file__"), key := Value.str (Str.ofString "__file__") 173, val := Value.str (Str.ofString "/claim/cut.py") 172 } :: { hash := PyData.keyHash P (Str.ofString "__cached__"), key := Value.str (Str.ofString "__cached__") 174, val := Value.none } :: { hash := PyData.keyHash P (Str.ofString "defaultdict"), key := Value.str (Str.ofString "defaultdict") 272, val := Value.type "collections.defaultdict" } :: { hash := PyData.keyHash P (Str.ofString "_wall"), key := Value.str (Str.ofString "_wall") 285, val := Value.ref 39 } :: { hash := PyData.keyHash P (Str.ofString "_tuplegetter"), key := Value.str (Str.ofString "_tuplegetter") 344, val := Value.ref 78 } :: { hash := PyData.keyHash P (Str.ofString "FreezableDefaultDict"), key := Value.str (Str.ofString "FreezableDefaultDict") 387, val := Value.ref 108 } :: { hash := PyData.keyHash P (Str.ofString "Pair"), key := Value.str (Str.ofString "Pair") 502, val := Value.ref 203 } :: { hash := PyData.keyHash P (Str.ofString "S_IMODE"), key := Value.str (Str.ofString "S_IMODE") 550, val := Value.ref 213 } :: { hash := PyData.keyHash P (Str.ofString "S_IFMT"), key := Value.str (Str.ofString "S_IFMT") 558, val := Value.ref 220 } :: { hash := PyData.keyHash P (Str.ofString "S_IFDIR"), key := Value.str (Str.ofString "S_IFDIR") 560, val := Value.int 16384 559 } :: { hash := PyData.keyHash P (Str.ofString "S_IFCHR"), key := Value.str (Str.ofString "S_IFCHR") 562, val := Value.int 8192 561 } :: { hash := PyData.keyHash P (Str.ofString "S_IFBLK"), key := Value.str (Str.ofString "S_IFBLK") 564, val := Value.int 24576 563 } :: { hash := PyData.keyHash P (Str.ofString "S_IFREG"), key := Value.str (Str.ofString "S_IFREG") 566, val := Value.int 32768 565 } :: { hash := PyData.keyHash P (Str.ofString "S_IFIFO"), key := Value.str (Str.ofString "S_IFIFO") 568, val := Value.int 4096 567 } :: { hash := PyData.keyHash P (Str.ofString "S_IFLNK"), key := Value.str (Str.ofString "S_IFLNK") 570, val := Value.int 40960 569 } :: { hash := PyData.keyHash P (Str.ofString "S_IFSOCK"), key := Value.str (Str.ofString "S_IFSOCK") 572, val := Value.int 49152 571 } :: { hash := PyData.keyHash P (Str.ofString "S_ISUID"), key := Value.str (Str.ofString "S_ISUID") 574, val := Value.int 2048 573 } :: { hash := PyData.keyHash P (Str.ofString "S_ISGID"), key := Value.str (Str.ofString "S_ISGID") 576, val := Value.int 1024 575 } :: { hash := PyData.keyHash P (Str.ofString "S_ISVTX"), key := Value.str (Str.ofString "S_ISVTX") 578, val := Value.int 512 577 } :: { hash := PyData.keyHash P (Str.ofString "S_IRUSR"), key := Value.str (Str.ofString "S_IRUSR") 580, val := Value.int 256 579 } :: { hash := PyData.keyHash P (Str.ofString "S_IWUSR"), key := Value.str (Str.ofString "S_IWUSR") 582, val := Value.int 128 581 } :: { hash := PyData.keyHash P (Str.ofString "S_IXUSR"), key := Value.str (Str.ofString "S_IXUSR") 584, val := Value.int 64 583 } :: { hash := PyData.keyHash P (Str.ofString "S_IRGRP"), key := Value.str (Str.ofString "S_IRGRP") 586, val := Value.int 32 585 } :: { hash := PyData.keyHash P (Str.ofString "S_IWGRP"), key := Value.str (Str.ofString "S_IWGRP") 588, val := Value.int 16 587 } :: { hash := PyData.keyHash P (Str.ofString "S_IXGRP"), key := Value.str (Str.ofString "S_IXGRP") 590, val := Value.int 8 589 } :: { hash := PyData.keyHash P (Str.ofString "S_IROTH"), key := Value.str (Str.ofString "S_IROTH") 592, val := Value.int 4 591 } :: { hash := PyData.keyHash P (Str.ofString "S_IWOTH"), key := Value.str (Str.ofString "S_IWOTH") 594, val := Value.int 2 593 } :: { hash := PyData.keyHash P (Str.ofString "S_IXOTH"), key := Value.str (Str.ofString "S_IXOTH") 596, val := Value.int 1 595 } :: { hash := PyData.keyHash P (Str.ofString "_filemode_table"), key := Value.str (Str.ofString "_filemode_table") 622, val := Value.ref 253 } :: [])) 36 }
noncomputable def o314 : Params → Obj := fun P => { cls := Value.none, data := Data.fields (List.toArray (Value.int 2 0 :: Value.int 0 0 :: Value.ref 38 :: Value.int 6 0 :: Value.int 0 0 :: Value.ref 45 :: Value.int 24 0 :: Value.int 0 0 :: Value.ref 89 :: Value.int 44 0 :: Value.int 0 0 :: Value.ref 119 :: Value.int 86 0 :: Value.int 0 0 :: Value.ref 189 :: Value.int 92 0 :: Value.int 0 0 :: Value.ref 212 :: Value.int 97 0 :: Value.int 0 0 :: Value.ref 219 :: [])) }
noncomputable def o315 : Params → Obj := PySem.W.boot_o_7
noncomputable def o316 : Params → Obj := PySem.W.boot_o_8
noncomputable def o317 : Params → Obj := fun P => { cls := Value.type "tuple", data := Data.seq #[Value.str (Str.ofString "mode") 546] }
noncomputable def o318 : Params → Obj := PySem.W.boot_o_7
noncomputable def o319 : Params → Obj := fun P => { cls := Value.none, data := Data.func { name := Str.ofString "S_IMODE", qualname := Str.ofString "S_IMODE", params := (let_mvar% ?f214 := (fun (x : Arguments) (_ : prm (nth PySem.Challenge.pw_in0191_01.main.body 8) = x) => x); ?f214 _ (by conv => lhs; whnf)), body := FuncBody.stmts (let_mvar% ?f215 := (fun (x : List Stmt) (_ : inn (nth PySem.Challenge.pw_in0191_01.main.body 8) = x) => x); ?f215 _ (by conv => lhs; whnf)), scope := (let_mvar% ?f216 := (fun (x : Scope) (_ : scp (nth PySem.Challenge.pw_in0191_01.main.body 8) = x) => x); ?f216 _ (by conv => lhs; whnf)), globals := 0, closure := [], defaults := Value.none, kwdefaults := Value.none } }
noncomputable def o320 : Params → Obj := fun P => { cls := Value.type "code", data := Data.fields (List.toArray (Value.str (Str.ofString "S_IMODE") 543 :: Value.str (Str.ofString "S_IMODE") 544 :: Value.str (Str.ofString "/claim/cut.py") 545 :: Value.int 92 0 :: Value.int 1 0 :: Value.int 0 0 :: Value.int 0 0 :: Value.int 3 0 :: Value.ref 207 :: Value.bool true :: Value.int 273 0 :: Value.ref 208 :: Value.none :: Value.ref 209 :: Value.ref 210 :: Value.ref 211 :: Value.int 547 0 :: Value.int 92 0 :: Value.str (Str.ofString "/claim/cut.py") 548 :: [])) }
noncomputable def o321 : Params → Obj := fun P => { cls := Value.type "function", data := Data.func { name := Str.ofString "S_IMODE", qualname := Str.ofString "S_IMODE", params := (let_mvar% ?f217 := (fun (x : Arguments) (_ : prm (nth PySem.Challenge.pw_in0191_01.main.body 8) = x) => x); ?f217 _ (by conv => lhs; whnf)), body := FuncBody.stmts (let_mvar% ?f218 := (fun (x : List Stmt) (_ : inn (nth PySem.Challenge.pw_in0191_01.main.body 8) = x) => x); ?f218 _ (by conv => lhs; whnf)), scope := (let_mvar% ?f219 := (fun (x : Scope) (_ : scp (nth PySem.Challenge.pw_in0191_01.main.body 8) = x) => x); ?f219 _ (by conv => lhs; whnf)), globals := 3, closure := [], defaults := Value.none, kwdefaults := Value.none, doc := Value.str ((let_mvar% ?f220 := (fun (x : Str) (_ : doc (nth PySem.Challenge.pw_in0191_01.main.body 8) = Const.str x) => x); ?f220 _ (by conv => lhs; whnf))) 549, pyModule := Value.str (Str.ofString "cpy313.stat") 541, code := Value.ref 212 } }
noncomputable def o322 : Params → Obj := PySem.W.boot_o_7
noncomputable def o323 : Params → Obj := PySem.W.boot_o_8
noncomputable def o324 : Params → Obj := fun P => { cls := Value.type "tuple", data := Data.seq #[Value.str (Str.ofString "mode") 554] }
noncomputable def o325 : Params → Obj := PySem.W.boot_o_7
noncomputable def o326 : Params → Obj := fun P => { cls := Value.none, data := Data.func { name := Str.ofString "S_IFMT", qualname := Str.ofString "S_IFMT", params := (let_mvar% ?f221 := (fun (x : Arguments) (_ : prm (nth PySem.Challenge.pw_in0191_01.main.body 9) = x) => x); ?f221 _ (by conv => lhs; whnf)), body := FuncBody.stmts (let_mvar% ?f222 := (fun (x : List Stmt) (_ : inn (nth PySem.Challenge.pw_in0191_01.main.body 9) = x) => x); ?f222 _ (by conv => lhs; whnf)), scope := (let_mvar% ?f223 := (fun (x : Scope) (_ : scp (nth PySem.Challenge.pw_in0191_01.main.body 8) = x) => x); ?f223 _ (by conv => lhs; whnf)), globals := 0, closure := [], defaults := Value.none, kwdefaults := Value.none } }
noncomputable def o327 : Params → Obj := fun P => { cls := Value.type "code", data := Data.fields (List.toArray (Value.str (Str.ofString "S_IFMT") 551 :: Value.str (Str.ofString "S_IFMT") 552 :: Value.str (Str.ofString "/claim/cut.py") 553 :: Value.int 97 0 :: Value.int 1 0 :: Value.int 0 0 :: Value.int 0 0 :: Value.int 3 0 :: Value.ref 214 :: Value.bool true :: Value.int 273 0 :: Value.ref 215 :: Value.none :: Value.ref 216 :: Value.ref 217 :: Value.ref 218 :: Value.int 555 0 :: Value.int 97 0 :: Value.str (Str.ofString "/claim/cut.py") 556 :: [])) }
noncomputable def o328 : Params → Obj := fun P => { cls := Value.type "function", data := Data.func { name := Str.ofString "S_IFMT", qualname := Str.ofString "S_IFMT", params := (let_mvar% ?f224 := (fun (x : Arguments) (_ : prm (nth PySem.Challenge.pw_in0191_01.main.body 9) = x) => x); ?f224 _ (by conv => lhs; whnf)), body := FuncBody.stmts (let_mvar% ?f225 := (fun (x : List Stmt) (_ : inn (nth PySem.Challenge.pw_in0191_01.main.body 9) = x) => x); ?f225 _ (by conv => lhs; whnf)), scope := (let_mvar% ?f226 := (fun (x : Scope) (_ : scp (nth PySem.Challenge.pw_in0191_01.main.body 8) = x) => x); ?f226 _ (by conv => lhs; whnf)), globals := 3, closure := [], defaults := Value.none, kwdefaults := Value.none, doc := Value.str ((let_mvar% ?f227 := (fun (x : Str) (_ : doc (nth PySem.Challenge.pw_in0191_01.main.body 9) = Const.str x) => x); ?f227 _ (by conv => lhs; whnf))) 557, pyModule := Value.str (Str.ofString "cpy313.stat") 541, code := Value.ref 219 } }
noncomputable def o329 : Params → Obj := fun P => { cls := Value.type "tuple", data := Data.seq #[Value.int 40960 569, Value.str (Str.ofString "l") 597] }
noncomputable def o330 : Params → Obj := fun P => { cls := Value.type "tuple", data := Data.seq #[Value.int 49152 571, Value.str (Str.ofString "s") 598] }
noncomputable def o331 : Params → Obj := fun P => { cls := Value.type "tuple", data := Data.seq #[Value.int 32768 565, Value.str (Str.ofString "-") 599] }
noncomputable def o332 : Params → Obj := fun P => { cls := Value.type "tuple", data := Data.seq #[Value.int 24576 563, Value.str (Str.ofString "b") 600] }
noncomputable def o333 : Params → Obj := fun P => { cls := Value.type "tuple", data := Data.seq #[Value.int 16384 559, Value.str (Str.ofString "d") 601] }
noncomputable def o334 : Params → Obj := fun P => { cls := Value.type "tuple", data := Data.seq #[Value.int 8192 561, Value.str (Str.ofString "c") 602] }
noncomputable def o335 : Params → Obj := fun P => { cls := Value.type "tuple", data := Data.seq #[Value.int 4096 567, Value.str (Str.ofString "p") 603] }
noncomputable def o336 : Params → Obj := fun P => { cls := Value.type "tuple", data := Data.seq (List.toArray (Value.ref 221 :: Value.ref 222 :: Value.ref 223 :: Value.ref 224 :: Value.ref 225 :: Value.ref 226 :: Value.ref 227 :: [])) }
noncomputable def o337 : Params → Obj := fun P => { cls := Value.type "tuple", data := Data.seq #[Value.int 256 579, Value.str (Str.ofString "r") 604] }
noncomputable def o338 : Params → Obj := fun P => { cls := Value.type "tuple", data := Data.seq #[Value.ref 229] }
noncomputable def o339 : Params → Obj := fun P => { cls := Value.type "tuple", data := Data.seq #[Value.int 128 581, Value.str (Str.ofString "w") 605] }
noncomputable def o340 : Params → Obj := fun P => { cls := Value.type "tuple", data := Data.seq #[Value.ref 231] }
noncomputable def o341 : Params → Obj := fun P => { cls := Value.type "tuple", data := Data.seq #[Value.int 2112 606, Value.str (Str.ofString "s") 607] }
noncomputable def o342 : Params → Obj := fun P => { cls := Value.type "tuple", data := Data.seq #[Value.int 2048 573, Value.str (Str.ofString "S") 608] }
noncomputable def o343 : Params → Obj := fun P => { cls := Value.type "tuple", data := Data.seq #[Value.int 64 583, Value.str (Str.ofString "x") 609] }
noncomputable def o344 : Params → Obj := fun P => { cls := Value.type "tuple", data := Data.seq #[Value.ref 233, Value.ref 234, Value.ref 235] }
noncomputable def o345 : Params → Obj := fun P => { cls := Value.type "tuple", data := Data.seq #[Value.int 32 585, Value.str (Str.ofString "r") 610] }
noncomputable def o346 : Params → Obj := fun P => { cls := Value.type "tuple", data := Data.seq #[Value.ref 237] }
noncomputable def o347 : Params → Obj := fun P => { cls := Value.type "tuple", data := Data.seq #[Value.int 16 587, Value.str (Str.ofString "w") 611] }
noncomputable def o348 : Params → Obj := fun P => { cls := Value.type "tuple", data := Data.seq #[Value.ref 239] }
noncomputable def o349 : Params → Obj := fun P => { cls := Value.type "tuple", data := Data.seq #[Value.int 1032 612, Value.str (Str.ofString "s") 613] }
noncomputable def o350 : Params → Obj := fun P => { cls := Value.type "tuple", data := Data.seq #[Value.int 1024 575, Value.str (Str.ofString "S") 614] }
noncomputable def o351 : Params → Obj := fun P => { cls := Value.type "tuple", data := Data.seq #[Value.int 8 589, Value.str (Str.ofString "x") 615] }
noncomputable def o352 : Params → Obj := fun P => { cls := Value.type "tuple", data := Data.seq #[Value.ref 241, Value.ref 242, Value.ref 243] }
noncomputable def o353 : Params → Obj := fun P => { cls := Value.type "tuple", data := Data.seq #[Value.int 4 591, Value.str (Str.ofString "r") 616] }
noncomputable def o354 : Params → Obj := fun P => { cls := Value.type "tuple", data := Data.seq #[Value.ref 245] }
noncomputable def o355 : Params → Obj := fun P => { cls := Value.type "tuple", data := Data.seq #[Value.int 2 593, Value.str (Str.ofString "w") 617] }
noncomputable def o356 : Params → Obj := fun P => { cls := Value.type "tuple", data := Data.seq #[Value.ref 247] }
noncomputable def o357 : Params → Obj := fun P => { cls := Value.type "tuple", data := Data.seq #[Value.int 513 618, Value.str (Str.ofString "t") 619] }
noncomputable def o358 : Params → Obj := fun P => { cls := Value.type "tuple", data := Data.seq #[Value.int 512 577, Value.str (Str.ofString "T") 620] }
noncomputable def o359 : Params → Obj := fun P => { cls := Value.type "tuple", data := Data.seq #[Value.int 1 595, Value.str (Str.ofString "x") 621] }
noncomputable def o360 : Params → Obj := fun P => { cls := Value.type "tuple", data := Data.seq #[Value.ref 249, Value.ref 250, Value.ref 251] }
noncomputable def o361 : Params → Obj := fun P => { cls := Value.type "tuple", data := Data.seq (List.toArray (Value.ref 228 :: Value.ref 230 :: Value.ref 232 :: Value.ref 236 :: Value.ref 238 :: Value.ref 240 :: Value.ref 244 :: Value.ref 246 :: Value.ref 248 :: Value.ref 252 :: [])) }
noncomputable def o362 : Params → Obj := fun P => { cls := Value.type "dict", data := Data.dict (List.toArray ({ hash := PyData.keyHash P (Str.ofString "__name__"), key := Value.str (Str.ofString "__name__") 165, val := Value.str (Str.ofString "law_in0191_01") 636 } :: { hash := PyData.keyHash P (Str.ofString "__doc__"), key := Value.str (Str.ofString "__doc__") 166, val := Value.none } :: { hash := PyData.keyHash P (Str.ofString "__package__"), key := Value.str (Str.ofString "__package__") 167, val := Value.none } :: { hash := PyData.keyHash P (Str.ofString "__loader__"), key := Value.str (Str.ofString "__loader__") 168, val := Value.builtin "__main__.__loader__#opaque" } :: { hash := PyData.keyHash P (Str.ofString "__spec__"), key := Value.str (Str.ofString "__spec__") 169, val := Value.none } :: { hash := PyData.keyHash P (Str.ofString "__annotations__"), key := Value.str (Str.ofString "__annotations__") 170, val := Value.ref 6 } :: { hash := PyData.keyHash P (Str.ofString "__builtins__"), key := Value.str (Str.ofString "__builtins__") 171, val := Value.ref 4 } :: { hash := PyData.keyHash P (Str.ofString "__file__"), key := Value.str (Str.ofString "__file__") 173, val := Value.str (Str.ofString "/claim/cut.py") 172 } :: { hash := PyData.keyHash P (Str.ofString "__cached__"), key := Value.str (Str.ofString "__cached__") 174, val := Value.none } :: { hash := PyData.keyHash P (Str.ofString "defaultdict"), key := Value.str (Str.ofString "defaultdict") 272, val := Value.type "collections.defaultdict" } :: { hash := PyData.keyHash P (Str.ofString "_wall"), key := Value.str (Str.ofString "_wall") 285, val := Value.ref 39 } :: { hash := PyData.keyHash P (Str.ofString "_tuplegetter"), key := Value.str (Str.ofString "_tuplegetter") 344, val := Value.ref 78 } :: { hash := PyData.keyHash P (Str.ofString "FreezableDefaultDict"), key := Value.str (Str.ofString "FreezableDefaultDict") 387, val := Value.ref 108 } :: { hash := PyData.keyHash P (Str.ofString "Pair"), key := Value.str (Str.ofString "Pair") 502, val := Value.ref 203 } :: { hash := PyData.keyHash P (Str.ofString "S_IMODE"), key := Value.str (Str.ofString "S_IMODE") 550, val := Value.ref 213 } :: { hash := PyData.keyHash P (Str.ofString "S_IFMT"), key := Value.str (Str.ofString "S_IFMT") 558, val := Value.ref 220 } :: { hash := PyData.keyHash P (Str.ofString "S_IFDIR"), key := Value.str (Str.ofString "S_IFDIR") 560, val := Value.int 16384 559 } :: { hash := PyData.keyHash P (Str.ofString "S_IFCHR"), key := Value.str (Str.ofString "S_IFCHR") 562, val := Value.int 8192 561 } :: { hash := PyData.keyHash P (Str.ofString "S_IFBLK"), key := Value.str (Str.ofString "S_IFBLK") 564, val := Value.int 24576 563 } :: { hash := PyData.keyHash P (Str.ofString "S_IFREG"), key := Value.str (Str.ofString "S_IFREG") 566, val := Value.int 32768 565 } :: { hash := PyData.keyHash P (Str.ofString "S_IFIFO"), key := Value.str (Str.ofString "S_IFIFO") 568, val := Value.int 4096 567 } :: { hash := PyData.keyHash P (Str.ofString "S_IFLNK"), key := Value.str (Str.ofString "S_IFLNK") 570, val := Value.int 40960 569 } :: { hash := PyData.keyHash P (Str.ofString "S_IFSOCK"), key := Value.str (Str.ofString "S_IFSOCK") 572, val := Value.int 49152 571 } :: { hash := PyData.keyHash P (Str.ofString "S_ISUID"), key := Value.str (Str.ofString "S_ISUID") 574, val := Value.int 2048 573 } :: { hash := PyData.keyHash P (Str.ofString "S_ISGID"), key := Value.str (Str.ofString "S_ISGID") 576, val := Value.int 1024 575 } :: { hash := PyData.keyHash P (Str.ofString "S_ISVTX"), key := Value.str (Str.ofString "S_ISVTX") 578, val := Value.int 512 577 } :: { hash := PyData.keyHash P (Str.ofString "S_IRUSR"), key := Value.str (Str.ofString "S_IRUSR") 580, val := Value.int 256 579 } :: { hash := PyData.keyHash P (Str.ofString "S_IWUSR"), key := Value.str (Str.ofString "S_IWUSR") 582, val := Value.int 128 581 } :: { hash := PyData.keyHash P (Str.ofString "S_IXUSR"), key := Value.str (Str.ofString "S_IXUSR") 584, val := Value.int 64 583 } :: { hash := PyData.keyHash P (Str.ofString "S_IRGRP"), key := Value.str (Str.ofString "S_IRGRP") 586, val := Value.int 32 585 } :: { hash := PyData.keyHash P (Str.ofString "S_IWGRP"), key := Value.str (Str.ofString "S_IWGRP") 588, val := Value.int 16 587 } :: { hash := PyData.keyHash P (Str.ofString "S_IXGRP"), key := Value.str (Str.ofString "S_IXGRP") 590, val := Value.int 8 589 } :: { hash := PyData.keyHash P (Str.ofString "S_IROTH"), key := Value.str (Str.ofString "S_IROTH") 592, val := Value.int 4 591 } :: { hash := PyData.keyHash P (Str.ofString "S_IWOTH"), key := Value.str (Str.ofString "S_IWOTH") 594, val := Value.int 2 593 } :: { hash := PyData.keyHash P (Str.ofString "S_IXOTH"), key := Value.str (Str.ofString "S_IXOTH") 596, val := Value.int 1 595 } :: { hash := PyData.keyHash P (Str.ofString "_filemode_table"), key := Value.str (Str.ofString "_filemode_table") 622, val := Value.ref 253 } :: { hash := PyData.keyHash P (Str.ofString "filemode"), key := Value.str (Str.ofString "filemode") 635, val := Value.ref 260 } :: { hash := PyData.keyHash P (Str.ofString "_law_signs"), key := Value.str (Str.ofString "_law_signs") 649, val := Value.ref 267 } :: { hash := PyData.keyHash P (Str.ofString "_law_name"), key := Value.str (Str.ofString "_law_name") 656, val := Value.ref 274 } :: { hash := PyData.keyHash P (Str.ofString "_law_run"), key := Value.str (Str.ofString "_law_run") 662, val := Value.ref 279 } :: { hash := PyData.keyHash P (Str.ofString "_law_put"), key := Value.str (Str.ofString "_law_put") 673, val := Value.ref 286 } :: { hash := PyData.keyHash P (Str.ofString "_law_found"), key := Value.str (Str.ofString "_law_found") 682, val := Value.ref 293 } :: { hash := PyData.keyHash P (Str.ofString "_law_due"), key := Value.str (Str.ofString "_law_due") 688, val := Value.ref 298 } :: { hash := PyData.keyHash P (Str.ofString "law"), key := Value.str (Str.ofString "law") 694, val := Value.ref 303 } :: [])) 44 }
noncomputable def o363 : Params → Obj := fun P => { cls := Value.none, data := Data.fields (List.toArray (Value.int 2 0 :: Value.int 0 0 :: Value.ref 38 :: Value.int 6 0 :: Value.int 0 0 :: Value.ref 45 :: Value.int 24 0 :: Value.int 0 0 :: Value.ref 89 :: Value.int 44 0 :: Value.int 0 0 :: Value.ref 119 :: Value.int 86 0 :: Value.int 0 0 :: Value.ref 189 :: Value.int 92 0 :: Value.int 0 0 :: Value.ref 212 :: Value.int 97 0 :: Value.int 0 0 :: Value.ref 219 :: Value.int 122 0 :: Value.int 0 0 :: Value.ref 259 :: Value.int 141 0 :: Value.int 0 0 :: Value.ref 266 :: Value.int 150 0 :: Value.int 0 0 :: Value.ref 273 :: Value.int 152 0 :: Value.int 0 0 :: Value.ref 278 :: Value.int 167 0 :: Value.int 0 0 :: Value.ref 285 :: Value.int 175 0 :: Value.int 0 0 :: Value.ref 292 :: Value.int 180 0 :: Value.int 0 0 :: Value.ref 297 :: Value.int 198 0 :: Value.int 0 0 :: Value.ref 302 :: [])) }
noncomputable def o364 : Params → Obj := PySem.W.boot_o_7
noncomputable def o365 : Params → Obj := PySem.W.boot_o_8
noncomputable def o366 : Params → Obj := fun P => { cls := Value.type "tuple", data := Data.seq #[Value.str (Str.ofString "mode") 626, Value.str (Str.ofString "perm") 627, Value.str (Str.ofString "index") 628, Value.str (Str.ofString "table") 629, Value.str (Str.ofString "bit") 630, Value.str (Str.ofString "char") 631] }
noncomputable def o367 : Params → Obj := PySem.W.boot_o_7
noncomputable def o368 : Params → Obj := fun P => { cls := Value.none, data := Data.func { name := Str.ofString "filemode", qualname := Str.ofString "filemode", params := (let_mvar% ?f228 := (fun (x : Arguments) (_ : prm (nth PySem.Challenge.pw_in0191_01.main.body 30) = x) => x); ?f228 _ (by conv => lhs; whnf)), body := FuncBody.stmts (let_mvar% ?f229 := (fun (x : List Stmt) (_ : inn (nth PySem.Challenge.pw_in0191_01.main.body 30) = x) => x); ?f229 _ (by conv => lhs; whnf)), scope := (let_mvar% ?f230 := (fun (x : Scope) (_ : scp (nth PySem.Challenge.pw_in0191_01.main.body 30) = x) => x); ?f230 _ (by conv => lhs; whnf)), globals := 0, closure := [], defaults := Value.none, kwdefaults := Value.none } }
noncomputable def o369 : Params → Obj := fun P => { cls := Value.type "code", data := Data.fields (List.toArray (Value.str (Str.ofString "filemode") 623 :: Value.str (Str.ofString "filemode") 624 :: Value.str (Str.ofString "/claim/cut.py") 625 :: Value.int 122 0 :: Value.int 1 0 :: Value.int 0 0 :: Value.int 0 0 :: Value.int 3 0 :: Value.ref 254 :: Value.bool true :: Value.int 273 0 :: Value.ref 255 :: Value.none :: Value.ref 256 :: Value.ref 257 :: Value.ref 258 :: Value.int 632 0 :: Value.int 122 0 :: Value.str (Str.ofString "/claim/cut.py") 633 :: [])) }
noncomputable def o370 : Params → Obj := fun P => { cls := Value.type "function", data := Data.func { name := Str.ofString "filemode", qualname := Str.ofString "filemode", params := (let_mvar% ?f231 := (fun (x : Arguments) (_ : prm (nth PySem.Challenge.pw_in0191_01.main.body 30) = x) => x); ?f231 _ (by conv => lhs; whnf)), body := FuncBody.stmts (let_mvar% ?f232 := (fun (x : List Stmt) (_ : inn (nth PySem.Challenge.pw_in0191_01.main.body 30) = x) => x); ?f232 _ (by conv => lhs; whnf)), scope := (let_mvar% ?f233 := (fun (x : Scope) (_ : scp (nth PySem.Challenge.pw_in0191_01.main.body 30) = x) => x); ?f233 _ (by conv => lhs; whnf)), globals := 3, closure := [], defaults := Value.none, kwdefaults := Value.none, doc := Value.str ((let_mvar% ?f234 := (fun (x : Str) (_ : doc (nth PySem.Challenge.pw_in0191_01.main.body 30) = Const.str x) => x); ?f234 _ (by conv => lhs; whnf))) 634, pyModule := Value.str (Str.ofString "cpy313.stat") 541, code := Value.ref 259 } }
noncomputable def o371 : Params → Obj := PySem.W.boot_o_7
noncomputable def o372 : Params → Obj := PySem.W.boot_o_8
noncomputable def o373 : Params → Obj := fun P => { cls := Value.type "tuple", data := Data.seq #[Value.str (Str.ofString "kind") 641, Value.str (Str.ofString "rights") 642, Value.str (Str.ofString "signs") 643, Value.str (Str.ofString "place") 644, Value.str (Str.ofString "three") 645, Value.str (Str.ofString "above") 646] }
noncomputable def o374 : Params → Obj := PySem.W.boot_o_7
noncomputable def o375 : Params → Obj := fun P => { cls := Value.none, data := Data.func { name := Str.ofString "_law_signs", qualname := Str.ofString "_law_signs", params := (let_mvar% ?f235 := (fun (x : Arguments) (_ : prm (nth PySem.Challenge.pw_in0191_01.main.body 32) = x) => x); ?f235 _ (by conv => lhs; whnf)), body := FuncBody.stmts (let_mvar% ?f236 := (fun (x : List Stmt) (_ : inn (nth PySem.Challenge.pw_in0191_01.main.body 32) = x) => x); ?f236 _ (by conv => lhs; whnf)), scope := (let_mvar% ?f237 := (fun (x : Scope) (_ : scp (nth PySem.Challenge.pw_in0191_01.main.body 32) = x) => x); ?f237 _ (by conv => lhs; whnf)), globals := 0, closure := [], defaults := Value.none, kwdefaults := Value.none } }
noncomputable def o376 : Params → Obj := fun P => { cls := Value.type "code", data := Data.fields (List.toArray (Value.str (Str.ofString "_law_signs") 638 :: Value.str (Str.ofString "_law_signs") 639 :: Value.str (Str.ofString "/claim/cut.py") 640 :: Value.int 141 0 :: Value.int 2 0 :: Value.int 0 0 :: Value.int 0 0 :: Value.int 3 0 :: Value.ref 261 :: Value.bool true :: Value.int 273 0 :: Value.ref 262 :: Value.none :: Value.ref 263 :: Value.ref 264 :: Value.ref 265 :: Value.int 647 0 :: Value.int 141 0 :: Value.str (Str.ofString "/claim/cut.py") 648 :: [])) }
noncomputable def o377 : Params → Obj := fun P => { cls := Value.type "function", data := Data.func { name := Str.ofString "_law_signs", qualname := Str.ofString "_law_signs", params := (let_mvar% ?f238 := (fun (x : Arguments) (_ : prm (nth PySem.Challenge.pw_in0191_01.main.body 32) = x) => x); ?f238 _ (by conv => lhs; whnf)), body := FuncBody.stmts (let_mvar% ?f239 := (fun (x : List Stmt) (_ : inn (nth PySem.Challenge.pw_in0191_01.main.body 32) = x) => x); ?f239 _ (by conv => lhs; whnf)), scope := (let_mvar% ?f240 := (fun (x : Scope) (_ : scp (nth PySem.Challenge.pw_in0191_01.main.body 32) = x) => x); ?f240 _ (by conv => lhs; whnf)), globals := 3, closure := [], defaults := Value.none, kwdefaults := Value.none, pyModule := Value.str (Str.ofString "law_in0191_01") 636, code := Value.ref 266 } }
noncomputable def o378 : Params → Obj := PySem.W.boot_o_7
noncomputable def o379 : Params → Obj := PySem.W.boot_o_8
noncomputable def o380 : Params → Obj := fun P => { cls := Value.type "tuple", data := Data.seq #[Value.str (Str.ofString "place") 653] }
noncomputable def o381 : Params → Obj := PySem.W.boot_o_7
noncomputable def o382 : Params → Obj := fun P => { cls := Value.none, data := Data.func { name := Str.ofString "_law_name", qualname := Str.ofString "_law_name", params := (let_mvar% ?f241 := (fun (x : Arguments) (_ : prm (nth PySem.Challenge.pw_in0191_01.main.body 33) = x) => x); ?f241 _ (by conv => lhs; whnf)), body := FuncBody.stmts (let_mvar% ?f242 := (fun (x : List Stmt) (_ : inn (nth PySem.Challenge.pw_in0191_01.main.body 33) = x) => x); ?f242 _ (by conv => lhs; whnf)), scope := (let_mvar% ?f243 := (fun (x : Scope) (_ : scp (nth PySem.Challenge.pw_in0191_01.main.body 33) = x) => x); ?f243 _ (by conv => lhs; whnf)), globals := 0, closure := [], defaults := Value.none, kwdefaults := Value.none } }
noncomputable def o383 : Params → Obj := fun P => { cls := Value.type "code", data := Data.fields (List.toArray (Value.str (Str.ofString "_law_name") 650 :: Value.str (Str.ofString "_law_name") 651 :: Value.str (Str.ofString "/claim/cut.py") 652 :: Value.int 150 0 :: Value.int 1 0 :: Value.int 0 0 :: Value.int 0 0 :: Value.int 3 0 :: Value.ref 268 :: Value.bool true :: Value.int 273 0 :: Value.ref 269 :: Value.none :: Value.ref 270 :: Value.ref 271 :: Value.ref 272 :: Value.int 654 0 :: Value.int 150 0 :: Value.str (Str.ofString "/claim/cut.py") 655 :: [])) }
noncomputable def o384 : Params → Obj := fun P => { cls := Value.type "function", data := Data.func { name := Str.ofString "_law_name", qualname := Str.ofString "_law_name", params := (let_mvar% ?f244 := (fun (x : Arguments) (_ : prm (nth PySem.Challenge.pw_in0191_01.main.body 33) = x) => x); ?f244 _ (by conv => lhs; whnf)), body := FuncBody.stmts (let_mvar% ?f245 := (fun (x : List Stmt) (_ : inn (nth PySem.Challenge.pw_in0191_01.main.body 33) = x) => x); ?f245 _ (by conv => lhs; whnf)), scope := (let_mvar% ?f246 := (fun (x : Scope) (_ : scp (nth PySem.Challenge.pw_in0191_01.main.body 33) = x) => x); ?f246 _ (by conv => lhs; whnf)), globals := 3, closure := [], defaults := Value.none, kwdefaults := Value.none, pyModule := Value.str (Str.ofString "law_in0191_01") 636, code := Value.ref 273 } }
noncomputable def o385 : Params → Obj := PySem.W.boot_o_7
noncomputable def o386 : Params → Obj := PySem.W.boot_o_8
noncomputable def o387 : Params → Obj := fun P => { cls := Value.none, data := Data.func { name := Str.ofString "_law_run", qualname := Str.ofString "_law_run", params := (let_mvar% ?f247 := (fun (x : Arguments) (_ : prm (nth PySem.Challenge.pw_in0191_01.main.body 34) = x) => x); ?f247 _ (by conv => lhs; whnf)), body := FuncBody.stmts (let_mvar% ?f248 := (fun (x : List Stmt) (_ : inn (nth PySem.Challenge.pw_in0191_01.main.body 34) = x) => x); ?f248 _ (by conv => lhs; whnf)), scope := (let_mvar% ?f249 := (fun (x : Scope) (_ : scp (nth PySem.Challenge.pw_in0191_01.main.body 34) = x) => x); ?f249 _ (by conv => lhs; whnf)), globals := 0, closure := [], defaults := Value.none, kwdefaults := Value.none } }
noncomputable def o388 : Params → Obj := fun P => { cls := Value.type "code", data := Data.fields (List.toArray (Value.str (Str.ofString "_law_run") 657 :: Value.str (Str.ofString "_law_run") 658 :: Value.str (Str.ofString "/claim/cut.py") 659 :: Value.int 152 0 :: Value.int 1 0 :: Value.int 0 0 :: Value.int 0 0 :: Value.int 3 0 :: Value.ref 275 :: Value.bool true :: Value.int 273 0 :: Value.ref 276 :: Value.none :: Value.none :: Value.none :: Value.ref 277 :: Value.int 660 0 :: Value.int 152 0 :: Value.str (Str.ofString "/claim/cut.py") 661 :: [])) }
noncomputable def o389 : Params → Obj := fun P => { cls := Value.type "function", data := Data.func { name := Str.ofString "_law_run", qualname := Str.ofString "_law_run", params := (let_mvar% ?f250 := (fun (x : Arguments) (_ : prm (nth PySem.Challenge.pw_in0191_01.main.body 34) = x) => x); ?f250 _ (by conv => lhs; whnf)), body := FuncBody.stmts (let_mvar% ?f251 := (fun (x : List Stmt) (_ : inn (nth PySem.Challenge.pw_in0191_01.main.body 34) = x) => x); ?f251 _ (by conv => lhs; whnf)), scope := (let_mvar% ?f252 := (fun (x : Scope) (_ : scp (nth PySem.Challenge.pw_in0191_01.main.body 34) = x) => x); ?f252 _ (by conv => lhs; whnf)), globals := 3, closure := [], defaults := Value.none, kwdefaults := Value.none, pyModule := Value.str (Str.ofString "law_in0191_01") 636, code := Value.ref 278 } }
noncomputable def o390 : Params → Obj := PySem.W.boot_o_7
noncomputable def o391 : Params → Obj := PySem.W.boot_o_8
noncomputable def o392 : Params → Obj := fun P => { cls := Value.type "tuple", data := Data.seq #[Value.str (Str.ofString "rows") 666, Value.str (Str.ofString "key") 667, Value.str (Str.ofString "record") 668, Value.str (Str.ofString "grows") 669, Value.str (Str.ofString "row") 670] }
noncomputable def o393 : Params → Obj := PySem.W.boot_o_7
noncomputable def o394 : Params → Obj := fun P => { cls := Value.none, data := Data.func { name := Str.ofString "_law_put", qualname := Str.ofString "_law_put", params := (let_mvar% ?f253 := (fun (x : Arguments) (_ : prm (nth PySem.Challenge.pw_in0191_01.main.body 35) = x) => x); ?f253 _ (by conv => lhs; whnf)), body := FuncBody.stmts (let_mvar% ?f254 := (fun (x : List Stmt) (_ : inn (nth PySem.Challenge.pw_in0191_01.main.body 35) = x) => x); ?f254 _ (by conv => lhs; whnf)), scope := (let_mvar% ?f255 := (fun (x : Scope) (_ : scp (nth PySem.Challenge.pw_in0191_01.main.body 35) = x) => x); ?f255 _ (by conv => lhs; whnf)), globals := 0, closure := [], defaults := Value.none, kwdefaults := Value.none } }
noncomputable def o395 : Params → Obj := fun P => { cls := Value.type "code", data := Data.fields (List.toArray (Value.str (Str.ofString "_law_put") 663 :: Value.str (Str.ofString "_law_put") 664 :: Value.str (Str.ofString "/claim/cut.py") 665 :: Value.int 167 0 :: Value.int 4 0 :: Value.int 0 0 :: Value.int 0 0 :: Value.int 3 0 :: Value.ref 280 :: Value.bool true :: Value.int 273 0 :: Value.ref 281 :: Value.none :: Value.ref 282 :: Value.ref 283 :: Value.ref 284 :: Value.int 671 0 :: Value.int 167 0 :: Value.str (Str.ofString "/claim/cut.py") 672 :: [])) }
noncomputable def o396 : Params → Obj := fun P => { cls := Value.type "function", data := Data.func { name := Str.ofString "_law_put", qualname := Str.ofString "_law_put", params := (let_mvar% ?f256 := (fun (x : Arguments) (_ : prm (nth PySem.Challenge.pw_in0191_01.main.body 35) = x) => x); ?f256 _ (by conv => lhs; whnf)), body := FuncBody.stmts (let_mvar% ?f257 := (fun (x : List Stmt) (_ : inn (nth PySem.Challenge.pw_in0191_01.main.body 35) = x) => x); ?f257 _ (by conv => lhs; whnf)), scope := (let_mvar% ?f258 := (fun (x : Scope) (_ : scp (nth PySem.Challenge.pw_in0191_01.main.body 35) = x) => x); ?f258 _ (by conv => lhs; whnf)), globals := 3, closure := [], defaults := Value.none, kwdefaults := Value.none, pyModule := Value.str (Str.ofString "law_in0191_01") 636, code := Value.ref 285 } }
noncomputable def o397 : Params → Obj := PySem.W.boot_o_7
noncomputable def o398 : Params → Obj := PySem.W.boot_o_8
noncomputable def o399 : Params → Obj := fun P => { cls := Value.type "tuple", data := Data.seq #[Value.str (Str.ofString "rows") 677, Value.str (Str.ofString "key") 678, Value.str (Str.ofString "row") 679] }
noncomputable def o400 : Params → Obj := PySem.W.boot_o_7
noncomputable def o401 : Params → Obj := fun P => { cls := Value.none, data := Data.func { name := Str.ofString "_law_found", qualname := Str.ofString "_law_found", params := (let_mvar% ?f259 := (fun (x : Arguments) (_ : prm (nth PySem.Challenge.pw_in0191_01.main.body 36) = x) => x); ?f259 _ (by conv => lhs; whnf)), body := FuncBody.stmts (let_mvar% ?f260 := (fun (x : List Stmt) (_ : inn (nth PySem.Challenge.pw_in0191_01.main.body 36) = x) => x); ?f260 _ (by conv => lhs; whnf)), scope := (let_mvar% ?f261 := (fun (x : Scope) (_ : scp (nth PySem.Challenge.pw_in0191_01.main.body 36) = x) => x); ?f261 _ (by conv => lhs; whnf)), globals := 0, closure := [], defaults := Value.none, kwdefaults := Value.none } }
noncomputable def o402 : Params → Obj := fun P => { cls := Value.type "code", data := Data.fields (List.toArray (Value.str (Str.ofString "_law_found") 674 :: Value.str (Str.ofString "_law_found") 675 :: Value.str (Str.ofString "/claim/cut.py") 676 :: Value.int 175 0 :: Value.int 2 0 :: Value.int 0 0 :: Value.int 0 0 :: Value.int 3 0 :: Value.ref 287 :: Value.bool true :: Value.int 273 0 :: Value.ref 288 :: Value.none :: Value.ref 289 :: Value.ref 290 :: Value.ref 291 :: Value.int 680 0 :: Value.int 175 0 :: Value.str (Str.ofString "/claim/cut.py") 681 :: [])) }
noncomputable def o403 : Params → Obj := fun P => { cls := Value.type "function", data := Data.func { name := Str.ofString "_law_found", qualname := Str.ofString "_law_found", params := (let_mvar% ?f262 := (fun (x : Arguments) (_ : prm (nth PySem.Challenge.pw_in0191_01.main.body 36) = x) => x); ?f262 _ (by conv => lhs; whnf)), body := FuncBody.stmts (let_mvar% ?f263 := (fun (x : List Stmt) (_ : inn (nth PySem.Challenge.pw_in0191_01.main.body 36) = x) => x); ?f263 _ (by conv => lhs; whnf)), scope := (let_mvar% ?f264 := (fun (x : Scope) (_ : scp (nth PySem.Challenge.pw_in0191_01.main.body 36) = x) => x); ?f264 _ (by conv => lhs; whnf)), globals := 3, closure := [], defaults := Value.none, kwdefaults := Value.none, pyModule := Value.str (Str.ofString "law_in0191_01") 636, code := Value.ref 292 } }
noncomputable def o404 : Params → Obj := PySem.W.boot_o_7
noncomputable def o405 : Params → Obj := PySem.W.boot_o_8
noncomputable def o406 : Params → Obj := fun P => { cls := Value.none, data := Data.func { name := Str.ofString "_law_due", qualname := Str.ofString "_law_due", params := (let_mvar% ?f265 := (fun (x : Arguments) (_ : prm (nth PySem.Challenge.pw_in0191_01.main.body 37) = x) => x); ?f265 _ (by conv => lhs; whnf)), body := FuncBody.stmts (let_mvar% ?f266 := (fun (x : List Stmt) (_ : inn (nth PySem.Challenge.pw_in0191_01.main.body 37) = x) => x); ?f266 _ (by conv => lhs; whnf)), scope := (let_mvar% ?f267 := (fun (x : Scope) (_ : scp (nth PySem.Challenge.pw_in0191_01.main.body 37) = x) => x); ?f267 _ (by conv => lhs; whnf)), globals := 0, closure := [], defaults := Value.none, kwdefaults := Value.none } }
noncomputable def o407 : Params → Obj := fun P => { cls := Value.type "code", data := Data.fields (List.toArray (Value.str (Str.ofString "_law_due") 683 :: Value.str (Str.ofString "_law_due") 684 :: Value.str (Str.ofString "/claim/cut.py") 685 :: Value.int 180 0 :: Value.int 1 0 :: Value.int 0 0 :: Value.int 0 0 :: Value.int 3 0 :: Value.ref 294 :: Value.bool true :: Value.int 273 0 :: Value.ref 295 :: Value.none :: Value.none :: Value.none :: Value.ref 296 :: Value.int 686 0 :: Value.int 180 0 :: Value.str (Str.ofString "/claim/cut.py") 687 :: [])) }
noncomputable def o408 : Params → Obj := fun P => { cls := Value.type "function", data := Data.func { name := Str.ofString "_law_due", qualname := Str.ofString "_law_due", params := (let_mvar% ?f268 := (fun (x : Arguments) (_ : prm (nth PySem.Challenge.pw_in0191_01.main.body 37) = x) => x); ?f268 _ (by conv => lhs; whnf)), body := FuncBody.stmts (let_mvar% ?f269 := (fun (x : List Stmt) (_ : inn (nth PySem.Challenge.pw_in0191_01.main.body 37) = x) => x); ?f269 _ (by conv => lhs; whnf)), scope := (let_mvar% ?f270 := (fun (x : Scope) (_ : scp (nth PySem.Challenge.pw_in0191_01.main.body 37) = x) => x); ?f270 _ (by conv => lhs; whnf)), globals := 3, closure := [], defaults := Value.none, kwdefaults := Value.none, pyModule := Value.str (Str.ofString "law_in0191_01") 636, code := Value.ref 297 } }
noncomputable def o409 : Params → Obj := PySem.W.boot_o_7
noncomputable def o410 : Params → Obj := PySem.W.boot_o_8
noncomputable def o411 : Params → Obj := fun P => { cls := Value.none, data := Data.func { name := Str.ofString "law", qualname := Str.ofString "law", params := (let_mvar% ?f271 := (fun (x : Arguments) (_ : prm (nth PySem.Challenge.pw_in0191_01.main.body 38) = x) => x); ?f271 _ (by conv => lhs; whnf)), body := FuncBody.stmts (let_mvar% ?f272 := (fun (x : List Stmt) (_ : inn (nth PySem.Challenge.pw_in0191_01.main.body 38) = x) => x); ?f272 _ (by conv => lhs; whnf)), scope := (let_mvar% ?f273 := (fun (x : Scope) (_ : scp (nth PySem.Challenge.pw_in0191_01.main.body 38) = x) => x); ?f273 _ (by conv => lhs; whnf)), globals := 0, closure := [], defaults := Value.none, kwdefaults := Value.none } }
noncomputable def o412 : Params → Obj := fun P => { cls := Value.type "code", data := Data.fields (List.toArray (Value.str (Str.ofString "law") 689 :: Value.str (Str.ofString "law") 690 :: Value.str (Str.ofString "/claim/cut.py") 691 :: Value.int 198 0 :: Value.int 1 0 :: Value.int 0 0 :: Value.int 0 0 :: Value.int 3 0 :: Value.ref 299 :: Value.bool true :: Value.int 273 0 :: Value.ref 300 :: Value.none :: Value.none :: Value.none :: Value.ref 301 :: Value.int 692 0 :: Value.int 198 0 :: Value.str (Str.ofString "/claim/cut.py") 693 :: [])) }
noncomputable def o413 : Params → Obj := fun P => { cls := Value.type "function", data := Data.func { name := Str.ofString "law", qualname := Str.ofString "law", params := (let_mvar% ?f274 := (fun (x : Arguments) (_ : prm (nth PySem.Challenge.pw_in0191_01.main.body 38) = x) => x); ?f274 _ (by conv => lhs; whnf)), body := FuncBody.stmts (let_mvar% ?f275 := (fun (x : List Stmt) (_ : inn (nth PySem.Challenge.pw_in0191_01.main.body 38) = x) => x); ?f275 _ (by conv => lhs; whnf)), scope := (let_mvar% ?f276 := (fun (x : Scope) (_ : scp (nth PySem.Challenge.pw_in0191_01.main.body 38) = x) => x); ?f276 _ (by conv => lhs; whnf)), globals := 3, closure := [], defaults := Value.none, kwdefaults := Value.none, pyModule := Value.str (Str.ofString "law_in0191_01") 636, code := Value.ref 302 } }
noncomputable def hp0 : Params → Heap := fun P => { objs := { toList := o41 P :: o42 P :: o43 P :: o44 P :: o45 P :: o46 P :: o47 P :: o48 P :: o49 P :: o50 P :: o51 P :: o52 P :: o53 P :: o54 P :: o55 P :: o56 P :: o57 P :: o58 P :: o59 P :: o60 P :: o61 P :: o62 P :: o63 P :: o64 P :: o65 P :: o66 P :: o67 P :: o68 P :: o69 P :: [] } }
noncomputable def hp1 : Params → Heap := fun P => { objs := { toList := o41 P :: o42 P :: o43 P :: o44 P :: o45 P :: o46 P :: o47 P :: o48 P :: o49 P :: o50 P :: o51 P :: o52 P :: o53 P :: o54 P :: o55 P :: o56 P :: o57 P :: o58 P :: o59 P :: o60 P :: o61 P :: o62 P :: o63 P :: o64 P :: o65 P :: o66 P :: o67 P :: o68 P :: o69 P :: o70 P :: o71 P :: o72 P :: o73 P :: [] } }
noncomputable def hp2 : Params → Heap := fun P => { objs := { toList := o41 P :: o42 P :: o43 P :: o76 P :: o45 P :: o46 P :: o47 P :: o48 P :: o49 P :: o50 P :: o51 P :: o52 P :: o53 P :: o54 P :: o55 P :: o56 P :: o57 P :: o58 P :: o59 P :: o60 P :: o61 P :: o62 P :: o63 P :: o64 P :: o65 P :: o66 P :: o67 P :: o68 P :: o69 P :: o70 P :: o77 P :: o72 P :: o73 P :: o78 P :: o79 P :: o80 P :: o81 P :: o82 P :: o83 P :: o84 P :: o85 P :: o86 P :: o87 P :: o88 P :: o89 P :: o90 P :: o91 P :: o92 P :: o93 P :: o94 P :: o95 P :: o96 P :: o97 P :: o98 P :: o99 P :: o100 P :: o101 P :: o102 P :: o103 P :: o104 P :: o105 P :: o106 P :: o107 P :: o108 P :: o109 P :: o110 P :: o111 P :: o112 P :: o113 P :: o114 P :: o115 P :: o116 P :: o117 P :: o118 P :: o119 P :: o120 P :: o121 P :: o122 P :: o123 P :: o124 P :: o125 P :: o126 P :: o127 P :: [] } }
noncomputable def hp3 : Params → Heap := fun P => { objs := { toList := o41 P :: o42 P :: o128 P :: o129 P :: o45 P :: o46 P :: o47 P :: o48 P :: o49 P :: o50 P :: o51 P :: o52 P :: o53 P :: o54 P :: o55 P :: o56 P :: o57 P :: o58 P :: o59 P :: o60 P :: o61 P :: o62 P :: o63 P :: o64 P :: o65 P :: o66 P :: o67 P :: o68 P :: o69 P :: o70 P :: o130 P :: o72 P :: o73 P :: o78 P :: o79 P :: o80 P :: o81 P :: o82 P :: o83 P :: o84 P :: o85 P :: o86 P :: o87 P :: o88 P :: o89 P :: o90 P :: o91 P :: o92 P :: o93 P :: o94 P :: o95 P :: o96 P :: o97 P :: o98 P :: o99 P :: o100 P :: o101 P :: o102 P :: o103 P :: o104 P :: o105 P :: o106 P :: o107 P :: o108 P :: o109 P :: o110 P :: o111 P :: o112 P :: o113 P :: o114 P :: o115 P :: o116 P :: o117 P :: o118 P :: o119 P :: o120 P :: o121 P :: o122 P :: o123 P :: o124 P :: o125 P :: o126 P :: o127 P :: o131 P :: o132 P :: o133 P :: o134 P :: o135 P :: o136 P :: o137 P :: o138 P :: o139 P :: o140 P :: o141 P :: o142 P :: o143 P :: o144 P :: o145 P :: o146 P :: o147 P :: o148 P :: o149 P :: o150 P :: o151 P :: o152 P :: o153 P :: o154 P :: o155 P :: o156 P :: o157 P :: o158 P :: o159 P :: o160 P :: [] } }
noncomputable def hp4 : Params → Heap := fun P => { objs := { toList := o41 P :: o42 P :: o128 P :: o161 P :: o45 P :: o46 P :: o47 P :: o48 P :: o49 P :: o50 P :: o51 P :: o52 P :: o53 P :: o54 P :: o55 P :: o56 P :: o57 P :: o58 P :: o59 P :: o60 P :: o61 P :: o62 P :: o63 P :: o64 P :: o65 P :: o66 P :: o67 P :: o68 P :: o69 P :: o70 P :: o162 P :: o72 P :: o73 P :: o78 P :: o79 P :: o80 P :: o81 P :: o82 P :: o83 P :: o84 P :: o85 P :: o86 P :: o87 P :: o88 P :: o89 P :: o90 P :: o91 P :: o92 P :: o93 P :: o94 P :: o95 P :: o96 P :: o97 P :: o98 P :: o99 P :: o100 P :: o101 P :: o102 P :: o103 P :: o104 P :: o105 P :: o106 P :: o107 P :: o108 P :: o109 P :: o110 P :: o111 P :: o112 P :: o113 P :: o114 P :: o115 P :: o116 P :: o117 P :: o118 P :: o119 P :: o120 P :: o121 P :: o122 P :: o123 P :: o124 P :: o125 P :: o126 P :: o127 P :: o131 P :: o132 P :: o133 P :: o134 P :: o135 P :: o136 P :: o137 P :: o138 P :: o139 P :: o140 P :: o141 P :: o142 P :: o143 P :: o144 P :: o145 P :: o146 P :: o147 P :: o148 P :: o149 P :: o150 P :: o151 P :: o152 P :: o153 P :: o154 P :: o155 P :: o156 P :: o157 P :: o158 P :: o159 P :: o160 P :: o163 P :: o164 P :: o165 P :: o166 P :: o167 P :: o168 P :: o169 P :: o170 P :: o171 P :: o172 P :: o173 P :: o174 P :: o175 P :: o176 P :: o177 P :: o178 P :: o179 P :: o180 P :: o181 P :: o182 P :: o183 P :: o184 P :: o185 P :: o186 P :: o187 P :: o188 P :: o189 P :: o190 P :: o191 P :: o192 P :: o193 P :: o194 P :: o195 P :: o196 P :: o197 P :: o198 P :: o199 P :: o200 P :: o201 P :: o202 P :: o203 P :: o204 P :: o205 P :: o206 P :: o207 P :: o208 P :: o209 P :: o210 P :: o211 P :: o212 P :: o213 P :: o214 P :: o215 P :: o216 P :: o217 P :: o218 P :: o219 P :: o220 P :: o221 P :: o222 P :: o223 P :: o224 P :: o225 P :: o226 P :: o227 P :: o228 P :: o229 P :: o230 P :: o231 P :: o232 P :: o233 P :: [] } }
noncomputable def hp5 : Params → Heap := fun P => { objs := { toList := o41 P :: o42 P :: o128 P :: o287 P :: o45 P :: o46 P :: o47 P :: o48 P :: o49 P :: o50 P :: o51 P :: o52 P :: o53 P :: o54 P :: o55 P :: o56 P :: o57 P :: o58 P :: o59 P :: o60 P :: o61 P :: o62 P :: o63 P :: o64 P :: o65 P :: o66 P :: o67 P :: o68 P :: o69 P :: o70 P :: o288 P :: o72 P :: o73 P :: o78 P :: o79 P :: o80 P :: o81 P :: o82 P :: o83 P :: o84 P :: o85 P :: o86 P :: o87 P :: o88 P :: o89 P :: o90 P :: o91 P :: o92 P :: o93 P :: o94 P :: o95 P :: o96 P :: o97 P :: o98 P :: o99 P :: o100 P :: o101 P :: o102 P :: o103 P :: o104 P :: o105 P :: o106 P :: o107 P :: o108 P :: o109 P :: o110 P :: o111 P :: o112 P :: o113 P :: o114 P :: o115 P :: o116 P :: o117 P :: o118 P :: o119 P :: o120 P :: o121 P :: o122 P :: o123 P :: o124 P :: o125 P :: o126 P :: o127 P :: o131 P :: o132 P :: o133 P :: o134 P :: o135 P :: o136 P :: o137 P :: o138 P :: o139 P :: o140 P :: o141 P :: o142 P :: o143 P :: o144 P :: o145 P :: o146 P :: o147 P :: o148 P :: o149 P :: o150 P :: o151 P :: o152 P :: o153 P :: o154 P :: o155 P :: o156 P :: o157 P :: o158 P :: o159 P :: o160 P :: o163 P :: o164 P :: o165 P :: o166 P :: o167 P :: o168 P :: o169 P :: o170 P :: o171 P :: o172 P :: o173 P :: o174 P :: o175 P :: o176 P :: o177 P :: o178 P :: o179 P :: o180 P :: o181 P :: o182 P :: o183 P :: o184 P :: o185 P :: o186 P :: o187 P :: o188 P :: o189 P :: o190 P :: o191 P :: o192 P :: o193 P :: o194 P :: o195 P :: o196 P :: o197 P :: o198 P :: o199 P :: o200 P :: o201 P :: o202 P :: o203 P :: o204 P :: o205 P :: o206 P :: o207 P :: o208 P :: o209 P :: o210 P :: o211 P :: o212 P :: o213 P :: o214 P :: o215 P :: o216 P :: o217 P :: o218 P :: o219 P :: o220 P :: o221 P :: o222 P :: o223 P :: o224 P :: o225 P :: o226 P :: o227 P :: o228 P :: o229 P :: o289 P :: o231 P :: o232 P :: o233 P :: o290 P :: o291 P :: o292 P :: o293 P :: o294 P :: o295 P :: o296 P :: o297 P :: o298 P :: o299 P :: o300 P :: o301 P :: o302 P :: o303 P :: o304 P :: o305 P :: o306 P :: o307 P :: o308 P :: o309 P :: o310 P :: o311 P :: o312 P :: [] } }
noncomputable def hp6 : Params → Heap := fun P => { objs := { toList := o41 P :: o42 P :: o128 P :: o313 P :: o45 P :: o46 P :: o47 P :: o48 P :: o49 P :: o50 P :: o51 P :: o52 P :: o53 P :: o54 P :: o55 P :: o56 P :: o57 P :: o58 P :: o59 P :: o60 P :: o61 P :: o62 P :: o63 P :: o64 P :: o65 P :: o66 P :: o67 P :: o68 P :: o69 P :: o70 P :: o314 P :: o72 P :: o73 P :: o78 P :: o79 P :: o80 P :: o81 P :: o82 P :: o83 P :: o84 P :: o85 P :: o86 P :: o87 P :: o88 P :: o89 P :: o90 P :: o91 P :: o92 P :: o93 P :: o94 P :: o95 P :: o96 P :: o97 P :: o98 P :: o99 P :: o100 P :: o101 P :: o102 P :: o103 P :: o104 P :: o105 P :: o106 P :: o107 P :: o108 P :: o109 P :: o110 P :: o111 P :: o112 P :: o113 P :: o114 P :: o115 P :: o116 P :: o117 P :: o118 P :: o119 P :: o120 P :: o121 P :: o122 P :: o123 P :: o124 P :: o125 P :: o126 P :: o127 P :: o131 P :: o132 P :: o133 P :: o134 P :: o135 P :: o136 P :: o137 P :: o138 P :: o139 P :: o140 P :: o141 P :: o142 P :: o143 P :: o144 P :: o145 P :: o146 P :: o147 P :: o148 P :: o149 P :: o150 P :: o151 P :: o152 P :: o153 P :: o154 P :: o155 P :: o156 P :: o157 P :: o158 P :: o159 P :: o160 P :: o163 P :: o164 P :: o165 P :: o166 P :: o167 P :: o168 P :: o169 P :: o170 P :: o171 P :: o172 P :: o173 P :: o174 P :: o175 P :: o176 P :: o177 P :: o178 P :: o179 P :: o180 P :: o181 P :: o182 P :: o183 P :: o184 P :: o185 P :: o186 P :: o187 P :: o188 P :: o189 P :: o190 P :: o191 P :: o192 P :: o193 P :: o194 P :: o195 P :: o196 P :: o197 P :: o198 P :: o199 P :: o200 P :: o201 P :: o202 P :: o203 P :: o204 P :: o205 P :: o206 P :: o207 P :: o208 P :: o209 P :: o210 P :: o211 P :: o212 P :: o213 P :: o214 P :: o215 P :: o216 P :: o217 P :: o218 P :: o219 P :: o220 P :: o221 P :: o222 P :: o223 P :: o224 P :: o225 P :: o226 P :: o227 P :: o228 P :: o229 P :: o289 P :: o231 P :: o232 P :: o233 P :: o290 P :: o291 P :: o292 P :: o293 P :: o294 P :: o295 P :: o296 P :: o297 P :: o298 P :: o299 P :: o300 P :: o301 P :: o302 P :: o303 P :: o304 P :: o305 P :: o306 P :: o307 P :: o308 P :: o309 P :: o310 P :: o311 P :: o312 P :: o315 P :: o316 P :: o317 P :: o318 P :: o319 P :: o320 P :: o321 P :: o322 P :: o323 P :: o324 P :: o325 P :: o326 P :: o327 P :: o328 P :: o329 P :: o330 P :: o331 P :: o332 P :: o333 P :: o334 P :: o335 P :: o336 P :: o337 P :: o338 P :: o339 P :: o340 P :: o341 P :: o342 P :: o343 P :: o344 P :: o345 P :: o346 P :: o347 P :: o348 P :: o349 P :: o350 P :: o351 P :: o352 P :: o353 P :: o354 P :: o355 P :: o356 P :: o357 P :: o358 P :: o359 P :: o360 P :: o361 P :: [] } }
noncomputable def hp7 : Params → Heap := fun P => { objs := { toList := o41 P :: o42 P :: o128 P :: o362 P :: o45 P :: o46 P :: o47 P :: o48 P :: o49 P :: o50 P :: o51 P :: o52 P :: o53 P :: o54 P :: o55 P :: o56 P :: o57 P :: o58 P :: o59 P :: o60 P :: o61 P :: o62 P :: o63 P :: o64 P :: o65 P :: o66 P :: o67 P :: o68 P :: o69 P :: o70 P :: o363 P :: o72 P :: o73 P :: o78 P :: o79 P :: o80 P :: o81 P :: o82 P :: o83 P :: o84 P :: o85 P :: o86 P :: o87 P :: o88 P :: o89 P :: o90 P :: o91 P :: o92 P :: o93 P :: o94 P :: o95 P :: o96 P :: o97 P :: o98 P :: o99 P :: o100 P :: o101 P :: o102 P :: o103 P :: o104 P :: o105 P :: o106 P :: o107 P :: o108 P :: o109 P :: o110 P :: o111 P :: o112 P :: o113 P :: o114 P :: o115 P :: o116 P :: o117 P :: o118 P :: o119 P :: o120 P :: o121 P :: o122 P :: o123 P :: o124 P :: o125 P :: o126 P :: o127 P :: o131 P :: o132 P :: o133 P :: o134 P :: o135 P :: o136 P :: o137 P :: o138 P :: o139 P :: o140 P :: o141 P :: o142 P :: o143 P :: o144 P :: o145 P :: o146 P :: o147 P :: o148 P :: o149 P :: o150 P :: o151 P :: o152 P :: o153 P :: o154 P :: o155 P :: o156 P :: o157 P :: o158 P :: o159 P :: o160 P :: o163 P :: o164 P :: o165 P :: o166 P :: o167 P :: o168 P :: o169 P :: o170 P :: o171 P :: o172 P :: o173 P :: o174 P :: o175 P :: o176 P :: o177 P :: o178 P :: o179 P :: o180 P :: o181 P :: o182 P :: o183 P :: o184 P :: o185 P :: o186 P :: o187 P :: o188 P :: o189 P :: o190 P :: o191 P :: o192 P :: o193 P :: o194 P :: o195 P :: o196 P :: o197 P :: o198 P :: o199 P :: o200 P :: o201 P :: o202 P :: o203 P :: o204 P :: o205 P :: o206 P :: o207 P :: o208 P :: o209 P :: o210 P :: o211 P :: o212 P :: o213 P :: o214 P :: o215 P :: o216 P :: o217 P :: o218 P :: o219 P :: o220 P :: o221 P :: o222 P :: o223 P :: o224 P :: o225 P :: o226 P :: o227 P :: o228 P :: o229 P :: o289 P :: o231 P :: o232 P :: o233 P :: o290 P :: o291 P :: o292 P :: o293 P :: o294 P :: o295 P :: o296 P :: o297 P :: o298 P :: o299 P :: o300 P :: o301 P :: o302 P :: o303 P :: o304 P :: o305 P :: o306 P :: o307 P :: o308 P :: o309 P :: o310 P :: o311 P :: o312 P :: o315 P :: o316 P :: o317 P :: o318 P :: o319 P :: o320 P :: o321 P :: o322 P :: o323 P :: o324 P :: o325 P :: o326 P :: o327 P :: o328 P :: o329 P :: o330 P :: o331 P :: o332 P :: o333 P :: o334 P :: o335 P :: o336 P :: o337 P :: o338 P :: o339 P :: o340 P :: o341 P :: o342 P :: o343 P :: o344 P :: o345 P :: o346 P :: o347 P :: o348 P :: o349 P :: o350 P :: o351 P :: o352 P :: o353 P :: o354 P :: o355 P :: o356 P :: o357 P :: o358 P :: o359 P :: o360 P :: o361 P :: o364 P :: o365 P :: o366 P :: o367 P :: o368 P :: o369 P :: o370 P :: o371 P :: o372 P :: o373 P :: o374 P :: o375 P :: o376 P :: o377 P :: o378 P :: o379 P :: o380 P :: o381 P :: o382 P :: o383 P :: o384 P :: o385 P :: o386 P :: o387 P :: o388 P :: o389 P :: o390 P :: o391 P :: o392 P :: o393 P :: o394 P :: o395 P :: o396 P :: o397 P :: o398 P :: o399 P :: o400 P :: o401 P :: o402 P :: o403 P :: o404 P :: o405 P :: o406 P :: o407 P :: o408 P :: o409 P :: o410 P :: o411 P :: o412 P :: o413 P :: [] } }
theorem hk : ∀ P, (nat_lit 2 :: nat_lit 3 :: nat_lit 33 :: nat_lit 35 :: nat_lit 36 :: nat_lit 38 :: nat_lit 39 :: nat_lit 47 :: nat_lit 49 :: nat_lit 50 :: nat_lit 52 :: nat_lit 53 :: nat_lit 54 :: nat_lit 55 :: nat_lit 57 :: nat_lit 58 :: nat_lit 60 :: nat_lit 61 :: nat_lit 62 :: nat_lit 64 :: nat_lit 65 :: nat_lit 67 :: nat_lit 68 :: nat_lit 69 :: nat_lit 71 :: nat_lit 72 :: nat_lit 74 :: nat_lit 75 :: nat_lit 76 :: nat_lit 77 :: nat_lit 78 :: nat_lit 79 :: nat_lit 80 :: nat_lit 83 :: nat_lit 86 :: nat_lit 91 :: nat_lit 92 :: nat_lit 94 :: nat_lit 95 :: nat_lit 97 :: nat_lit 98 :: nat_lit 99 :: nat_lit 101 :: nat_lit 102 :: nat_lit 104 :: nat_lit 105 :: nat_lit 106 :: nat_lit 107 :: nat_lit 108 :: nat_lit 109 :: nat_lit 110 :: nat_lit 113 :: nat_lit 116 :: nat_lit 121 :: nat_lit 122 :: nat_lit 123 :: nat_lit 124 :: nat_lit 126 :: nat_lit 127 :: nat_lit 129 :: nat_lit 130 :: nat_lit 131 :: nat_lit 133 :: nat_lit 134 :: nat_lit 136 :: nat_lit 137 :: nat_lit 138 :: nat_lit 139 :: nat_lit 140 :: nat_lit 141 :: nat_lit 142 :: nat_lit 144 :: nat_lit 145 :: nat_lit 147 :: nat_lit 148 :: nat_lit 149 :: nat_lit 151 :: nat_lit 152 :: nat_lit 154 :: nat_lit 155 :: nat_lit 156 :: nat_lit 158 :: nat_lit 159 :: nat_lit 161 :: nat_lit 162 :: nat_lit 163 :: nat_lit 165 :: nat_lit 166 :: nat_lit 168 :: nat_lit 169 :: nat_lit 170 :: nat_lit 171 :: nat_lit 172 :: nat_lit 174 :: nat_lit 175 :: nat_lit 177 :: nat_lit 179 :: nat_lit 180 :: nat_lit 181 :: nat_lit 184 :: nat_lit 191 :: nat_lit 193 :: nat_lit 194 :: nat_lit 196 :: nat_lit 197 :: nat_lit 198 :: nat_lit 199 :: nat_lit 200 :: nat_lit 201 :: nat_lit 202 :: nat_lit 203 :: nat_lit 204 :: nat_lit 207 :: nat_lit 209 :: nat_lit 210 :: nat_lit 212 :: nat_lit 213 :: nat_lit 214 :: nat_lit 216 :: nat_lit 217 :: nat_lit 219 :: nat_lit 220 :: nat_lit 221 :: nat_lit 222 :: nat_lit 223 :: nat_lit 224 :: nat_lit 225 :: nat_lit 226 :: nat_lit 227 :: nat_lit 228 :: nat_lit 229 :: nat_lit 230 :: nat_lit 231 :: nat_lit 232 :: nat_lit 233 :: nat_lit 234 :: nat_lit 235 :: nat_lit 236 :: nat_lit 237 :: nat_lit 238 :: nat_lit 239 :: nat_lit 240 :: nat_lit 241 :: nat_lit 242 :: nat_lit 243 :: nat_lit 244 :: nat_lit 245 :: nat_lit 246 :: nat_lit 247 :: nat_lit 248 :: nat_lit 249 :: nat_lit 250 :: nat_lit 251 :: nat_lit 252 :: nat_lit 253 :: nat_lit 254 :: nat_lit 256 :: nat_lit 257 :: nat_lit 259 :: nat_lit 260 :: nat_lit 261 :: nat_lit 263 :: nat_lit 264 :: nat_lit 266 :: nat_lit 267 :: nat_lit 268 :: nat_lit 270 :: nat_lit 271 :: nat_lit 273 :: nat_lit 274 :: nat_lit 275 :: nat_lit 278 :: nat_lit 279 :: nat_lit 280 :: nat_lit 282 :: nat_lit 283 :: nat_lit 285 :: nat_lit 286 :: nat_lit 287 :: nat_lit 289 :: nat_lit 290 :: nat_lit 292 :: nat_lit 293 :: nat_lit 294 :: nat_lit 297 :: nat_lit 298 :: nat_lit 299 :: nat_lit 302 :: nat_lit 303 :: []) = (hd.heap_39 P).map (·.1) := fun _ => by kernel_rfl
abbrev pg : Program := PySem.Challenge.rw_in0191_01.row.prog
abbrev zp : Pos := { line := 0, col := 0, endLine := 0, endCol := 0 }
noncomputable def envT : Env := { scope := pg.main.scope, locals := mainNs, globals := mainNs, cells := [], code := .ref 31, frame := some 32 }
noncomputable abbrev cE : Code := .body (behindTheImports pg) envT
def sg (a k : Nat) : List Stmt := ((behindTheImports pg).drop a).take k
theorem sg_all : sg 0 3 ++ (sg 3 1 ++ (sg 4 1 ++ (sg 5 2 ++ (sg 7 22 ++ (sg 29 9 ++ []))))) = behindTheImports pg := by kernel_rfl
theorem t_open (w : World) : (fencedOpening treeTable pg w 5290).map (fun s => (s.heap, s.gens, s.drawn, s.toks)) = some (hp0 w.params, #[], {}, 273) := by kernel_rfl
theorem t_size (w : World) : ((hp0 w.params).isNs mainGlobals && (#[] : Array GenState).size == 0, (hp0 w.params).objs.size, (hp0 w.params).nsMap mainGlobals "__annotations__") = (true, 29, some (.ref 6)) := by kernel_rfl
theorem t_pre (w : World) (os : OsState) : topGo treeTable pg w 29 (some (.ref 6)) 12 ⟨hp0 w.params, #[], {}, 273, os⟩ (topStub pg) = some (⟨hp1 w.params, #[], {}, 279, os⟩, ⟨denote treeTable cE, cE, zp, [topFrame zp]⟩) := by kernel_rfl
theorem t_blk (w : World) (os : OsState) : segRun treeTable pg w 29 (some (.ref 6)) 1 1 ⟨hp1 w.params, #[], {}, 279, os⟩ (blockOf (behindTheImports pg) envT cE zp [topFrame zp]) = some (.next, ⟨hp1 w.params, #[], {}, 279, os⟩, cE, zp) := by kernel_rfl
theorem t_g0 (w : World) (os : OsState) : segRun treeTable pg w 29 (some (.ref 6)) 1 362 ⟨hp1 w.params, #[], {}, 279, os⟩ (piecesOf (sg 0 3) envT cE zp [topFrame zp]) = some (.next, ⟨hp2 w.params, #[], {}, 345, os⟩, cE, { line := 6, col := 0, endLine := 23, endCol := 54 }) := by kernel_rfl
theorem t_g1 (w : World) (os : OsState) : segRun treeTable pg w 29 (some (.ref 6)) 1 288 ⟨hp2 w.params, #[], {}, 345, os⟩ (piecesOf (sg 3 1) envT cE { line := 6, col := 0, endLine := 23, endCol := 54 } [topFrame zp]) = some (.next, ⟨hp3 w.params, #[], {}, 388, os⟩, cE, { line := 24, col := 0, endLine := 43, endCol := 57 }) := by kernel_rfl
theorem t_g2 (w : World) (os : OsState) : segRun treeTable pg w 29 (some (.ref 6)) 1 900 ⟨hp3 w.params, #[], {}, 388, os⟩ (piecesOf (sg 4 1) envT cE { line := 24, col := 0, endLine := 43, endCol := 57 } [topFrame zp]) = some (.next, ⟨hp4 w.params, #[], {}, 503, os⟩, cE, { line := 44, col := 0, endLine := 85, endCol := 55 }) := by kernel_rfl
theorem t_g3 (w : World) (os : OsState) : segRun treeTable pg w 29 (some (.ref 6)) 1 395 ⟨hp4 w.params, #[], {}, 503, os⟩ (piecesOf (sg 5 2) envT cE { line := 44, col := 0, endLine := 85, endCol := 55 } [topFrame zp]) = some (.next, ⟨hp5 w.params, #[], {}, 543, os⟩, cE, { line := 91, col := 0, endLine := 91, endCol := 8 }) := by kernel_rfl
theorem t_g4 (w : World) (os : OsState) : segRun treeTable pg w 29 (some (.ref 6)) 1 393 ⟨hp5 w.params, #[], {}, 543, os⟩ (piecesOf (sg 7 22) envT cE { line := 91, col := 0, endLine := 91, endCol := 8 } [topFrame zp]) = some (.next, ⟨hp6 w.params, #[], {}, 623, os⟩, cE, { line := 121, col := 0, endLine := 121, endCol := 15 }) := by kernel_rfl
theorem t_g5 (w : World) (os : OsState) : segRun treeTable pg w 29 (some (.ref 6)) 1 250 ⟨hp6 w.params, #[], {}, 623, os⟩ (piecesOf (sg 29 9) envT cE { line := 121, col := 0, endLine := 121, endCol := 15 } [topFrame zp]) = some (.next, ⟨hp7 w.params, #[], {}, 695, os⟩, cE, { line := 198, col := 0, endLine := 200, endCol := 41 }) := by kernel_rfl
theorem t_fin (w : World) (os : OsState) : topRun treeTable pg w 29 (some (.ref 6)) 2 ⟨hp7 w.params, #[], {}, 695, os⟩ ⟨doneF .next, cE, { line := 198, col := 0, endLine := 200, endCol := 41 }, [topFrame zp]⟩ = some ⟨hp7 w.params, #[], {}, 695, os⟩ := by kernel_rfl
theorem t_run (w : World) (os : OsState) : topRun treeTable pg w 29 (some (.ref 6)) (12 + (1 + (362 + (288 + (900 + (395 + (393 + (250 + 2)))))))) ⟨hp0 w.params, #[], {}, 273, os⟩ (topStub pg) = some ⟨hp7 w.params, #[], {}, 695, os⟩ := by
  have k := piece_app (t_g0 w os) (piece_app (t_g1 w os) (piece_app (t_g2 w os) (piece_app (t_g3 w os) (piece_app (t_g4 w os) (piece_app (t_g5 w os) (piece_nil (t_fin w os)))))))
  rw [sg_all] at k
  exact go_top (t_pre w os) (piece_block (t_blk w os) k)
theorem t_looks (w : World) : (fun os => ((staticsOk (importedModules pg.main.body) (hp0 w.params) (hp7 w.params) && namesBound pg (hp7 w.params) && gensDone ⟨hp7 w.params, #[], {}, 695, os⟩ && laidKept (hp0 w.params) (hp7 w.params)),
    openSeen hd.view_39 [Str.ofString "_tuplegetter", Str.ofString "Pair", Str.ofString "_filemode_table"] (importedModules pg.main.body) (fun s => xlAt hd.view_39 [(Str.ofString "_filemode_table", WData.tuple [WData.tuple [WData.tuple [WData.int 40960, WData.str { cps := #[108] }], WData.tuple [WData.int 49152, WData.str { cps := #[115] }], WData.tuple [WData.int 32768, WData.str { cps := #[45] }], WData.tuple [WData.int 24576, WData.str { cps := #[98] }], WData.tuple [WData.int 16384, WData.str { cps := #[100] }], WData.tuple [WData.int 8192, WData.str { cps := #[99] }], WData.tuple [WData.int 4096, WData.str { cps := #[112] }]], WData.tuple [WData.tuple [WData.int 256, WData.str { cps := #[114] }]], WData.tuple [WData.tuple [WData.int 128, WData.str { cps := #[119] }]], WData.tuple [WData.tuple [WData.int 2112, WData.str { cps := #[115] }], WData.tuple [WData.int 2048, WData.str { cps := #[83] }], WData.tuple [WData.int 64, WData.str { cps := #[120] }]], WData.tuple [WData.tuple [WData.int 32, WData.str { cps := #[114] }]], WData.tuple [WData.tuple [WData.int 16, WData.str { cps := #[119] }]], WData.tuple [WData.tuple [WData.int 1032, WData.str { cps := #[115] }], WData.tuple [WData.int 1024, WData.str { cps := #[83] }], WData.tuple [WData.int 8, WData.str { cps := #[120] }]], WData.tuple [WData.tuple [WData.int 4, WData.str { cps := #[114] }]], WData.tuple [WData.tuple [WData.int 2, WData.str { cps := #[119] }]], WData.tuple [WData.tuple [WData.int 513, WData.str { cps := #[116] }], WData.tuple [WData.int 512, WData.str { cps := #[84] }], WData.tuple [WData.int 1, WData.str { cps := #[120] }]]])] s && recOk PySem.Challenge.rw_in0191_01.row.records s) true ⟨hp7 w.params, #[], {}, 695, os⟩, (kmHook hd.heap_39 (nat_lit 2 :: nat_lit 3 :: nat_lit 33 :: nat_lit 35 :: nat_lit 36 :: nat_lit 38 :: nat_lit 39 :: nat_lit 47 :: nat_lit 49 :: nat_lit 50 :: nat_lit 52 :: nat_lit 53 :: nat_lit 54 :: nat_lit 55 :: nat_lit 57 :: nat_lit 58 :: nat_lit 60 :: nat_lit 61 :: nat_lit 62 :: nat_lit 64 :: nat_lit 65 :: nat_lit 67 :: nat_lit 68 :: nat_lit 69 :: nat_lit 71 :: nat_lit 72 :: nat_lit 74 :: nat_lit 75 :: nat_lit 76 :: nat_lit 77 :: nat_lit 78 :: nat_lit 79 :: nat_lit 80 :: nat_lit 83 :: nat_lit 86 :: nat_lit 91 :: nat_lit 92 :: nat_lit 94 :: nat_lit 95 :: nat_lit 97 :: nat_lit 98 :: nat_lit 99 :: nat_lit 101 :: nat_lit 102 :: nat_lit 104 :: nat_lit 105 :: nat_lit 106 :: nat_lit 107 :: nat_lit 108 :: nat_lit 109 :: nat_lit 110 :: nat_lit 113 :: nat_lit 116 :: nat_lit 121 :: nat_lit 122 :: nat_lit 123 :: nat_lit 124 :: nat_lit 126 :: nat_lit 127 :: nat_lit 129 :: nat_lit 130 :: nat_lit 131 :: nat_lit 133 :: nat_lit 134 :: nat_lit 136 :: nat_lit 137 :: nat_lit 138 :: nat_lit 139 :: nat_lit 140 :: nat_lit 141 :: nat_lit 142 :: nat_lit 144 :: nat_lit 145 :: nat_lit 147 :: nat_lit 148 :: nat_lit 149 :: nat_lit 151 :: nat_lit 152 :: nat_lit 154 :: nat_lit 155 :: nat_lit 156 :: nat_lit 158 :: nat_lit 159 :: nat_lit 161 :: nat_lit 162 :: nat_lit 163 :: nat_lit 165 :: nat_lit 166 :: nat_lit 168 :: nat_lit 169 :: nat_lit 170 :: nat_lit 171 :: nat_lit 172 :: nat_lit 174 :: nat_lit 175 :: nat_lit 177 :: nat_lit 179 :: nat_lit 180 :: nat_lit 181 :: nat_lit 184 :: nat_lit 191 :: nat_lit 193 :: nat_lit 194 :: nat_lit 196 :: nat_lit 197 :: nat_lit 198 :: nat_lit 199 :: nat_lit 200 :: nat_lit 201 :: nat_lit 202 :: nat_lit 203 :: nat_lit 204 :: nat_lit 207 :: nat_lit 209 :: nat_lit 210 :: nat_lit 212 :: nat_lit 213 :: nat_lit 214 :: nat_lit 216 :: nat_lit 217 :: nat_lit 219 :: nat_lit 220 :: nat_lit 221 :: nat_lit 222 :: nat_lit 223 :: nat_lit 224 :: nat_lit 225 :: nat_lit 226 :: nat_lit 227 :: nat_lit 228 :: nat_lit 229 :: nat_lit 230 :: nat_lit 231 :: nat_lit 232 :: nat_lit 233 :: nat_lit 234 :: nat_lit 235 :: nat_lit 236 :: nat_lit 237 :: nat_lit 238 :: nat_lit 239 :: nat_lit 240 :: nat_lit 241 :: nat_lit 242 :: nat_lit 243 :: nat_lit 244 :: nat_lit 245 :: nat_lit 246 :: nat_lit 247 :: nat_lit 248 :: nat_lit 249 :: nat_lit 250 :: nat_lit 251 :: nat_lit 252 :: nat_lit 253 :: nat_lit 254 :: nat_lit 256 :: nat_lit 257 :: nat_lit 259 :: nat_lit 260 :: nat_lit 261 :: nat_lit 263 :: nat_lit 264 :: nat_lit 266 :: nat_lit 267 :: nat_lit 268 :: nat_lit 270 :: nat_lit 271 :: nat_lit 273 :: nat_lit 274 :: nat_lit 275 :: nat_lit 278 :: nat_lit 279 :: nat_lit 280 :: nat_lit 282 :: nat_lit 283 :: nat_lit 285 :: nat_lit 286 :: nat_lit 287 :: nat_lit 289 :: nat_lit 290 :: nat_lit 292 :: nat_lit 293 :: nat_lit 294 :: nat_lit 297 :: nat_lit 298 :: nat_lit 299 :: nat_lit 302 :: nat_lit 303 :: []) hk [100]).obs ⟨hp7 w.params, #[], {}, 695, os⟩)) = fun _ => (true, openGood hd.view_39 [Str.ofString "_tuplegetter", Str.ofString "Pair", Str.ofString "_filemode_table"], (kmHook hd.heap_39 (nat_lit 2 :: nat_lit 3 :: nat_lit 33 :: nat_lit 35 :: nat_lit 36 :: nat_lit 38 :: nat_lit 39 :: nat_lit 47 :: nat_lit 49 :: nat_lit 50 :: nat_lit 52 :: nat_lit 53 :: nat_lit 54 :: nat_lit 55 :: nat_lit 57 :: nat_lit 58 :: nat_lit 60 :: nat_lit 61 :: nat_lit 62 :: nat_lit 64 :: nat_lit 65 :: nat_lit 67 :: nat_lit 68 :: nat_lit 69 :: nat_lit 71 :: nat_lit 72 :: nat_lit 74 :: nat_lit 75 :: nat_lit 76 :: nat_lit 77 :: nat_lit 78 :: nat_lit 79 :: nat_lit 80 :: nat_lit 83 :: nat_lit 86 :: nat_lit 91 :: nat_lit 92 :: nat_lit 94 :: nat_lit 95 :: nat_lit 97 :: nat_lit 98 :: nat_lit 99 :: nat_lit 101 :: nat_lit 102 :: nat_lit 104 :: nat_lit 105 :: nat_lit 106 :: nat_lit 107 :: nat_lit 108 :: nat_lit 109 :: nat_lit 110 :: nat_lit 113 :: nat_lit 116 :: nat_lit 121 :: nat_lit 122 :: nat_lit 123 :: nat_lit 124 :: nat_lit 126 :: nat_lit 127 :: nat_lit 129 :: nat_lit 130 :: nat_lit 131 :: nat_lit 133 :: nat_lit 134 :: nat_lit 136 :: nat_lit 137 :: nat_lit 138 :: nat_lit 139 :: nat_lit 140 :: nat_lit 141 :: nat_lit 142 :: nat_lit 144 :: nat_lit 145 :: nat_lit 147 :: nat_lit 148 :: nat_lit 149 :: nat_lit 151 :: nat_lit 152 :: nat_lit 154 :: nat_lit 155 :: nat_lit 156 :: nat_lit 158 :: nat_lit 159 :: nat_lit 161 :: nat_lit 162 :: nat_lit 163 :: nat_lit 165 :: nat_lit 166 :: nat_lit 168 :: nat_lit 169 :: nat_lit 170 :: nat_lit 171 :: nat_lit 172 :: nat_lit 174 :: nat_lit 175 :: nat_lit 177 :: nat_lit 179 :: nat_lit 180 :: nat_lit 181 :: nat_lit 184 :: nat_lit 191 :: nat_lit 193 :: nat_lit 194 :: nat_lit 196 :: nat_lit 197 :: nat_lit 198 :: nat_lit 199 :: nat_lit 200 :: nat_lit 201 :: nat_lit 202 :: nat_lit 203 :: nat_lit 204 :: nat_lit 207 :: nat_lit 209 :: nat_lit 210 :: nat_lit 212 :: nat_lit 213 :: nat_lit 214 :: nat_lit 216 :: nat_lit 217 :: nat_lit 219 :: nat_lit 220 :: nat_lit 221 :: nat_lit 222 :: nat_lit 223 :: nat_lit 224 :: nat_lit 225 :: nat_lit 226 :: nat_lit 227 :: nat_lit 228 :: nat_lit 229 :: nat_lit 230 :: nat_lit 231 :: nat_lit 232 :: nat_lit 233 :: nat_lit 234 :: nat_lit 235 :: nat_lit 236 :: nat_lit 237 :: nat_lit 238 :: nat_lit 239 :: nat_lit 240 :: nat_lit 241 :: nat_lit 242 :: nat_lit 243 :: nat_lit 244 :: nat_lit 245 :: nat_lit 246 :: nat_lit 247 :: nat_lit 248 :: nat_lit 249 :: nat_lit 250 :: nat_lit 251 :: nat_lit 252 :: nat_lit 253 :: nat_lit 254 :: nat_lit 256 :: nat_lit 257 :: nat_lit 259 :: nat_lit 260 :: nat_lit 261 :: nat_lit 263 :: nat_lit 264 :: nat_lit 266 :: nat_lit 267 :: nat_lit 268 :: nat_lit 270 :: nat_lit 271 :: nat_lit 273 :: nat_lit 274 :: nat_lit 275 :: nat_lit 278 :: nat_lit 279 :: nat_lit 280 :: nat_lit 282 :: nat_lit 283 :: nat_lit 285 :: nat_lit 286 :: nat_lit 287 :: nat_lit 289 :: nat_lit 290 :: nat_lit 292 :: nat_lit 293 :: nat_lit 294 :: nat_lit 297 :: nat_lit 298 :: nat_lit 299 :: nat_lit 302 :: nat_lit 303 :: []) hk [100]).val w) := by kernel_rfl
theorem t_left : LeftO pg hd.view_39 [Str.ofString "_tuplegetter", Str.ofString "Pair", Str.ofString "_filemode_table"] (fun s => xlAt hd.view_39 [(Str.ofString "_filemode_table", WData.tuple [WData.tuple [WData.tuple [WData.int 40960, WData.str { cps := #[108] }], WData.tuple [WData.int 49152, WData.str { cps := #[115] }], WData.tuple [WData.int 32768, WData.str { cps := #[45] }], WData.tuple [WData.int 24576, WData.str { cps := #[98] }], WData.tuple [WData.int 16384, WData.str { cps := #[100] }], WData.tuple [WData.int 8192, WData.str { cps := #[99] }], WData.tuple [WData.int 4096, WData.str { cps := #[112] }]], WData.tuple [WData.tuple [WData.int 256, WData.str { cps := #[114] }]], WData.tuple [WData.tuple [WData.int 128, WData.str { cps := #[119] }]], WData.tuple [WData.tuple [WData.int 2112, WData.str { cps := #[115] }], WData.tuple [WData.int 2048, WData.str { cps := #[83] }], WData.tuple [WData.int 64, WData.str { cps := #[120] }]], WData.tuple [WData.tuple [WData.int 32, WData.str { cps := #[114] }]], WData.tuple [WData.tuple [WData.int 16, WData.str { cps := #[119] }]], WData.tuple [WData.tuple [WData.int 1032, WData.str { cps := #[115] }], WData.tuple [WData.int 1024, WData.str { cps := #[83] }], WData.tuple [WData.int 8, WData.str { cps := #[120] }]], WData.tuple [WData.tuple [WData.int 4, WData.str { cps := #[114] }]], WData.tuple [WData.tuple [WData.int 2, WData.str { cps := #[119] }]], WData.tuple [WData.tuple [WData.int 513, WData.str { cps := #[116] }], WData.tuple [WData.int 512, WData.str { cps := #[84] }], WData.tuple [WData.int 1, WData.str { cps := #[120] }]]])] s && recOk PySem.Challenge.rw_in0191_01.row.records s) (kmHook hd.heap_39 (nat_lit 2 :: nat_lit 3 :: nat_lit 33 :: nat_lit 35 :: nat_lit 36 :: nat_lit 38 :: nat_lit 39 :: nat_lit 47 :: nat_lit 49 :: nat_lit 50 :: nat_lit 52 :: nat_lit 53 :: nat_lit 54 :: nat_lit 55 :: nat_lit 57 :: nat_lit 58 :: nat_lit 60 :: nat_lit 61 :: nat_lit 62 :: nat_lit 64 :: nat_lit 65 :: nat_lit 67 :: nat_lit 68 :: nat_lit 69 :: nat_lit 71 :: nat_lit 72 :: nat_lit 74 :: nat_lit 75 :: nat_lit 76 :: nat_lit 77 :: nat_lit 78 :: nat_lit 79 :: nat_lit 80 :: nat_lit 83 :: nat_lit 86 :: nat_lit 91 :: nat_lit 92 :: nat_lit 94 :: nat_lit 95 :: nat_lit 97 :: nat_lit 98 :: nat_lit 99 :: nat_lit 101 :: nat_lit 102 :: nat_lit 104 :: nat_lit 105 :: nat_lit 106 :: nat_lit 107 :: nat_lit 108 :: nat_lit 109 :: nat_lit 110 :: nat_lit 113 :: nat_lit 116 :: nat_lit 121 :: nat_lit 122 :: nat_lit 123 :: nat_lit 124 :: nat_lit 126 :: nat_lit 127 :: nat_lit 129 :: nat_lit 130 :: nat_lit 131 :: nat_lit 133 :: nat_lit 134 :: nat_lit 136 :: nat_lit 137 :: nat_lit 138 :: nat_lit 139 :: nat_lit 140 :: nat_lit 141 :: nat_lit 142 :: nat_lit 144 :: nat_lit 145 :: nat_lit 147 :: nat_lit 148 :: nat_lit 149 :: nat_lit 151 :: nat_lit 152 :: nat_lit 154 :: nat_lit 155 :: nat_lit 156 :: nat_lit 158 :: nat_lit 159 :: nat_lit 161 :: nat_lit 162 :: nat_lit 163 :: nat_lit 165 :: nat_lit 166 :: nat_lit 168 :: nat_lit 169 :: nat_lit 170 :: nat_lit 171 :: nat_lit 172 :: nat_lit 174 :: nat_lit 175 :: nat_lit 177 :: nat_lit 179 :: nat_lit 180 :: nat_lit 181 :: nat_lit 184 :: nat_lit 191 :: nat_lit 193 :: nat_lit 194 :: nat_lit 196 :: nat_lit 197 :: nat_lit 198 :: nat_lit 199 :: nat_lit 200 :: nat_lit 201 :: nat_lit 202 :: nat_lit 203 :: nat_lit 204 :: nat_lit 207 :: nat_lit 209 :: nat_lit 210 :: nat_lit 212 :: nat_lit 213 :: nat_lit 214 :: nat_lit 216 :: nat_lit 217 :: nat_lit 219 :: nat_lit 220 :: nat_lit 221 :: nat_lit 222 :: nat_lit 223 :: nat_lit 224 :: nat_lit 225 :: nat_lit 226 :: nat_lit 227 :: nat_lit 228 :: nat_lit 229 :: nat_lit 230 :: nat_lit 231 :: nat_lit 232 :: nat_lit 233 :: nat_lit 234 :: nat_lit 235 :: nat_lit 236 :: nat_lit 237 :: nat_lit 238 :: nat_lit 239 :: nat_lit 240 :: nat_lit 241 :: nat_lit 242 :: nat_lit 243 :: nat_lit 244 :: nat_lit 245 :: nat_lit 246 :: nat_lit 247 :: nat_lit 248 :: nat_lit 249 :: nat_lit 250 :: nat_lit 251 :: nat_lit 252 :: nat_lit 253 :: nat_lit 254 :: nat_lit 256 :: nat_lit 257 :: nat_lit 259 :: nat_lit 260 :: nat_lit 261 :: nat_lit 263 :: nat_lit 264 :: nat_lit 266 :: nat_lit 267 :: nat_lit 268 :: nat_lit 270 :: nat_lit 271 :: nat_lit 273 :: nat_lit 274 :: nat_lit 275 :: nat_lit 278 :: nat_lit 279 :: nat_lit 280 :: nat_lit 282 :: nat_lit 283 :: nat_lit 285 :: nat_lit 286 :: nat_lit 287 :: nat_lit 289 :: nat_lit 290 :: nat_lit 292 :: nat_lit 293 :: nat_lit 294 :: nat_lit 297 :: nat_lit 298 :: nat_lit 299 :: nat_lit 302 :: nat_lit 303 :: []) hk [100]).obs (kmHook hd.heap_39 (nat_lit 2 :: nat_lit 3 :: nat_lit 33 :: nat_lit 35 :: nat_lit 36 :: nat_lit 38 :: nat_lit 39 :: nat_lit 47 :: nat_lit 49 :: nat_lit 50 :: nat_lit 52 :: nat_lit 53 :: nat_lit 54 :: nat_lit 55 :: nat_lit 57 :: nat_lit 58 :: nat_lit 60 :: nat_lit 61 :: nat_lit 62 :: nat_lit 64 :: nat_lit 65 :: nat_lit 67 :: nat_lit 68 :: nat_lit 69 :: nat_lit 71 :: nat_lit 72 :: nat_lit 74 :: nat_lit 75 :: nat_lit 76 :: nat_lit 77 :: nat_lit 78 :: nat_lit 79 :: nat_lit 80 :: nat_lit 83 :: nat_lit 86 :: nat_lit 91 :: nat_lit 92 :: nat_lit 94 :: nat_lit 95 :: nat_lit 97 :: nat_lit 98 :: nat_lit 99 :: nat_lit 101 :: nat_lit 102 :: nat_lit 104 :: nat_lit 105 :: nat_lit 106 :: nat_lit 107 :: nat_lit 108 :: nat_lit 109 :: nat_lit 110 :: nat_lit 113 :: nat_lit 116 :: nat_lit 121 :: nat_lit 122 :: nat_lit 123 :: nat_lit 124 :: nat_lit 126 :: nat_lit 127 :: nat_lit 129 :: nat_lit 130 :: nat_lit 131 :: nat_lit 133 :: nat_lit 134 :: nat_lit 136 :: nat_lit 137 :: nat_lit 138 :: nat_lit 139 :: nat_lit 140 :: nat_lit 141 :: nat_lit 142 :: nat_lit 144 :: nat_lit 145 :: nat_lit 147 :: nat_lit 148 :: nat_lit 149 :: nat_lit 151 :: nat_lit 152 :: nat_lit 154 :: nat_lit 155 :: nat_lit 156 :: nat_lit 158 :: nat_lit 159 :: nat_lit 161 :: nat_lit 162 :: nat_lit 163 :: nat_lit 165 :: nat_lit 166 :: nat_lit 168 :: nat_lit 169 :: nat_lit 170 :: nat_lit 171 :: nat_lit 172 :: nat_lit 174 :: nat_lit 175 :: nat_lit 177 :: nat_lit 179 :: nat_lit 180 :: nat_lit 181 :: nat_lit 184 :: nat_lit 191 :: nat_lit 193 :: nat_lit 194 :: nat_lit 196 :: nat_lit 197 :: nat_lit 198 :: nat_lit 199 :: nat_lit 200 :: nat_lit 201 :: nat_lit 202 :: nat_lit 203 :: nat_lit 204 :: nat_lit 207 :: nat_lit 209 :: nat_lit 210 :: nat_lit 212 :: nat_lit 213 :: nat_lit 214 :: nat_lit 216 :: nat_lit 217 :: nat_lit 219 :: nat_lit 220 :: nat_lit 221 :: nat_lit 222 :: nat_lit 223 :: nat_lit 224 :: nat_lit 225 :: nat_lit 226 :: nat_lit 227 :: nat_lit 228 :: nat_lit 229 :: nat_lit 230 :: nat_lit 231 :: nat_lit 232 :: nat_lit 233 :: nat_lit 234 :: nat_lit 235 :: nat_lit 236 :: nat_lit 237 :: nat_lit 238 :: nat_lit 239 :: nat_lit 240 :: nat_lit 241 :: nat_lit 242 :: nat_lit 243 :: nat_lit 244 :: nat_lit 245 :: nat_lit 246 :: nat_lit 247 :: nat_lit 248 :: nat_lit 249 :: nat_lit 250 :: nat_lit 251 :: nat_lit 252 :: nat_lit 253 :: nat_lit 254 :: nat_lit 256 :: nat_lit 257 :: nat_lit 259 :: nat_lit 260 :: nat_lit 261 :: nat_lit 263 :: nat_lit 264 :: nat_lit 266 :: nat_lit 267 :: nat_lit 268 :: nat_lit 270 :: nat_lit 271 :: nat_lit 273 :: nat_lit 274 :: nat_lit 275 :: nat_lit 278 :: nat_lit 279 :: nat_lit 280 :: nat_lit 282 :: nat_lit 283 :: nat_lit 285 :: nat_lit 286 :: nat_lit 287 :: nat_lit 289 :: nat_lit 290 :: nat_lit 292 :: nat_lit 293 :: nat_lit 294 :: nat_lit 297 :: nat_lit 298 :: nat_lit 299 :: nat_lit 302 :: nat_lit 303 :: []) hk [100]).val 5290 :=
  LeftO.of_pieces (H₀ := hp0) (H₁ := hp7) t_open t_size t_run (by decide) t_looks
def defRec : Option (DefRec × List (Str × Expr)) → DefRec
  | some (d, _) => d
  | none => { name := Str.ofString "", params := prm [], body := [], scope := scp [], pos := zp }
theorem hd (X : WalkO hd.view_39 [Str.ofString "_tuplegetter", Str.ofString "Pair", Str.ofString "_filemode_table"] (XL hd.view_39 [(Str.ofString "_filemode_table", WData.tuple [WData.tuple [WData.tuple [WData.int 40960, WData.str { cps := #[108] }], WData.tuple [WData.int 49152, WData.str { cps := #[115] }], WData.tuple [WData.int 32768, WData.str { cps := #[45] }], WData.tuple [WData.int 24576, WData.str { cps := #[98] }], WData.tuple [WData.int 16384, WData.str { cps := #[100] }], WData.tuple [WData.int 8192, WData.str { cps := #[99] }], WData.tuple [WData.int 4096, WData.str { cps := #[112] }]], WData.tuple [WData.tuple [WData.int 256, WData.str { cps := #[114] }]], WData.tuple [WData.tuple [WData.int 128, WData.str { cps := #[119] }]], WData.tuple [WData.tuple [WData.int 2112, WData.str { cps := #[115] }], WData.tuple [WData.int 2048, WData.str { cps := #[83] }], WData.tuple [WData.int 64, WData.str { cps := #[120] }]], WData.tuple [WData.tuple [WData.int 32, WData.str { cps := #[114] }]], WData.tuple [WData.tuple [WData.int 16, WData.str { cps := #[119] }]], WData.tuple [WData.tuple [WData.int 1032, WData.str { cps := #[115] }], WData.tuple [WData.int 1024, WData.str { cps := #[83] }], WData.tuple [WData.int 8, WData.str { cps := #[120] }]], WData.tuple [WData.tuple [WData.int 4, WData.str { cps := #[114] }]], WData.tuple [WData.tuple [WData.int 2, WData.str { cps := #[119] }]], WData.tuple [WData.tuple [WData.int 513, WData.str { cps := #[116] }], WData.tuple [WData.int 512, WData.str { cps := #[84] }], WData.tuple [WData.int 1, WData.str { cps := #[120] }]]])]) (kmHook hd.heap_39 (nat_lit 2 :: nat_lit 3 :: nat_lit 33 :: nat_lit 35 :: nat_lit 36 :: nat_lit 38 :: nat_lit 39 :: nat_lit 47 :: nat_lit 49 :: nat_lit 50 :: nat_lit 52 :: nat_lit 53 :: nat_lit 54 :: nat_lit 55 :: nat_lit 57 :: nat_lit 58 :: nat_lit 60 :: nat_lit 61 :: nat_lit 62 :: nat_lit 64 :: nat_lit 65 :: nat_lit 67 :: nat_lit 68 :: nat_lit 69 :: nat_lit 71 :: nat_lit 72 :: nat_lit 74 :: nat_lit 75 :: nat_lit 76 :: nat_lit 77 :: nat_lit 78 :: nat_lit 79 :: nat_lit 80 :: nat_lit 83 :: nat_lit 86 :: nat_lit 91 :: nat_lit 92 :: nat_lit 94 :: nat_lit 95 :: nat_lit 97 :: nat_lit 98 :: nat_lit 99 :: nat_lit 101 :: nat_lit 102 :: nat_lit 104 :: nat_lit 105 :: nat_lit 106 :: nat_lit 107 :: nat_lit 108 :: nat_lit 109 :: nat_lit 110 :: nat_lit 113 :: nat_lit 116 :: nat_lit 121 :: nat_lit 122 :: nat_lit 123 :: nat_lit 124 :: nat_lit 126 :: nat_lit 127 :: nat_lit 129 :: nat_lit 130 :: nat_lit 131 :: nat_lit 133 :: nat_lit 134 :: nat_lit 136 :: nat_lit 137 :: nat_lit 138 :: nat_lit 139 :: nat_lit 140 :: nat_lit 141 :: nat_lit 142 :: nat_lit 144 :: nat_lit 145 :: nat_lit 147 :: nat_lit 148 :: nat_lit 149 :: nat_lit 151 :: nat_lit 152 :: nat_lit 154 :: nat_lit 155 :: nat_lit 156 :: nat_lit 158 :: nat_lit 159 :: nat_lit 161 :: nat_lit 162 :: nat_lit 163 :: nat_lit 165 :: nat_lit 166 :: nat_lit 168 :: nat_lit 169 :: nat_lit 170 :: nat_lit 171 :: nat_lit 172 :: nat_lit 174 :: nat_lit 175 :: nat_lit 177 :: nat_lit 179 :: nat_lit 180 :: nat_lit 181 :: nat_lit 184 :: nat_lit 191 :: nat_lit 193 :: nat_lit 194 :: nat_lit 196 :: nat_lit 197 :: nat_lit 198 :: nat_lit 199 :: nat_lit 200 :: nat_lit 201 :: nat_lit 202 :: nat_lit 203 :: nat_lit 204 :: nat_lit 207 :: nat_lit 209 :: nat_lit 210 :: nat_lit 212 :: nat_lit 213 :: nat_lit 214 :: nat_lit 216 :: nat_lit 217 :: nat_lit 219 :: nat_lit 220 :: nat_lit 221 :: nat_lit 222 :: nat_lit 223 :: nat_lit 224 :: nat_lit 225 :: nat_lit 226 :: nat_lit 227 :: nat_lit 228 :: nat_lit 229 :: nat_lit 230 :: nat_lit 231 :: nat_lit 232 :: nat_lit 233 :: nat_lit 234 :: nat_lit 235 :: nat_lit 236 :: nat_lit 237 :: nat_lit 238 :: nat_lit 239 :: nat_lit 240 :: nat_lit 241 :: nat_lit 242 :: nat_lit 243 :: nat_lit 244 :: nat_lit 245 :: nat_lit 246 :: nat_lit 247 :: nat_lit 248 :: nat_lit 249 :: nat_lit 250 :: nat_lit 251 :: nat_lit 252 :: nat_lit 253 :: nat_lit 254 :: nat_lit 256 :: nat_lit 257 :: nat_lit 259 :: nat_lit 260 :: nat_lit 261 :: nat_lit 263 :: nat_lit 264 :: nat_lit 266 :: nat_lit 267 :: nat_lit 268 :: nat_lit 270 :: nat_lit 271 :: nat_lit 273 :: nat_lit 274 :: nat_lit 275 :: nat_lit 278 :: nat_lit 279 :: nat_lit 280 :: nat_lit 282 :: nat_lit 283 :: nat_lit 285 :: nat_lit 286 :: nat_lit 287 :: nat_lit 289 :: nat_lit 290 :: nat_lit 292 :: nat_lit 293 :: nat_lit 294 :: nat_lit 297 :: nat_lit 298 :: nat_lit 299 :: nat_lit 302 :: nat_lit 303 :: []) hk [100]).says PySem.Challenge.rw_in0191_01.row.toRowW (let_mvar% ?f0 := (fun (x : DefRec) (_ : defRec (defOf hd.view_39 (Str.ofString "law")) = x) => x); ?f0 _ (by conv => lhs; whnf)) [] fun f vs => call f vs) : PySem.Challenge.rw_in0191_01.Holds := by
  w_on
  o_law
  refine holds_open (q := hd.view_39) (loose := [Str.ofString "_tuplegetter", Str.ofString "Pair", Str.ofString "_filemode_table"]) (Xt := fun s => xlAt hd.view_39 [(Str.ofString "_filemode_table", WData.tuple [WData.tuple [WData.tuple [WData.int 40960, WData.str { cps := #[108] }], WData.tuple [WData.int 49152, WData.str { cps := #[115] }], WData.tuple [WData.int 32768, WData.str { cps := #[45] }], WData.tuple [WData.int 24576, WData.str { cps := #[98] }], WData.tuple [WData.int 16384, WData.str { cps := #[100] }], WData.tuple [WData.int 8192, WData.str { cps := #[99] }], WData.tuple [WData.int 4096, WData.str { cps := #[112] }]], WData.tuple [WData.tuple [WData.int 256, WData.str { cps := #[114] }]], WData.tuple [WData.tuple [WData.int 128, WData.str { cps := #[119] }]], WData.tuple [WData.tuple [WData.int 2112, WData.str { cps := #[115] }], WData.tuple [WData.int 2048, WData.str { cps := #[83] }], WData.tuple [WData.int 64, WData.str { cps := #[120] }]], WData.tuple [WData.tuple [WData.int 32, WData.str { cps := #[114] }]], WData.tuple [WData.tuple [WData.int 16, WData.str { cps := #[119] }]], WData.tuple [WData.tuple [WData.int 1032, WData.str { cps := #[115] }], WData.tuple [WData.int 1024, WData.str { cps := #[83] }], WData.tuple [WData.int 8, WData.str { cps := #[120] }]], WData.tuple [WData.tuple [WData.int 4, WData.str { cps := #[114] }]], WData.tuple [WData.tuple [WData.int 2, WData.str { cps := #[119] }]], WData.tuple [WData.tuple [WData.int 513, WData.str { cps := #[116] }], WData.tuple [WData.int 512, WData.str { cps := #[84] }], WData.tuple [WData.int 1, WData.str { cps := #[120] }]]])] s && recOk (RowW.records PySem.Challenge.rw_in0191_01.row.toRowW) s) (XP := XL hd.view_39 [(Str.ofString "_filemode_table", WData.tuple [WData.tuple [WData.tuple [WData.int 40960, WData.str { cps := #[108] }], WData.tuple [WData.int 49152, WData.str { cps := #[115] }], WData.tuple [WData.int 32768, WData.str { cps := #[45] }], WData.tuple [WData.int 24576, WData.str { cps := #[98] }], WData.tuple [WData.int 16384, WData.str { cps := #[100] }], WData.tuple [WData.int 8192, WData.str { cps := #[99] }], WData.tuple [WData.int 4096, WData.str { cps := #[112] }]], WData.tuple [WData.tuple [WData.int 256, WData.str { cps := #[114] }]], WData.tuple [WData.tuple [WData.int 128, WData.str { cps := #[119] }]], WData.tuple [WData.tuple [WData.int 2112, WData.str { cps := #[115] }], WData.tuple [WData.int 2048, WData.str { cps := #[83] }], WData.tuple [WData.int 64, WData.str { cps := #[120] }]], WData.tuple [WData.tuple [WData.int 32, WData.str { cps := #[114] }]], WData.tuple [WData.tuple [WData.int 16, WData.str { cps := #[119] }]], WData.tuple [WData.tuple [WData.int 1032, WData.str { cps := #[115] }], WData.tuple [WData.int 1024, WData.str { cps := #[83] }], WData.tuple [WData.int 8, WData.str { cps := #[120] }]], WData.tuple [WData.tuple [WData.int 4, WData.str { cps := #[114] }]], WData.tuple [WData.tuple [WData.int 2, WData.str { cps := #[119] }]], WData.tuple [WData.tuple [WData.int 513, WData.str { cps := #[116] }], WData.tuple [WData.int 512, WData.str { cps := #[84] }], WData.tuple [WData.int 1, WData.str { cps := #[120] }]]])]) (Yf := Hook.obs (kmHook hd.heap_39 (nat_lit 2 :: nat_lit 3 :: nat_lit 33 :: nat_lit 35 :: nat_lit 36 :: nat_lit 38 :: nat_lit 39 :: nat_lit 47 :: nat_lit 49 :: nat_lit 50 :: nat_lit 52 :: nat_lit 53 :: nat_lit 54 :: nat_lit 55 :: nat_lit 57 :: nat_lit 58 :: nat_lit 60 :: nat_lit 61 :: nat_lit 62 :: nat_lit 64 :: nat_lit 65 :: nat_lit 67 :: nat_lit 68 :: nat_lit 69 :: nat_lit 71 :: nat_lit 72 :: nat_lit 74 :: nat_lit 75 :: nat_lit 76 :: nat_lit 77 :: nat_lit 78 :: nat_lit 79 :: nat_lit 80 :: nat_lit 83 :: nat_lit 86 :: nat_lit 91 :: nat_lit 92 :: nat_lit 94 :: nat_lit 95 :: nat_lit 97 :: nat_lit 98 :: nat_lit 99 :: nat_lit 101 :: nat_lit 102 :: nat_lit 104 :: nat_lit 105 :: nat_lit 106 :: nat_lit 107 :: nat_lit 108 :: nat_lit 109 :: nat_lit 110 :: nat_lit 113 :: nat_lit 116 :: nat_lit 121 :: nat_lit 122 :: nat_lit 123 :: nat_lit 124 :: nat_lit 126 :: nat_lit 127 :: nat_lit 129 :: nat_lit 130 :: nat_lit 131 :: nat_lit 133 :: nat_lit 134 :: nat_lit 136 :: nat_lit 137 :: nat_lit 138 :: nat_lit 139 :: nat_lit 140 :: nat_lit 141 :: nat_lit 142 :: nat_lit 144 :: nat_lit 145 :: nat_lit 147 :: nat_lit 148 :: nat_lit 149 :: nat_lit 151 :: nat_lit 152 :: nat_lit 154 :: nat_lit 155 :: nat_lit 156 :: nat_lit 158 :: nat_lit 159 :: nat_lit 161 :: nat_lit 162 :: nat_lit 163 :: nat_lit 165 :: nat_lit 166 :: nat_lit 168 :: nat_lit 169 :: nat_lit 170 :: nat_lit 171 :: nat_lit 172 :: nat_lit 174 :: nat_lit 175 :: nat_lit 177 :: nat_lit 179 :: nat_lit 180 :: nat_lit 181 :: nat_lit 184 :: nat_lit 191 :: nat_lit 193 :: nat_lit 194 :: nat_lit 196 :: nat_lit 197 :: nat_lit 198 :: nat_lit 199 :: nat_lit 200 :: nat_lit 201 :: nat_lit 202 :: nat_lit 203 :: nat_lit 204 :: nat_lit 207 :: nat_lit 209 :: nat_lit 210 :: nat_lit 212 :: nat_lit 213 :: nat_lit 214 :: nat_lit 216 :: nat_lit 217 :: nat_lit 219 :: nat_lit 220 :: nat_lit 221 :: nat_lit 222 :: nat_lit 223 :: nat_lit 224 :: nat_lit 225 :: nat_lit 226 :: nat_lit 227 :: nat_lit 228 :: nat_lit 229 :: nat_lit 230 :: nat_lit 231 :: nat_lit 232 :: nat_lit 233 :: nat_lit 234 :: nat_lit 235 :: nat_lit 236 :: nat_lit 237 :: nat_lit 238 :: nat_lit 239 :: nat_lit 240 :: nat_lit 241 :: nat_lit 242 :: nat_lit 243 :: nat_lit 244 :: nat_lit 245 :: nat_lit 246 :: nat_lit 247 :: nat_lit 248 :: nat_lit 249 :: nat_lit 250 :: nat_lit 251 :: nat_lit 252 :: nat_lit 253 :: nat_lit 254 :: nat_lit 256 :: nat_lit 257 :: nat_lit 259 :: nat_lit 260 :: nat_lit 261 :: nat_lit 263 :: nat_lit 264 :: nat_lit 266 :: nat_lit 267 :: nat_lit 268 :: nat_lit 270 :: nat_lit 271 :: nat_lit 273 :: nat_lit 274 :: nat_lit 275 :: nat_lit 278 :: nat_lit 279 :: nat_lit 280 :: nat_lit 282 :: nat_lit 283 :: nat_lit 285 :: nat_lit 286 :: nat_lit 287 :: nat_lit 289 :: nat_lit 290 :: nat_lit 292 :: nat_lit 293 :: nat_lit 294 :: nat_lit 297 :: nat_lit 298 :: nat_lit 299 :: nat_lit 302 :: nat_lit 303 :: []) hk [100])) (Ya := Hook.val (kmHook hd.heap_39 (nat_lit 2 :: nat_lit 3 :: nat_lit 33 :: nat_lit 35 :: nat_lit 36 :: nat_lit 38 :: nat_lit 39 :: nat_lit 47 :: nat_lit 49 :: nat_lit 50 :: nat_lit 52 :: nat_lit 53 :: nat_lit 54 :: nat_lit 55 :: nat_lit 57 :: nat_lit 58 :: nat_lit 60 :: nat_lit 61 :: nat_lit 62 :: nat_lit 64 :: nat_lit 65 :: nat_lit 67 :: nat_lit 68 :: nat_lit 69 :: nat_lit 71 :: nat_lit 72 :: nat_lit 74 :: nat_lit 75 :: nat_lit 76 :: nat_lit 77 :: nat_lit 78 :: nat_lit 79 :: nat_lit 80 :: nat_lit 83 :: nat_lit 86 :: nat_lit 91 :: nat_lit 92 :: nat_lit 94 :: nat_lit 95 :: nat_lit 97 :: nat_lit 98 :: nat_lit 99 :: nat_lit 101 :: nat_lit 102 :: nat_lit 104 :: nat_lit 105 :: nat_lit 106 :: nat_lit 107 :: nat_lit 108 :: nat_lit 109 :: nat_lit 110 :: nat_lit 113 :: nat_lit 116 :: nat_lit 121 :: nat_lit 122 :: nat_lit 123 :: nat_lit 124 :: nat_lit 126 :: nat_lit 127 :: nat_lit 129 :: nat_lit 130 :: nat_lit 131 :: nat_lit 133 :: nat_lit 134 :: nat_lit 136 :: nat_lit 137 :: nat_lit 138 :: nat_lit 139 :: nat_lit 140 :: nat_lit 141 :: nat_lit 142 :: nat_lit 144 :: nat_lit 145 :: nat_lit 147 :: nat_lit 148 :: nat_lit 149 :: nat_lit 151 :: nat_lit 152 :: nat_lit 154 :: nat_lit 155 :: nat_lit 156 :: nat_lit 158 :: nat_lit 159 :: nat_lit 161 :: nat_lit 162 :: nat_lit 163 :: nat_lit 165 :: nat_lit 166 :: nat_lit 168 :: nat_lit 169 :: nat_lit 170 :: nat_lit 171 :: nat_lit 172 :: nat_lit 174 :: nat_lit 175 :: nat_lit 177 :: nat_lit 179 :: nat_lit 180 :: nat_lit 181 :: nat_lit 184 :: nat_lit 191 :: nat_lit 193 :: nat_lit 194 :: nat_lit 196 :: nat_lit 197 :: nat_lit 198 :: nat_lit 199 :: nat_lit 200 :: nat_lit 201 :: nat_lit 202 :: nat_lit 203 :: nat_lit 204 :: nat_lit 207 :: nat_lit 209 :: nat_lit 210 :: nat_lit 212 :: nat_lit 213 :: nat_lit 214 :: nat_lit 216 :: nat_lit 217 :: nat_lit 219 :: nat_lit 220 :: nat_lit 221 :: nat_lit 222 :: nat_lit 223 :: nat_lit 224 :: nat_lit 225 :: nat_lit 226 :: nat_lit 227 :: nat_lit 228 :: nat_lit 229 :: nat_lit 230 :: nat_lit 231 :: nat_lit 232 :: nat_lit 233 :: nat_lit 234 :: nat_lit 235 :: nat_lit 236 :: nat_lit 237 :: nat_lit 238 :: nat_lit 239 :: nat_lit 240 :: nat_lit 241 :: nat_lit 242 :: nat_lit 243 :: nat_lit 244 :: nat_lit 245 :: nat_lit 246 :: nat_lit 247 :: nat_lit 248 :: nat_lit 249 :: nat_lit 250 :: nat_lit 251 :: nat_lit 252 :: nat_lit 253 :: nat_lit 254 :: nat_lit 256 :: nat_lit 257 :: nat_lit 259 :: nat_lit 260 :: nat_lit 261 :: nat_lit 263 :: nat_lit 264 :: nat_lit 266 :: nat_lit 267 :: nat_lit 268 :: nat_lit 270 :: nat_lit 271 :: nat_lit 273 :: nat_lit 274 :: nat_lit 275 :: nat_lit 278 :: nat_lit 279 :: nat_lit 280 :: nat_lit 282 :: nat_lit 283 :: nat_lit 285 :: nat_lit 286 :: nat_lit 287 :: nat_lit 289 :: nat_lit 290 :: nat_lit 292 :: nat_lit 293 :: nat_lit 294 :: nat_lit 297 :: nat_lit 298 :: nat_lit 299 :: nat_lit 302 :: nat_lit 303 :: []) hk [100])) (YP := Hook.says (kmHook hd.heap_39 (nat_lit 2 :: nat_lit 3 :: nat_lit 33 :: nat_lit 35 :: nat_lit 36 :: nat_lit 38 :: nat_lit 39 :: nat_lit 47 :: nat_lit 49 :: nat_lit 50 :: nat_lit 52 :: nat_lit 53 :: nat_lit 54 :: nat_lit 55 :: nat_lit 57 :: nat_lit 58 :: nat_lit 60 :: nat_lit 61 :: nat_lit 62 :: nat_lit 64 :: nat_lit 65 :: nat_lit 67 :: nat_lit 68 :: nat_lit 69 :: nat_lit 71 :: nat_lit 72 :: nat_lit 74 :: nat_lit 75 :: nat_lit 76 :: nat_lit 77 :: nat_lit 78 :: nat_lit 79 :: nat_lit 80 :: nat_lit 83 :: nat_lit 86 :: nat_lit 91 :: nat_lit 92 :: nat_lit 94 :: nat_lit 95 :: nat_lit 97 :: nat_lit 98 :: nat_lit 99 :: nat_lit 101 :: nat_lit 102 :: nat_lit 104 :: nat_lit 105 :: nat_lit 106 :: nat_lit 107 :: nat_lit 108 :: nat_lit 109 :: nat_lit 110 :: nat_lit 113 :: nat_lit 116 :: nat_lit 121 :: nat_lit 122 :: nat_lit 123 :: nat_lit 124 :: nat_lit 126 :: nat_lit 127 :: nat_lit 129 :: nat_lit 130 :: nat_lit 131 :: nat_lit 133 :: nat_lit 134 :: nat_lit 136 :: nat_lit 137 :: nat_lit 138 :: nat_lit 139 :: nat_lit 140 :: nat_lit 141 :: nat_lit 142 :: nat_lit 144 :: nat_lit 145 :: nat_lit 147 :: nat_lit 148 :: nat_lit 149 :: nat_lit 151 :: nat_lit 152 :: nat_lit 154 :: nat_lit 155 :: nat_lit 156 :: nat_lit 158 :: nat_lit 159 :: nat_lit 161 :: nat_lit 162 :: nat_lit 163 :: nat_lit 165 :: nat_lit 166 :: nat_lit 168 :: nat_lit 169 :: nat_lit 170 :: nat_lit 171 :: nat_lit 172 :: nat_lit 174 :: nat_lit 175 :: nat_lit 177 :: nat_lit 179 :: nat_lit 180 :: nat_lit 181 :: nat_lit 184 :: nat_lit 191 :: nat_lit 193 :: nat_lit 194 :: nat_lit 196 :: nat_lit 197 :: nat_lit 198 :: nat_lit 199 :: nat_lit 200 :: nat_lit 201 :: nat_lit 202 :: nat_lit 203 :: nat_lit 204 :: nat_lit 207 :: nat_lit 209 :: nat_lit 210 :: nat_lit 212 :: nat_lit 213 :: nat_lit 214 :: nat_lit 216 :: nat_lit 217 :: nat_lit 219 :: nat_lit 220 :: nat_lit 221 :: nat_lit 222 :: nat_lit 223 :: nat_lit 224 :: nat_lit 225 :: nat_lit 226 :: nat_lit 227 :: nat_lit 228 :: nat_lit 229 :: nat_lit 230 :: nat_lit 231 :: nat_lit 232 :: nat_lit 233 :: nat_lit 234 :: nat_lit 235 :: nat_lit 236 :: nat_lit 237 :: nat_lit 238 :: nat_lit 239 :: nat_lit 240 :: nat_lit 241 :: nat_lit 242 :: nat_lit 243 :: nat_lit 244 :: nat_lit 245 :: nat_lit 246 :: nat_lit 247 :: nat_lit 248 :: nat_lit 249 :: nat_lit 250 :: nat_lit 251 :: nat_lit 252 :: nat_lit 253 :: nat_lit 254 :: nat_lit 256 :: nat_lit 257 :: nat_lit 259 :: nat_lit 260 :: nat_lit 261 :: nat_lit 263 :: nat_lit 264 :: nat_lit 266 :: nat_lit 267 :: nat_lit 268 :: nat_lit 270 :: nat_lit 271 :: nat_lit 273 :: nat_lit 274 :: nat_lit 275 :: nat_lit 278 :: nat_lit 279 :: nat_lit 280 :: nat_lit 282 :: nat_lit 283 :: nat_lit 285 :: nat_lit 286 :: nat_lit 287 :: nat_lit 289 :: nat_lit 290 :: nat_lit 292 :: nat_lit 293 :: nat_lit 294 :: nat_lit 297 :: nat_lit 298 :: nat_lit 299 :: nat_lit 302 :: nat_lit 303 :: []) hk [100])) (N := 5290) ?hl (Hook.of (kmHook hd.heap_39 (nat_lit 2 :: nat_lit 3 :: nat_lit 33 :: nat_lit 35 :: nat_lit 36 :: nat_lit 38 :: nat_lit 39 :: nat_lit 47 :: nat_lit 49 :: nat_lit 50 :: nat_lit 52 :: nat_lit 53 :: nat_lit 54 :: nat_lit 55 :: nat_lit 57 :: nat_lit 58 :: nat_lit 60 :: nat_lit 61 :: nat_lit 62 :: nat_lit 64 :: nat_lit 65 :: nat_lit 67 :: nat_lit 68 :: nat_lit 69 :: nat_lit 71 :: nat_lit 72 :: nat_lit 74 :: nat_lit 75 :: nat_lit 76 :: nat_lit 77 :: nat_lit 78 :: nat_lit 79 :: nat_lit 80 :: nat_lit 83 :: nat_lit 86 :: nat_lit 91 :: nat_lit 92 :: nat_lit 94 :: nat_lit 95 :: nat_lit 97 :: nat_lit 98 :: nat_lit 99 :: nat_lit 101 :: nat_lit 102 :: nat_lit 104 :: nat_lit 105 :: nat_lit 106 :: nat_lit 107 :: nat_lit 108 :: nat_lit 109 :: nat_lit 110 :: nat_lit 113 :: nat_lit 116 :: nat_lit 121 :: nat_lit 122 :: nat_lit 123 :: nat_lit 124 :: nat_lit 126 :: nat_lit 127 :: nat_lit 129 :: nat_lit 130 :: nat_lit 131 :: nat_lit 133 :: nat_lit 134 :: nat_lit 136 :: nat_lit 137 :: nat_lit 138 :: nat_lit 139 :: nat_lit 140 :: nat_lit 141 :: nat_lit 142 :: nat_lit 144 :: nat_lit 145 :: nat_lit 147 :: nat_lit 148 :: nat_lit 149 :: nat_lit 151 :: nat_lit 152 :: nat_lit 154 :: nat_lit 155 :: nat_lit 156 :: nat_lit 158 :: nat_lit 159 :: nat_lit 161 :: nat_lit 162 :: nat_lit 163 :: nat_lit 165 :: nat_lit 166 :: nat_lit 168 :: nat_lit 169 :: nat_lit 170 :: nat_lit 171 :: nat_lit 172 :: nat_lit 174 :: nat_lit 175 :: nat_lit 177 :: nat_lit 179 :: nat_lit 180 :: nat_lit 181 :: nat_lit 184 :: nat_lit 191 :: nat_lit 193 :: nat_lit 194 :: nat_lit 196 :: nat_lit 197 :: nat_lit 198 :: nat_lit 199 :: nat_lit 200 :: nat_lit 201 :: nat_lit 202 :: nat_lit 203 :: nat_lit 204 :: nat_lit 207 :: nat_lit 209 :: nat_lit 210 :: nat_lit 212 :: nat_lit 213 :: nat_lit 214 :: nat_lit 216 :: nat_lit 217 :: nat_lit 219 :: nat_lit 220 :: nat_lit 221 :: nat_lit 222 :: nat_lit 223 :: nat_lit 224 :: nat_lit 225 :: nat_lit 226 :: nat_lit 227 :: nat_lit 228 :: nat_lit 229 :: nat_lit 230 :: nat_lit 231 :: nat_lit 232 :: nat_lit 233 :: nat_lit 234 :: nat_lit 235 :: nat_lit 236 :: nat_lit 237 :: nat_lit 238 :: nat_lit 239 :: nat_lit 240 :: nat_lit 241 :: nat_lit 242 :: nat_lit 243 :: nat_lit 244 :: nat_lit 245 :: nat_lit 246 :: nat_lit 247 :: nat_lit 248 :: nat_lit 249 :: nat_lit 250 :: nat_lit 251 :: nat_lit 252 :: nat_lit 253 :: nat_lit 254 :: nat_lit 256 :: nat_lit 257 :: nat_lit 259 :: nat_lit 260 :: nat_lit 261 :: nat_lit 263 :: nat_lit 264 :: nat_lit 266 :: nat_lit 267 :: nat_lit 268 :: nat_lit 270 :: nat_lit 271 :: nat_lit 273 :: nat_lit 274 :: nat_lit 275 :: nat_lit 278 :: nat_lit 279 :: nat_lit 280 :: nat_lit 282 :: nat_lit 283 :: nat_lit 285 :: nat_lit 286 :: nat_lit 287 :: nat_lit 289 :: nat_lit 290 :: nat_lit 292 :: nat_lit 293 :: nat_lit 294 :: nat_lit 297 :: nat_lit 298 :: nat_lit 299 :: nat_lit 302 :: nat_lit 303 :: []) hk [100])) (Hook.keeps (kmHook hd.heap_39 (nat_lit 2 :: nat_lit 3 :: nat_lit 33 :: nat_lit 35 :: nat_lit 36 :: nat_lit 38 :: nat_lit 39 :: nat_lit 47 :: nat_lit 49 :: nat_lit 50 :: nat_lit 52 :: nat_lit 53 :: nat_lit 54 :: nat_lit 55 :: nat_lit 57 :: nat_lit 58 :: nat_lit 60 :: nat_lit 61 :: nat_lit 62 :: nat_lit 64 :: nat_lit 65 :: nat_lit 67 :: nat_lit 68 :: nat_lit 69 :: nat_lit 71 :: nat_lit 72 :: nat_lit 74 :: nat_lit 75 :: nat_lit 76 :: nat_lit 77 :: nat_lit 78 :: nat_lit 79 :: nat_lit 80 :: nat_lit 83 :: nat_lit 86 :: nat_lit 91 :: nat_lit 92 :: nat_lit 94 :: nat_lit 95 :: nat_lit 97 :: nat_lit 98 :: nat_lit 99 :: nat_lit 101 :: nat_lit 102 :: nat_lit 104 :: nat_lit 105 :: nat_lit 106 :: nat_lit 107 :: nat_lit 108 :: nat_lit 109 :: nat_lit 110 :: nat_lit 113 :: nat_lit 116 :: nat_lit 121 :: nat_lit 122 :: nat_lit 123 :: nat_lit 124 :: nat_lit 126 :: nat_lit 127 :: nat_lit 129 :: nat_lit 130 :: nat_lit 131 :: nat_lit 133 :: nat_lit 134 :: nat_lit 136 :: nat_lit 137 :: nat_lit 138 :: nat_lit 139 :: nat_lit 140 :: nat_lit 141 :: nat_lit 142 :: nat_lit 144 :: nat_lit 145 :: nat_lit 147 :: nat_lit 148 :: nat_lit 149 :: nat_lit 151 :: nat_lit 152 :: nat_lit 154 :: nat_lit 155 :: nat_lit 156 :: nat_lit 158 :: nat_lit 159 :: nat_lit 161 :: nat_lit 162 :: nat_lit 163 :: nat_lit 165 :: nat_lit 166 :: nat_lit 168 :: nat_lit 169 :: nat_lit 170 :: nat_lit 171 :: nat_lit 172 :: nat_lit 174 :: nat_lit 175 :: nat_lit 177 :: nat_lit 179 :: nat_lit 180 :: nat_lit 181 :: nat_lit 184 :: nat_lit 191 :: nat_lit 193 :: nat_lit 194 :: nat_lit 196 :: nat_lit 197 :: nat_lit 198 :: nat_lit 199 :: nat_lit 200 :: nat_lit 201 :: nat_lit 202 :: nat_lit 203 :: nat_lit 204 :: nat_lit 207 :: nat_lit 209 :: nat_lit 210 :: nat_lit 212 :: nat_lit 213 :: nat_lit 214 :: nat_lit 216 :: nat_lit 217 :: nat_lit 219 :: nat_lit 220 :: nat_lit 221 :: nat_lit 222 :: nat_lit 223 :: nat_lit 224 :: nat_lit 225 :: nat_lit 226 :: nat_lit 227 :: nat_lit 228 :: nat_lit 229 :: nat_lit 230 :: nat_lit 231 :: nat_lit 232 :: nat_lit 233 :: nat_lit 234 :: nat_lit 235 :: nat_lit 236 :: nat_lit 237 :: nat_lit 238 :: nat_lit 239 :: nat_lit 240 :: nat_lit 241 :: nat_lit 242 :: nat_lit 243 :: nat_lit 244 :: nat_lit 245 :: nat_lit 246 :: nat_lit 247 :: nat_lit 248 :: nat_lit 249 :: nat_lit 250 :: nat_lit 251 :: nat_lit 252 :: nat_lit 253 :: nat_lit 254 :: nat_lit 256 :: nat_lit 257 :: nat_lit 259 :: nat_lit 260 :: nat_lit 261 :: nat_lit 263 :: nat_lit 264 :: nat_lit 266 :: nat_lit 267 :: nat_lit 268 :: nat_lit 270 :: nat_lit 271 :: nat_lit 273 :: nat_lit 274 :: nat_lit 275 :: nat_lit 278 :: nat_lit 279 :: nat_lit 280 :: nat_lit 282 :: nat_lit 283 :: nat_lit 285 :: nat_lit 286 :: nat_lit 287 :: nat_lit 289 :: nat_lit 290 :: nat_lit 292 :: nat_lit 293 :: nat_lit 294 :: nat_lit 297 :: nat_lit 298 :: nat_lit 299 :: nat_lit 302 :: nat_lit 303 :: []) hk [100])) (fun s e => xl_of s (Bool.and_eq_true_iff.mp e).1) XL.keeps (by rfl) (by rfl) (by rfl) (fun s e => recFacts_of (Bool.and_eq_true_iff.mp e).2) (by rfl) (by first | assumption | decide +kernel) (by decide +kernel) ⟨rfl, rfl, rfl, rfl, rfl, by decide +kernel⟩ ?hw ?hc
  case hw => w_witness2
  case hc => exact X
  case hl => exact t_left
end Mine
end

section -- A1
open PySem PySem.W PySem.W.X PyProof.Rows
set_option Elab.async false
set_option maxRecDepth 100000
set_option maxHeartbeats 4000000
namespace Mine
/-- the around of a frame, at the depth and the units where the runs of the engine stand -/
abbrev Am (dp un : Nat) (fr : List Env) : Around := { handled := none, depth := dp, frames := some fr, guards := some [], units := un }
theorem am_up {α : Type} {M : Model} {dp un dp' un' : Nat} {fr : List Env} {t : Sem α} {Q : α → Shared → Prop} {E : Value → Shared → Prop} {s : Shared}
    (h : wpAny M (Am dp un fr) t Q E s) (hd : dp' ≤ dp) (hu : un' ≤ un) : wpAny M (Am dp' un' fr) t Q E s :=
  fun Γ p hΓ => h Γ p ⟨hΓ.1, Nat.le_trans hΓ.2.1 hd, hΓ.2.2.1, hΓ.2.2.2.1, Nat.le_trans hΓ.2.2.2.2 hu⟩
section
variable {h₀ h h' : Heap} {L : Addr} {m : Str → Option Value} {news nw : List (Addr × Obj)}
theorem mem_keep (D : Mem h h' [] nw) : ∀ b o, h.get? b = some o → h'.get? b = some o := fun b o e => D.keep b o e (by
  show (hasCls o || true) = true
  rw [Bool.or_true])
theorem mem_fr (D : Mem h h' [] nw) (F : Fr h₀ L h m) : Fr h₀ L h' m := F.keeps (mem_keep D)
theorem mem_news (D : Mem h h' [] nw) (F : Fr h₀ L h m) (N : News h₀ L h news) : News h₀ L h' (nw ++ news) := fun p hp => by
  rcases List.mem_append.mp hp with hp | hp
  · refine ⟨(D.nw p hp).1, fun e => ?_, ?_⟩
    · have q := (D.nw p hp).2
      obtain ⟨o, es, ep, hL, _⟩ := F.ns
      rw [e, hL] at q; cases q
    · cases q : h₀.get? p.1 with
      | none => rfl
      | some o => have z := (D.nw p hp).2; rw [F.keep _ _ q] at z; cases z
  · exact ⟨mem_keep D _ _ (N p hp).1, (N p hp).2⟩
theorem mem_apart (D : Mem h h' [] nw) (N : News h₀ L h news) : ∀ p ∈ nw, ∀ q ∈ news, p.1 ≠ q.1 := fun p hp q hq e => by
  have z := (D.nw p hp).2
  rw [e, (N q hq).1] at z; cases z
end
/-- a book: an object of class FreezableDefaultDict over list -/
abbrev fdd (dx : Addr) (es : Array DictEntry) (ep : Nat) : Obj := { cls := .ref 108, dict := some dx, data := .dict es ep, slots := #[some (.type "list")] }
section
local macro_rules | `(tactic| x_close) => `(tactic| (apply_assumption <;> first | assumption | rfl))
theorem fdd_make0 {w : World} {fr : List Env} {Q E : Value → Shared → Prop} {s : Shared} (X : (hd.heap_39 w.params).In s.heap)
    (hq : ∀ x dx h' t', Mem s.heap h' [] [(x, fdd dx #[] 0), (dx, dictOf [] 0)] → Q (.ref x) ⟨h', s.gens, s.drawn, t', s.os⟩) :
    wpAny (model Challenge.rw_in0191_01.row.prog w) (Am 400 100 fr) (call (.ref 108) [.type "list"]) Q E s := by
  x_run
end
theorem fdd_make {w : World} {dp un : Nat} {fr : List Env} {Q E : Value → Shared → Prop} {s : Shared} {h₀ : Heap} {L : Addr} {m : Str → Option Value} {news : List (Addr × Obj)}
    (X : (hd.heap_39 w.params).In h₀) (F : Fr h₀ L s.heap m) (N : News h₀ L s.heap news) (hdp : dp ≤ 400) (hun : un ≤ 100)
    (hq : ∀ x dx h' t', Fr h₀ L h' m → News h₀ L h' ((x, fdd dx #[] 0) :: (dx, dictOf [] 0) :: news) → dx < x → (∀ q ∈ news, x ≠ q.1) → (∀ q ∈ news, dx ≠ q.1) → Q (.ref x) { s with heap := h', toks := t' }) :
    wpAny (model Challenge.rw_in0191_01.row.prog w) (Am dp un fr) (call (.ref 108) [.type "list"]) Q E s := by
  refine am_up (fdd_make0 (X.keeps F.keep) fun x dx h' t' D => ?_) hdp hun
  have a := mem_apart D N
  have o := D.ord
  exact hq x dx h' t' (mem_fr D F) (mem_news D F N) (by simpa using o) (a _ (.head _)) (a _ (.tail _ (.head _)))
end Mine
end

section -- B1
open PySem PySem.W PySem.W.X PyProof.Rows PySem.Calls
set_option Elab.async false
set_option maxRecDepth 100000
set_option maxHeartbeats 4000000
namespace Mine
theorem f_getitem (P : Params) : findIn (hd.heap_39 P) (.ref 108) "__getitem__" = some (some (.builtin "dict.__getitem__")) := by kernel_rfl
theorem f_missing (P : Params) : findIn (hd.heap_39 P) (.ref 108) "__missing__" = some (some (.ref 98)) := by kernel_rfl
theorem f_noSeq (P : Params) : noSeq (hd.heap_39 P) 108 = true := by kernel_rfl
theorem f_subDict (P : Params) : mroIn (hd.heap_39 P) 108 (.type "dict") = some true := by kernel_rfl
theorem f_subOD (P : Params) : mroIn (hd.heap_39 P) 108 (.type "collections.OrderedDict") = some false := by kernel_rfl
theorem f_subDD (P : Params) : mroIn (hd.heap_39 P) 108 (.type "collections.defaultdict") = some true := by kernel_rfl
theorem f_t98 (P : Params) : typeIn (hd.heap_39 P) (.ref 98) = some (.type "function") := by kernel_rfl

section
variable {w : World} {A : Around} {E : Value → Shared → Prop} {h : Heap} {g : Array GenState} {d : Drawn} {tk : Nat} {os : OsState} {x dx : Addr} {es : Array DictEntry} {ep : Nat}
abbrev Pr : Program := Challenge.rw_in0191_01.row.prog
theorem type_fdd {M : Model} (hx : h.get? x = some (fdd dx es ep)) : Looks M h (typeOf (.ref x)) (.ref 108) := (Looks.ld hx).andThen .now
theorem inst_fdd {M : Model} (X : (hd.heap_39 w.params).In h) (hx : h.get? x = some (fdd dx es ep)) {t : Value} {b : Bool} (e : mroIn (hd.heap_39 w.params) 108 t = some b) : Looks M h (isInstance (.ref x) t) b :=
  (type_fdd hx).andThen (looks_mroIn X e)

section
variable {κ : Type} [DecidableEq κ] {knd : PySem.KeyKind Pr w κ} {k : κ} {key v : Value}
/-- the default is put under a key that the book has not got -/
theorem setdefault_fdd {R : Fin → Shared → Prop} (X : (hd.heap_39 w.params).In h) (hx : h.get? x = some (fdd dx es ep)) (hm : (x == sysModules) = false)
    (hkey : knd.is k key = true) (hk : KeysOf knd es) (hn : (es.findIdx? fun e => knd.is k e.key) = none) (hz : es.size ≤ sizeLine)
    (hq : ∀ h', h'.get? x = some (fdd dx (es.push ⟨knd.hash k, key, v⟩) (ep + 1)) → Heap.SameBut x h h' → R (.done (.ret v)) ⟨h', g, d, tk + 1, os⟩) :
    wpAny (model Pr w) A (Builtin.«dict.setdefault» ⟨[.ref x, key, v], []⟩) R E ⟨h, g, d, tk, os⟩ := by
  have t1 := type_fdd (M := model Pr w) hx
  have t2 := inst_fdd (M := model Pr w) X hx (f_subOD _)
  unfold Builtin.«dict.setdefault»
  refine wpAny_bind ?_
  unfold Builtin.Dict.keyAndDefault Builtin.Dict.notOrdered
  refine wpAny_bind ?_
  rw [if_pos (by decide)]
  refine wpAny_bind (t1.at ?_)
  rw [if_pos (by rfl)]
  refine wpAny_bind (t2.at ?_)
  refine wpAny_pure ?_
  show wpAny _ _ (pure (x, key, some v)) _ _ _
  refine wpAny_pure ?_
  show wpAny _ _ (if (x == sysModules) = true then _ else (dictSetDefault x key v >>= _)) _ _ _
  rw [if_neg (by rw [hm]; exact Bool.false_ne_true)]
  refine wpAny_bind ?_
  unfold dictSetDefault
  refine wpAny_holding (wpAny_bind (knd.pyHash hkey (wpAny_bind (wpAny_dictFind_of (s := ⟨h, g, d, tk + 1, os⟩) hkey hx rfl hk ?_))))
  rw [hn]
  refine wpAny_bind (wpAny_rule (wpAny_bind (wpAny_updateDictKeys (hz := hz) (s := ⟨h, g, d, tk + 1, os⟩) hx rfl (wpAny_pure (wpAny_pure (hq _ ?_ (Heap.SameBut.update ..)))))))
  exact Heap.get?_update_self _ hx rfl
end
end
end Mine
end

section -- B2
open PySem PySem.W PySem.W.X PyProof.Rows PySem.Calls
set_option Elab.async false
set_option maxRecDepth 100000
set_option maxHeartbeats 4000000
namespace Mine
section
local macro_rules | `(tactic| x_close) => `(tactic| (apply_assumption <;> first | assumption | rfl))
theorem list_borrowed0 {w : World} {fr : List Env} {Q E : Value → Shared → Prop} {s : Shared}
    (hq : ∀ l h' t', Mem s.heap h' [] [(l, W.listOf #[] 0)] → Q (.ref l) ⟨h', s.gens, s.drawn, t', s.os⟩) :
    wpAny (model Challenge.rw_in0191_01.row.prog w) (Am 400 100 fr) (callBorrowed (.type "list") []) Q E s := by
  x_run
theorem list_called0 {w : World} {fr : List Env} {Q E : Value → Shared → Prop} {s : Shared}
    (hq : ∀ l h' t', Mem s.heap h' [] [(l, W.listOf #[] 0)] → Q (.ref l) ⟨h', s.gens, s.drawn, t', s.os⟩) :
    wpAny (model Challenge.rw_in0191_01.row.prog w) (Am 400 100 fr) (call (.type "list") []) Q E s := by
  x_run
end
section
variable {w : World} {dp un : Nat} {fr : List Env} {E : Value → Shared → Prop} {h : Heap} {g : Array GenState} {d : Drawn} {tk : Nat} {os : OsState} {x dx : Addr} {es : Array DictEntry} {ep : Nat}
variable {κ : Type} [DecidableEq κ] {knd : PySem.KeyKind Pr w κ} {k : κ} {key v : Value}
theorem dmissing_fdd {R : Result → Shared → Prop} (X : (hd.heap_39 w.params).In h) (hx : h.get? x = some (fdd dx es ep)) (hm : (x == sysModules) = false) (hdp : dp ≤ 400) (hun : un + 8 ≤ 100)
    (hkey : knd.is k key = true) (hk : KeysOf knd es) (hn : (es.findIdx? fun e => knd.is k e.key) = none) (hz : es.size ≤ sizeLine)
    (hq : ∀ l h₁ h' t', Mem h h₁ [] [(l, W.listOf #[] 0)] → h'.get? x = some (fdd dx (es.push ⟨knd.hash k, key, .ref l⟩) (ep + 1)) → Heap.SameBut x h₁ h' → R (.ok (.ret (.ref l))) ⟨h', g, d, t', os⟩) :
    codeAny (model Pr w) (Am dp un fr) (.builtin "collections.defaultdict.__missing__" ⟨[.ref x, key], []⟩) R ⟨h, g, d, tk, os⟩ := by
  have e1 : entryFor table "collections.defaultdict.__missing__" = some Builtin.«collections.defaultdict.__missing__» := entryFor_of_tree (by kernel_rfl)
  have e2 : entryFor table "dict.setdefault" = some Builtin.«dict.setdefault» := entryFor_of_tree (by kernel_rfl)
  have p1 : plainId "collections.defaultdict.__missing__" = true := by decide +kernel
  have p2 : plainId "dict.setdefault" = true := by decide +kernel
  refine codeAny_builtin e1 ?_
  rw [Around.under_plainId p1]
  unfold Builtin.«collections.defaultdict.__missing__»
  refine wpAny_bind ?_
  show wpAny _ _ (pure (Value.ref x, key)) _ _ _
  refine wpAny_pure ?_
  refine wpAny_bind ?_
  unfold Builtin.Collections_defaultdict.factory?
  refine wpAny_bind (wpAny_bind (wpAny_loadPart hx (wpAny_pure ?_)))
  refine wpAny_pure ?_
  show wpAny _ _ (callOutOfASlot (.type "list") [] >>= _) _ _ _
  refine wpAny_bind ?_
  unfold callOutOfASlot
  refine wpAny_bind ?_
  show wpAny _ _ (pure true) _ _ _
  refine wpAny_pure ?_
  rw [if_pos rfl]
  refine am_up (dp := 400) (un := 100) (list_borrowed0 fun l h₁ t' D => ?_) hdp (by show un + 1 ≤ 100; omega)
  refine wpAny_pure ⟨plainId_quiet p2 _, ?_⟩
  refine codeAny_builtin e2 ?_
  rw [Around.under_plainId p2]
  refine setdefault_fdd (X.keeps (mem_keep D)) (mem_keep D _ _ hx) hm hkey hk hn hz fun h' hx' hs => ?_
  exact hq l h₁ h' _ D hx' hs
end
end Mine
end

section -- C1
open PySem PySem.W PySem.W.X PyProof.Rows PySem.Calls
set_option Elab.async false
set_option maxRecDepth 100000
set_option maxHeartbeats 1000000
namespace Mine
/-- the C method of defaultdict, bound to a book -/
abbrev bmiss (x : Addr) : Obj := { cls := .type "builtin_function_or_method", data := .fields #[.builtin "collections.defaultdict.__missing__", .ref x] }
section
local macro_rules | `(tactic| x_close) => `(tactic| (apply_assumption <;> first | assumption | rfl))
theorem md_get0 {w : World} {fr : List Env} {Q E : Value → Shared → Prop} {s : Shared} {x dx : Addr} {es : Array DictEntry} {ep : Nat} (X : (hd.heap_39 w.params).In s.heap)
    (hx : s.heap.get? x = some ⟨.ref 108, some dx, .dict es ep, #[some (.type "list")]⟩)
    (hq : ∀ b h' t', Mem s.heap h' [] [(b, bmiss x)] → Q (.ref b) ⟨h', s.gens, s.drawn, t', s.os⟩) :
    wpAny (model Challenge.rw_in0191_01.row.prog w) (Am 400 100 fr) (call (.builtin "method_descriptor.__get__") [.builtin "collections.defaultdict.__missing__", .ref x, .ref 108]) Q E s := by
  x_run
theorem getattr_dflt0 {w : World} {fr : List Env} {Q E : Value → Shared → Prop} {s : Shared} {x dx : Addr} {es : Array DictEntry} {ep : Nat} {tk : Tok} {b : Value} (X : (hd.heap_39 w.params).In s.heap)
    (hx : s.heap.get? x = some ⟨.ref 108, some dx, .dict es ep, #[some (.type "list")]⟩) (hdx : s.heap.get? dx = some ⟨.type "dict", none, .dict #[] 0, #[]⟩)
    (hq : ∀ nw h' t', Mem s.heap h' [] nw → Q b ⟨h', s.gens, s.drawn, t', s.os⟩) :
    wpAny (model Challenge.rw_in0191_01.row.prog w) (Am 400 100 fr) (call (.builtin "getattr") [.ref x, .str (Str.ofString "_frozen") tk, b]) Q E s := by
  x_run
theorem getattr_own0 {w : World} {fr : List Env} {Q E : Value → Shared → Prop} {s : Shared} {x dx f : Addr} {es : Array DictEntry} {ep : Nat} {tk : Tok} {b : Value} {hh : Int} {tf : Tok} (X : (hd.heap_39 w.params).In s.heap)
    (hx : s.heap.get? x = some ⟨.ref 108, some dx, .dict es ep, #[some (.type "list")]⟩) (hdx : s.heap.get? dx = some ⟨.type "dict", none, .dict #[⟨hh, .str (Str.ofString "_frozen") tf, .ref f⟩] 1, #[]⟩)
    (hq : ∀ t', Q (.ref f) ⟨s.heap, s.gens, s.drawn, t', s.os⟩) :
    wpAny (model Challenge.rw_in0191_01.row.prog w) (Am 400 100 fr) (call (.builtin "getattr") [.ref x, .str (Str.ofString "_frozen") tk, b]) Q E s := by
  x_run
end
theorem f_along (P : Params) : alongIn (hd.heap_39 P) "__missing__" [.type "collections.defaultdict", .type "dict", .type "object"] = some (some (.builtin "collections.defaultdict.__missing__")) := by kernel_rfl
theorem f_stat (P : Params) : nsIn (hd.heap_39 P) cStatics "thirdparty.any" = some none := by kernel_rfl
theorem f_clsM (P : Params) : (clsIn (hd.heap_39 P) 108).map (·.mro) = some [.ref 108, .type "collections.defaultdict", .type "dict", .type "object"] := by kernel_rfl
theorem f_cls (P : Params) : ∃ cd, clsIn (hd.heap_39 P) 108 = some cd ∧ cd.mro = [.ref 108, .type "collections.defaultdict", .type "dict", .type "object"] := by
  have q := f_clsM P
  cases hc : clsIn (hd.heap_39 P) 108 with
  | none => rw [hc] at q; cases q
  | some cd => rw [hc] at q; exact ⟨cd, rfl, Option.some.inj q⟩
theorem md_type : typeOf (.builtin "collections.defaultdict.__missing__") = pure (.type "method_descriptor") := by show builtinType _ = _; rw [builtinType_eq_fast]; kernel_rfl
theorem md_look : typeLookup (.type "method_descriptor") "__get__" = pure (some (.builtin "method_descriptor.__get__")) := by rw [typeLookup_type, builtinLookup_eq_fast]; kernel_rfl
end Mine
end

section -- C2
open PySem PySem.W PySem.W.X PyProof.Rows PySem.Calls
set_option Elab.async false
set_option maxRecDepth 100000
set_option maxHeartbeats 400000
namespace Mine
section
variable {w : World} {dp un : Nat} {fr : List Env} {E : Value → Shared → Prop} {h : Heap} {g : Array GenState} {d : Drawn} {t : Nat} {os : OsState} {x dx so : Addr} {es : Array DictEntry} {ep : Nat}
theorem super_ga {tk : Tok} {Q : Fin → Shared → Prop} (X : (hd.heap_39 w.params).In h) (hx : h.get? x = some (fdd dx es ep)) (hxC : x ≠ 108) (hdp : dp ≤ 400) (hun : un ≤ 100)
    (hso : h.get? so = some { cls := .type "super", dict := none, data := .fields #[.ref 108, .ref x, .ref 108], slots := #[] })
    (hq : ∀ b h' t', Mem h h' [] [(b, bmiss x)] → Q (.done (.ret (.ref b))) ⟨h', g, d, t', os⟩) :
    wpAny (model Pr w) (Am dp un fr) (Builtin.«super.__getattribute__» ⟨[.ref so, .str "__missing__" tk], []⟩) Q E ⟨h, g, d, t, os⟩ := by
  obtain ⟨cd, hc, hmro⟩ := f_cls w.params
  have hno : Looks (model Pr w) h (opaqueClassAbove (.ref 108)) none := looks_opaque X (f_stat _)
  have hC : Looks (model Pr w) h (mroOf (.ref 108)) cd.mro := fun A Q E s k q => wpAny_bind ((looks_clsIn X hc) A _ E s k (wpAny_pure q))
  have hl : (cd.mro.dropWhile (· != .ref 108)).drop 1 = [.type "collections.defaultdict", .type "dict", .type "object"] := by rw [hmro]; rfl
  have hne : (Value.ref x == Value.ref 108) = false := by simp [hxC]
  have hdt : ({ cls := .type "super", dict := none, data := .fields #[.ref 108, .ref x, .ref 108], slots := #[] } : Obj).data = .fields #[.ref 108, .ref x, .ref 108] := rfl
  have f0 : (#[.ref 108, .ref x, .ref 108] : Array Value)[0]? = some (.ref 108) := rfl
  have f1 : (#[.ref 108, .ref x, .ref 108] : Array Value)[1]? = some (.ref x) := rfl
  have f2 : (#[.ref 108, .ref x, .ref 108] : Array Value)[2]? = some (.ref 108) := rfl
  have hn : (("__missing__" : Str) == ("__class__" : Str)) = false := by decide +kernel
  have hT : Looks (model Pr w) h (typeOf (.builtin "collections.defaultdict.__missing__")) (.type "method_descriptor") := Looks.of_pure md_type
  have hG : Looks (model Pr w) h (typeLookup (.type "method_descriptor") "__get__") (some (.builtin "method_descriptor.__get__")) := Looks.of_pure md_look
  unfold Builtin.«super.__getattribute__»
  iterate 22 (first
    | (with_reducible refine wpAny_field hso hdt f0 ?_) | (with_reducible refine wpAny_field hso hdt f1 ?_) | (with_reducible refine wpAny_field hso hdt f2 ?_)
    | (with_reducible refine ks_wpAny_notOpaque hno ?_)
    | (with_reducible refine Looks.at hC ?_; rw [hl])
    | (with_reducible refine Looks.at hT ?_)
    | (with_reducible refine Looks.at hG ?_)
    | (simp only [hn, hne, Bool.or_false, Bool.false_eq_true, if_false])
    | wp_step
    | dsimp only | skip)
  have hO : Looks (model Pr w) h (classOwn (.type "collections.defaultdict") "__missing__") (some (.builtin "collections.defaultdict.__missing__")) := looks_ownIn X (by kernel_rfl)
  rw [List.forIn_cons]
  refine wpAny_bind (wpAny_bind (wpAny_bind (Looks.at hO ?_)))
  refine wpAny_bind (Looks.at hT ?_)
  refine wpAny_bind (Looks.at hG ?_)
  refine wpAny_bind (wpAny_holding ?_)
  refine am_up (dp := 400) (un := 100) (md_get0 X hx fun b h' t' D => ?_) hdp hun
  exact wpAny_bind (wpAny_pure (wpAny_pure (wpAny_pure (wpAny_pure (hq b h' t' D)))))
end
end Mine
end

section -- C3
open PySem PySem.W PySem.W.X PyProof.Rows PySem.Calls
set_option Elab.async false
set_option maxRecDepth 100000
set_option maxHeartbeats 1000000
namespace Mine
section
variable {w : World} {dp un : Nat} {fr : List Env} {E : Value → Shared → Prop} {h : Heap} {g : Array GenState} {d : Drawn} {t : Nat} {os : OsState} {x dx so : Addr} {es : Array DictEntry} {ep : Nat}
theorem super_getattr {Q : Value → Shared → Prop} (X : (hd.heap_39 w.params).In h) (hx : h.get? x = some (fdd dx es ep)) (hxC : x ≠ 108) (hdp : dp ≤ 400) (hun : un + 1 ≤ 100)
    (hso : h.get? so = some { cls := .type "super", dict := none, data := .fields #[.ref 108, .ref x, .ref 108], slots := #[] })
    (hq : ∀ b h' t', Mem h h' [] [(b, bmiss x)] → Q (.ref b) ⟨h', g, d, t', os⟩) :
    wpAny (model Pr w) (Am dp un fr) (getAttr (.ref so) "__missing__" true) Q E ⟨h, g, d, t, os⟩ := by
  have hlk := F.ks_slot_super_ga.lookup
  have hT : ∀ t', (⟨h, g, d, t', os⟩ : Shared).TypeIs (.ref so) "super" := fun _ => ⟨_, hso, rfl⟩
  unfold getAttr getAttrBy
  refine wpAny_bind (wpAny_mkText (wpAny_holding (wpAny_bind (wpAny_typeOf (hT _) (wpAny_bind (wpAny_of_eq hlk ?_))))))
  show wpAny _ _ (getAttrByItsOwn (.ref so) (.str "__missing__" t) (.type "super") (.builtin "super.__getattribute__") true true) _ _ _
  unfold getAttrByItsOwn hookBefore callGetattribute boundAndCalled
  refine wpAny_bind (wpAny_of_eq (show (if onTheHeap (.type "super") then typeLookup (.type "super") "__getattr__" else pure none) = pure none from rfl) ?_)
  refine wpAny_bind (wpAny_attempt (wpAny_holding ?_))
  show wpAny _ _ (bindSpecial (.builtin "super.__getattribute__") (.ref so) >>= _) _ _ _
  refine wpAny_bind (wpAny_of_eq (F.ks_slot_super_ga.bind _) ?_)
  refine wpAny_mono (Q := fun v s' => ∃ b h' t', Mem h h' [] [(b, bmiss x)] ∧ v = .ref b ∧ s' = ⟨h', g, d, t', os⟩) (E := fun _ _ => False)
    (wpAny_call_entry F.ks_slot_super_ga (hT _) F.ks_entry_super_ga (super_ga (un := un + 1) X hx hxC hdp hun hso fun b h' t' D => ⟨_, rfl, b, h', t', D, rfl, rfl⟩) (F.ks_gaArgs_super _ _)) (fun v s' hv => ?_) fun _ _ z => z.elim
  obtain ⟨b, h', t', D, rfl, rfl⟩ := hv
  exact wpAny_pure (hq b h' t' D)
end
end Mine
end

section -- C4
open PySem PySem.W PySem.W.X PyProof.Rows PySem.Calls
set_option Elab.async false
set_option maxRecDepth 100000
set_option maxHeartbeats 1000000
namespace Mine
/-- a ledger in which the object at x is another one -/
def setAt (x : Addr) (o : Obj) (l : List (Addr × Obj)) : List (Addr × Obj) := l.map fun p => if p.1 = x then (x, o) else p
theorem news_setAt {h₀ h h' : Heap} {L x : Addr} {o o' : Obj} {news : List (Addr × Obj)} (N : News h₀ L h news) (hx : (x, o) ∈ news) (hs : Heap.SameBut x h h') (ho : h'.get? x = some o') : News h₀ L h' (setAt x o' news) := by
  intro p hp
  obtain ⟨q, hq, rfl⟩ := List.mem_map.mp hp
  by_cases e : q.1 = x
  · rw [if_pos e]; exact ⟨ho, (N _ hx).2⟩
  · rw [if_neg e]; exact ⟨(hs.2 q.1 e).trans (N q hq).1, (N q hq).2⟩
theorem mem_setAt {x : Addr} {o o' : Obj} {news : List (Addr × Obj)} (hx : (x, o) ∈ news) : (x, o') ∈ setAt x o' news := List.mem_map.mpr ⟨_, hx, if_pos rfl⟩
theorem mem_setAt_ne {x a : Addr} {o ob : Obj} {news : List (Addr × Obj)} (h : (a, ob) ∈ news) (hn : a ≠ x) : (a, ob) ∈ setAt x o news := List.mem_map.mpr ⟨_, h, if_neg hn⟩
theorem setAt_adr {x : Addr} {o : Obj} {news : List (Addr × Obj)} {p : Addr × Obj} (h : p ∈ setAt x o news) : ∃ q ∈ news, q.1 = p.1 := by
  obtain ⟨q, hq, rfl⟩ := List.mem_map.mp h
  by_cases e : q.1 = x
  · exact ⟨q, hq, by rw [if_pos e, e]⟩
  · exact ⟨q, hq, by rw [if_neg e]⟩
theorem f_subMod (P : Params) : mroIn (hd.heap_39 P) 108 (.type "module") = some false := by kernel_rfl
theorem f_t108 (P : Params) : typeIn (hd.heap_39 P) (.ref 108) = some (.type "type") := by kernel_rfl
theorem f_clsQ (P : Params) : (clsIn (hd.heap_39 P) 108).map (·.qualname) = some "FreezableDefaultDict" := by kernel_rfl
theorem ca_one (a b : Value) : Bind.checkArgs "collections.defaultdict.__missing__" ⟨.oneArg, s!"{("FreezableDefaultDict" : Str).toString}.{Bind.lastOf "collections.defaultdict.__missing__"}", "__missing__", .self, [⟨"object", .posOnly, true⟩]⟩ ⟨[a, b], []⟩ = pure () := by kernel_rfl
theorem row_bmiss : Manifest.signature? "collections.defaultdict.__missing__" = some ⟨.oneArg, "defaultdict.__missing__", "__missing__", .self, [⟨"object", .posOnly, true⟩]⟩ := by kernel_rfl
theorem kind_bmiss : builtinKind "collections.defaultdict.__missing__" = some .method := by decide +kernel
theorem va_bmiss : Manifest.varargsMethods.contains "collections.defaultdict.__missing__" = false := by decide +kernel
theorem check_bmiss {w : World} {A : Around} {E : Value → Shared → Prop} {s : Shared} {x dx : Addr} {es : Array DictEntry} {ep : Nat} {key : Value} {Q : Unit → Shared → Prop} (X : (hd.heap_39 w.params).In s.heap) (hx : s.heap.get? x = some (fdd dx es ep)) (hq : Q () s) :
    wpAny (model Pr w) A (checkBoundCall "collections.defaultdict.__missing__" ⟨[.ref x, key], []⟩) Q E s := by
  obtain ⟨h, g, d, t, os⟩ := s
  obtain ⟨cd, hc, hcq⟩ : ∃ cd, clsIn (hd.heap_39 w.params) 108 = some cd ∧ cd.qualname = ("FreezableDefaultDict" : Str) := by
    have q := f_clsQ w.params
    cases hc : clsIn (hd.heap_39 w.params) 108 with
    | none => rw [hc] at q; cases q
    | some cd => rw [hc] at q; exact ⟨cd, rfl, Option.some.inj q⟩
  have t1 := type_fdd (M := model Pr w) hx
  have t2 := inst_fdd (M := model Pr w) X hx (f_subMod _)
  have t3 : Looks (model Pr w) h (isType (.ref x)) false := fun A Q E s k q => wpAny_bind (wpAny_load (k _ _ hx) (wpAny_pure q))
  have t4 : Looks (model Pr w) h (classData 108) cd := looks_clsIn X hc
  have t5 : Looks (model Pr w) h (typeOf (.ref 108)) (.type "type") := looks_typeIn X (f_t108 _)
  unfold checkBoundCall
  simp only [row_bmiss, kind_bmiss, va_bmiss]
  refine wpAny_bind (t2.at ?_)
  refine wpAny_bind (t3.at ?_)
  rw [if_neg Bool.false_ne_true]
  refine wpAny_bind (t1.at ?_)
  refine wpAny_bind (t4.at ?_)
  refine wpAny_bind (t5.at ?_)
  rw [hcq]
  rw [if_pos (by rfl)]
  refine wpAny_of_eq (ca_one _ _) ?_
  exact hq
theorem call_bmiss {w : World} {dp un : Nat} {fr : List Env} {E : Value → Shared → Prop} {s : Shared} {b x dx : Addr} {es : Array DictEntry} {ep : Nat} {key : Value} {Q : Value → Shared → Prop} {κ : Type} [DecidableEq κ] {knd : PySem.KeyKind Pr w κ} {k : κ}
    (X : (hd.heap_39 w.params).In s.heap) (hx : s.heap.get? x = some (fdd dx es ep)) (hb : s.heap.get? b = some (bmiss x)) (hm : (x == sysModules) = false) (hdp : dp ≤ 400) (hun : un + 8 ≤ 100)
    (hkey : knd.is k key = true) (hk : KeysOf knd es) (hn : (es.findIdx? fun e => knd.is k e.key) = none) (hz : es.size ≤ sizeLine)
    (hq : ∀ l h₁ h' t', Mem s.heap h₁ [] [(l, W.listOf #[] 0)] → h'.get? x = some (fdd dx (es.push ⟨knd.hash k, key, .ref l⟩) (ep + 1)) → Heap.SameBut x h₁ h' → Q (.ref l) ⟨h', s.gens, s.drawn, t', s.os⟩) :
    wpAny (model Pr w) (Am dp un fr) (call (.ref b) [key]) Q E s := by
  have p1 : plainId "collections.defaultdict.__missing__" = true := by decide +kernel
  refine wpAny_call (codeAny_of_tree ?_)
  show wpAny _ (Around.in1 (Am dp un fr)) (callAny (.ref b) _) _ _ _
  unfold callAny
  refine wpAny_bind (wpAny_load hb ?_)
  show wpAny _ _ (checkBoundCall "collections.defaultdict.__missing__" ⟨[.ref x, key], []⟩ >>= fun _ => again (.builtin "collections.defaultdict.__missing__" ⟨[.ref x, key], []⟩)) _ _ _
  refine wpAny_bind (check_bmiss X hx ?_)
  refine wpAny_pure ⟨plainId_quiet p1 _, ?_⟩
  obtain ⟨h, g, d, t, os⟩ := s
  exact dmissing_fdd X hx hm hdp hun hkey hk hn hz hq
theorem eval_CallCall (f0 : Expr) (args0 kw0 p0 args kws pos env) : eval (.Call (.Call f0 args0 kw0 p0) args kws pos) env = (do
    callWith pos (← eval (.Call f0 args0 kw0 p0) env) [] (backTo pos (starEach args env)) (backToKw pos (keywordEach kws env))) := rfl
section
variable {M : Model} {A : Around} {c : Code} {E : Value → Shared → Prop} {s : Shared}
theorem at_spliced {x : Sem Value} {rest : List (Bool × Sem Value)} {Q : List Value → Shared → Prop}
    (h : _root_.PySem.wpAt M A c x (fun v s₁ => _root_.PySem.wpAt M A c (_root_.PySem.spliced rest) (fun vs s₂ => Q (v :: vs) s₂) E s₁) E s) : _root_.PySem.wpAt M A c (_root_.PySem.spliced ((false, x) :: rest)) Q E s := by
  rw [_root_.PySem.spliced]
  refine _root_.PySem.wpAt_bind (_root_.PySem.wpAt_mono h (fun v s₁ h₁ => ?_) fun _ _ x => x)
  simp only [Bool.false_eq_true, if_false]
  exact _root_.PySem.wpAt_bind (_root_.PySem.wpAt_of_wpAny (wpAny_pure (_root_.PySem.wpAt_bind (ks_wpAt_holding (_root_.PySem.wpAt_mono h₁ (fun vs s₂ h₂ => _root_.PySem.wpAt_of_wpAny (wpAny_pure h₂)) fun _ _ x => x)))))
theorem at_callWith {pos : Pos} {id : String} {x : Sem Value} {rest : List (Bool × Sem Value)} {Q : Value → Shared → Prop} (hplain : rest.any (·.1) = false)
    (h : _root_.PySem.wpAt M A c (_root_.PySem.spliced ((false, x) :: rest)) (fun vs s₁ => wpAny M A (call (.builtin id) vs) Q E s₁) E s) :
    _root_.PySem.wpAt M A c (callWith pos (.builtin id) [] ((false, x) :: rest) []) Q E s := by
  unfold callWith
  refine _root_.PySem.wpAt_bind (ks_wpAt_holding ?_)
  unfold evalArgs
  show _root_.PySem.wpAt M A c (_root_.PySem.spliced ((false, x) :: rest) >>= _) _ E s
  refine _root_.PySem.wpAt_bind (_root_.PySem.wpAt_mono h (fun vs s₁ h₁ => ?_) fun _ _ x => x)
  refine ks_wpAt_holding ?_
  refine _root_.PySem.wpAt_bind (_root_.PySem.wpAt_of_wpAny (wpAny_pure (_root_.PySem.wpAt_bind (_root_.PySem.wpAt_of_wpAny (wpAny_pure (_root_.PySem.wpAt_of_wpAny (wpAny_pure ?_)))))))
  refine _root_.PySem.wpAt_bind (_root_.PySem.wpAt_of_wpAny (wpAny_standAt ?_))
  have e : ((((false, x) :: rest).any (·.1)) || (([] : List (Option Str × Sem Value)).any (·.1.isNone))) = false := by
    rw [List.any_cons, hplain]; rfl
  simp only [e]
  refine _root_.PySem.wpAt_bind (_root_.PySem.wpAt_of_wpAny (wpAny_pure ?_))
  refine _root_.PySem.wpAt_of_wpAny (wpAny_bind (wpAny_mono h₁ (fun r s₂ hr => ?_) fun _ _ x => x))
  exact wpAny_bind (wpAny_holding (wpAny_point (wpAny_pure hr)))
theorem at_more {env : Env} {e : Expr} {rest : List Expr} {pos : Pos} {Q : List Value → Shared → Prop}
    (h : _root_.PySem.wpAt M A c (eval e env) (fun v s₁ => _root_.PySem.wpAt M A c (_root_.PySem.spliced (backTo pos (starEach rest env))) (fun vs s₂ => Q (v :: vs) s₂) E s₁) E s)
    (he : starEach (e :: rest) env = (false, eval e env) :: starEach rest env := by rfl) : _root_.PySem.wpAt M A c (_root_.PySem.spliced (backTo pos (starEach (e :: rest) env))) Q E s := by
  rw [he]; exact at_spliced h
theorem at_none {env : Env} {pos : Pos} {Q : List Value → Shared → Prop} (h : Q [] s) : _root_.PySem.wpAt M A c (_root_.PySem.spliced (backTo pos (starEach [] env))) Q E s := _root_.PySem.wpAt_of_wpAny (wpAny_pure h)
theorem at_callE {env : Env} {e : Expr} {rest : List Expr} {pos pos' : Pos} {id : String} {Q : Value → Shared → Prop} (hplain : (backTo pos (starEach rest env)).any (·.1) = false)
    (h : _root_.PySem.wpAt M A c (_root_.PySem.spliced (backTo pos (starEach (e :: rest) env))) (fun vs s₁ => wpAny M A (call (.builtin id) vs) Q E s₁) E s)
    (he : starEach (e :: rest) env = (false, eval e env) :: starEach rest env := by rfl) :
    _root_.PySem.wpAt M A c (callWith pos' (.builtin id) [] (backTo pos (starEach (e :: rest) env)) []) Q E s := by
  rw [he] at h ⊢; exact at_callWith hplain h
theorem callW_obj {env : Env} {e : Expr} {rest : List Expr} {pos : Pos} {f : Value} {first : List Value} {P : Heap → Prop} {Q : Value → Shared → Prop} (hk : ∀ h, P h → Looks M h (keeperOf f) .machine)
    (h : wpAny M A (_root_.PySem.spliced (backTo pos (starEach (e :: rest) env))) (fun vs s₁ => P s₁.heap ∧ wpAny M A (call f (first ++ vs)) Q E s₁) E s)
    (he : starEach (e :: rest) env = (false, eval e env) :: starEach rest env := by rfl) (hplain : (backTo pos (starEach rest env)).any (·.1) = false := by rfl) :
    wpAny M A (callWith pos f first (backTo pos (starEach (e :: rest) env)) []) Q E s := by
  rw [he] at h ⊢
  exact callWith_of (P := P) (by show ((false || (backTo pos (starEach rest env)).any (·.1)) || false) = false; rw [hplain]; rfl) (fun h hp => ⟨.machine, .inr (.inl rfl), hk h hp⟩) (evalArgs_plain h)
end
theorem missing_new : ∀ {w : World} {dp un : Nat} {cn : Str} {cs : Scope} {a : Addr} {ccd : Value} {cl : List (Str × Addr)} {outer : List Env} {A₀ : Around} {base h₀ : Heap} {L : Addr} {m mg mb : Str → Option Value} {s : Shared} {Q E : Value → Shared → Prop} {news : List (Addr × Obj)} {p : Program} {loose : List Str} {mean : ExcName → Option Value} {κ : Type} [DecidableEq κ] {knd : PySem.KeyKind Pr w κ} {k : κ} {key : Value} {x dx : Addr} {es : Array DictEntry} {ep : Nat},
    Below A₀ base outer h₀ → Fr h₀ L s.heap m → (hd.heap_39 w.params).In h₀ → News h₀ L s.heap news → Top p loose mean mg mb h₀ → cs.kind = .function →
    dp + 1 ≤ 400 → un + 20 ≤ 100 → (x, fdd dx es ep) ∈ news → (dx, dictOf [] 0) ∈ news → (x == sysModules) = false → knd.is k key = true → KeysOf knd es → (es.findIdx? fun e => knd.is k e.key) = none → es.size ≤ sizeLine →
    (∀ l nw h' t', Fr h₀ L h' m → News h₀ L h' (nw ++ setAt x (fdd dx (es.push ⟨knd.hash k, key, .ref l⟩) (ep + 1)) news) → (l, W.listOf #[] 0) ∈ nw → (∀ p ∈ nw, ∀ q ∈ news, p.1 ≠ q.1) → Q (.ref l) { s with heap := h', toks := t' }) →
    wpAny (model Challenge.rw_in0191_01.row.prog w) (ktrTop dp un (some []) cn cs L a ccd cl outer) (call (.ref 98) [.ref x, key]) Q E s := by
  k_fill
  intro w dp un cn cs a ccd cl outer A₀ base h₀ L m mg mb s Q E news p loose mean κ _ knd k key x dx es ep B F X N T hk hdp hun hx hdx hm hkey hks hn hz hq
  refine wpAny_call ?_
  refine' ks_code_super ?k1 ?k2 ?k3 ?k4 ?k5 ?kA ?kF ?kK ?k6 ?k7 ?k8 ?k9 ?kB ?_ ?c1 ?c2 ?c3 ?c4
  case kA => exact rfl
  case kF => exact rfl
  case kK => assumption
  case k1 => k_asm
  case k2 => k_asm
  case k3 => k_asm
  case k4 => k_asm
  case k5 => k_asm
  case k6 => k_is
  case k7 => k_is
  case k8 => show dp < 1000; omega
  case k9 => exact BindsTo.of_eq rfl
  case kB => exact locs rfl
  case c1 => decide
  case c2 => exact rfl
  case c3 => exact rfl
  case c4 => exact rfl
  intro g L' h₁ FG F' N' B' X' T' l1
  dsimp only
  refine ks_wpAt_execs_cons (ks_wpAt_Return_some ?_)
  rw [eval_CallCall]
  refine PySem.wpAt_bind ?_
  rw [arm_eval_Call_Name']
  refine PySem.wpAt_bind (PySem.wpAt_of_wpAny ?_)
  walk1
  refine at_callE (by rfl) ?_
  refine at_more (PySem.wpAt_of_wpAny ?_)
  walk1
  refine at_more (PySem.wpAt_of_wpAny ?_)
  walk1
  refine at_more ?_
  rw [arm_eval_Attribute]
  refine PySem.wpAt_bind ?_
  have hxh := (N' _ hx).1
  have hdh := (N' _ hdx).1
  have I : W.InstAt h₁ x (fdd dx es ep) 108 (some (dictOf [] 0)) := ⟨hxh, rfl, rfl, hdh⟩
  refine ks_node (by k_asm) (by k_asm) (by k_asm) (by k_asm) (by k_is) (by rfl) (by rfl) (by exact I) (by k_is) (by rfl) (by first | rfl | decide +kernel) (by k_is) (by k_is) (by k_is) (by k_is) (by decide) (by rfl) (by rfl) (by rfl) (by rfl) (by decide +kernel) (by first | boot_by_name | rfl | kernel_rfl) ?_
  intro so h₂ F₂ N₂ l₂
  refine PySem.wpAt_of_wpAny ?_
  obtain ⟨cd, hcd, _⟩ := f_cls w.params
  have hxC : x ≠ 108 := ks_ne (X'.keeps F'.keep) I hcd
  have hx₂ : h₂.get? x = some (fdd dx es ep) := (N₂ _ (.tail _ hx)).1
  refine wpAny_bind (wpAny_standAt (wpAny_bind (wpAny_holding ?_)))
  refine super_getattr (dp := dp + 1) (un := un + 3) (X'.keeps F₂.keep) hx₂ hxC (by omega) (by omega) (N₂ _ (.head _)).1 fun b h₃ t₃ D₃ => ?_
  have F₃ := mem_fr D₃ F₂
  have N₃ := mem_news D₃ F₂ N₂
  refine wpAny_bind (wpAny_letTemporaryGo (wpAny_pure ?_))
  refine at_none ?_
  have hx₃ := (N₃ _ (.tail _ (.tail _ hx))).1
  have hdx₃ := (N₃ _ (.tail _ (.tail _ hdx))).1
  refine am_up (dp := 400) (un := 100) (getattr_dflt0 (X'.keeps F₃.keep) hx₃ hdx₃ fun nw h₄ t₄ D₄ => ?_) (by show dp + 1 ≤ 400; omega) (by show un + 3 ≤ 100; omega)
  have F₄ := mem_fr D₄ F₃
  have N₄ := mem_news D₄ F₃ N₃
  have X₄ := X'.keeps F₄.keep
  have a₃ := mem_apart D₃ N₂
  have a₄ := mem_apart D₄ N₃
  have hb₄ : h₄.get? b = some (bmiss x) := (N₄ _ (List.mem_append_right _ (.head _))).1
  have hx₄ : h₄.get? x = some (fdd dx es ep) := (N₄ _ (List.mem_append_right _ (.tail _ (.tail _ hx)))).1
  refine PySem.wpAt_of_wpAny ?_
  refine callW_obj (P := fun h => h = h₄) (fun h e => ?_) ?_
  · subst e
    exact (Looks.ld hb₄).andThen .now
  refine spliced_more ?_
  walk1
  refine spliced_none ⟨rfl, ?_⟩
  refine call_bmiss (knd := knd) (dp := dp + 1) (un := un + 3) X₄ hx₄ hb₄ hm (by omega) (by omega) hkey hks hn hz fun l h₅ h₆ t₆ D₅ hx₆ hs₆ => ?_
  have F₅ := mem_fr D₅ F₄
  have N₅ := mem_news D₅ F₄ N₄
  have a₅ := mem_apart D₅ N₄
  have hxm := N₅ _ (List.mem_append_right _ (List.mem_append_right _ (.tail _ (.tail _ hx))))
  have F₆ : Fr g L' h₆ _ := F₅.change hs₆ hxm.2.1 hxm.2.2
  have N₆ := news_setAt N₅ (List.mem_append_right _ (List.mem_append_right _ (.tail _ (.tail _ hx)))) hs₆ hx₆
  refine leaveK_ F₆ N₆ fun F₇ N₇ => ?_
  have up : ∀ q ∈ news, q ∈ nw ++ ([(b, bmiss x)] ++ (so, ks_superObj 108 x 108) :: news) := fun q hq => List.mem_append_right _ (.tail _ (.tail _ hq))
  have hl : ∀ q ∈ news, l ≠ q.1 := fun q hq => a₅ _ (.head _) q (up q hq)
  refine hq l [(l, W.listOf #[] 0)] h₆ _ F₇ (cb_drop N₇ fun p hp => ?_) (.head _) fun p hp q hq' => ?_
  · rcases List.mem_append.mp hp with hp | hp
    · rw [List.mem_singleton.mp hp]
      exact mem_setAt_ne (List.mem_append_left _ (.head _)) (hl _ hx)
    · obtain ⟨q, hq', rfl⟩ := List.mem_map.mp hp
      exact List.mem_map.mpr ⟨q, List.mem_append_right _ (up q hq'), rfl⟩
  · rw [List.mem_singleton.mp hp]; exact hl q hq'
end Mine
end

section -- F1
open PySem PySem.W PySem.W.X PyProof.Rows PySem.Calls
set_option Elab.async false
set_option maxRecDepth 100000
set_option maxHeartbeats 4000000
namespace Mine
theorem inst_news {h₀ h : Heap} {L x dx : Addr} {news : List (Addr × Obj)} {es : Array DictEntry} {ep : Nat} {od : Obj} (N : News h₀ L h news) (h1 : (x, fdd dx es ep) ∈ news) (h2 : (dx, od) ∈ news) : W.InstAt h x (fdd dx es ep) 108 (some od) := ⟨(N _ h1).1, rfl, rfl, (N _ h2).1⟩
/-- all of a ledger but the entries at d -/
def offL (d : Addr) (news : List (Addr × Obj)) : List (Addr × Obj) := news.filter fun p => decide (p.1 ≠ d)
theorem offL_ne {d : Addr} {news : List (Addr × Obj)} : ∀ p ∈ offL d news, p.1 ≠ d := fun p hp => by simpa using (List.mem_filter.mp hp).2
theorem news_offL {h₀ h : Heap} {L d : Addr} {o : Obj} {news : List (Addr × Obj)} (N : News h₀ L h news) (hm : (d, o) ∈ news) : News h₀ L h ((d, o) :: offL d news) := cb_drop N fun p hp => by
  rcases List.mem_cons.mp hp with rfl | hp
  · exact hm
  · exact (List.mem_filter.mp hp).1
theorem setAt_offL {d : Addr} {o' : Obj} {news : List (Addr × Obj)} {p : Addr × Obj} (hp : p ∈ setAt d o' news) : p ∈ (d, o') :: offL d news := by
  obtain ⟨q, hq, rfl⟩ := List.mem_map.mp hp
  by_cases e : q.1 = d
  · rw [if_pos e]; exact .head _
  · rw [if_neg e]; exact .tail _ (List.mem_filter.mpr ⟨hq, by simpa using e⟩)
/-- the lambda that freeze stores: its parts, read off the written def -/
noncomputable def lamOf (P : Params) : Option (Arguments × Expr × Scope × Pos) := match (hd.heap_39 P).lookup 105 with
  | some ⟨_, _, .func fd, _⟩ => match fd.body with
    | .stmts [.Assign _ (.Lambda a b sc pos) _] => some (a, b, sc, pos)
    | _ => none
  | _ => none
noncomputable def lamA (P : Params) : Arguments := match lamOf P with | some t => t.1 | none => default
noncomputable def lamB (P : Params) : Expr := match lamOf P with | some t => t.2.1 | none => default
noncomputable def lamS (P : Params) : Scope := match lamOf P with | some t => t.2.2.1 | none => default
noncomputable def lamP (P : Params) : Pos := match lamOf P with | some t => t.2.2.2 | none => default
abbrev lamQ : Str := "FreezableDefaultDict.freeze" ++ ".<locals>." ++ "<lambda>"
noncomputable abbrev lamObj (P : Params) (pm : Value) (cell c' : Addr) (ctv : Value) : Obj := kla_obj "<lambda>" lamQ (lamA P) (lamB P) (lamS P) [("self", cell)] pm c' ctv
theorem news_ne {h₀ h : Heap} {L a b : Addr} {oa ob : Obj} {news : List (Addr × Obj)} (N : News h₀ L h news) (h1 : (a, oa) ∈ news) (h2 : (b, ob) ∈ news) (hn : oa.data ≠ ob.data) : a ≠ b := fun e => by
  have q1 := (N _ h1).1
  have q2 := (N _ h2).1
  dsimp only at q1 q2
  rw [e, q2] at q1
  exact hn (congrArg Obj.data (Option.some.inj q1)).symm
/-- the own dict of a frozen book -/
abbrev frz (hh : Int) (tf : Tok) (f : Addr) : Obj := dictOf [⟨hh, .str "_frozen" tf, .ref f⟩] 1
noncomputable abbrev tab1 (P : Params) (c' : Addr) : Obj := tabObj #[rawInt (lamP P).line, rawInt (lamP P).col, .ref c']
def CodeOk (news : List (Addr × Obj)) (c' : Addr) : Prop := ∃ oc vs t, (c', oc) ∈ news ∧ oc.data = .fields vs ∧ vs[1]? = some (.str lamQ t)
def TabOk (P : Params) (news : List (Addr × Obj)) : Prop := (100, tabObj #[]) ∈ news ∨ ∃ c', (100, tab1 P c') ∈ news ∧ CodeOk news c'
def LamAt (P : Params) (news : List (Addr × Obj)) (f x : Addr) : Prop := ∃ cell oc pm ctv c', (f, lamObj P pm cell c' ctv) ∈ news ∧ (cell, oc) ∈ news ∧ oc.data = .cell (some (.ref x)) ∧ CodeOk news c'
def Frozen (P : Params) (news : List (Addr × Obj)) (x dx : Addr) : Prop := ∃ hh tf f, (dx, frz hh tf f) ∈ news ∧ LamAt P news f x
theorem f_set (P : Params) : findIn (hd.heap_39 P) (.ref 108) "__setattr__" = some (some (.builtin "object.__setattr__")) := by kernel_rfl
theorem f_subOb (P : Params) : mroIn (hd.heap_39 P) 108 (.type "object") = some true := by kernel_rfl
theorem f_fz (P : Params) : findIn (hd.heap_39 P) (.ref 108) "_frozen" = some none := by kernel_rfl
theorem refuse_fdd (self : Value) : refuseLoop self "__setattr__" [.ref 108, .type "collections.defaultdict", .type "dict", .type "object"] = pure () := by
  rw [refuseLoop_ref]
  have e1 : classOwn (.type "collections.defaultdict") "__setattr__" = pure none := by show pure (builtinOwn _ _) = _; rw [builtinOwn_eq_fast]; kernel_rfl
  have e2 : classOwn (.type "dict") "__setattr__" = pure none := by show pure (builtinOwn _ _) = _; rw [builtinOwn_eq_fast]; kernel_rfl
  have e3 := PySem.F.store_object.passes self
  unfold refuseLoop at e3 ⊢
  simp only [List.forIn_cons] at e3 ⊢
  rw [e1, e2]
  exact e3
theorem f_tk (P : Params) : takerIn (hd.heap_39 P) 108 "_frozen" = some none := by kernel_rfl
theorem f_hd (P : Params) : hasDictIn (hd.heap_39 P) 108 = true := by kernel_rfl
section
variable {w : World} {A : Around} {E : Value → Shared → Prop} {s : Shared} {h₀ : Heap} {L : Addr} {m : Str → Option Value} {news : List (Addr × Obj)} {x dx f : Addr} {es : Array DictEntry} {ep : Nat}
theorem osa_fdd {od od' : Obj} {es₀ es' : List DictEntry} {n₀ n' : Nat} {tk : Tok} {v : Value} {R : Result → Shared → Prop} (F : Fr h₀ L s.heap m) (N : News h₀ L s.heap news) (X : (hd.heap_39 w.params).In s.heap)
    (hx : (x, fdd dx es ep) ∈ news) (hd : (dx, od) ∈ news) (e0 : od = dictOf es₀ n₀) (hl : (!es₀.any (·.key.isStr "_frozen") && es₀.any (·.refKey)) = false)
    (e : Obj.putName "_frozen" (PyData.keyHash w.params "_frozen") (.str "_frozen" s.toks) v od = od') (e' : od' = dictOf es' n') (hz : es'.length ≤ 1000)
    (h : ∀ h', Fr h₀ L h' m → News h₀ L h' ((dx, od') :: offL dx news) → R (.ok (.ret .none)) { s with heap := h', toks := s.toks + 1 }) :
    codeAny (model Pr w) A (.call (.builtin "object.__setattr__") ⟨[.ref x, .str "_frozen" tk, v], []⟩) R s := by
  have SF := PySem.F.store_object
  obtain ⟨cd, hc, hmro⟩ := f_cls w.params
  have hdd : cd.hasDict = true := by
    obtain ⟨cd', hc', hd'⟩ := any_some (f_hd w.params)
    rw [hc] at hc'; cases hc'; exact hd'
  have I := inst_news N hx hd
  have t1 := I.type (M := model Pr w)
  have sub : Looks (model Pr w) s.heap (isInstance (.ref x) (.type "object")) true := t1.andThen (looks_mroIn X (f_subOb _))
  refine codeAny_call_builtin SF.slot.plain SF.entry (@check_slot (model Pr w) _ _ s "object.__setattr__" "object" "__setattr__" (.ref x) [.str "_frozen" tk, v] [] _ SF.kind SF.split sub (SF.args (.ref x) (.str "_frozen" tk) v) ?_)
  have hm : Looks (model Pr w) s.heap (mroOf (.ref 108)) cd.mro := (looks_clsIn X hc).andThen .now
  rw [osa_eq, refuse_eq]
  refine wpAny_bind (wpAny_bind (t1.here (wpAny_bind (hm.here ?_))))
  rw [hmro, refuse_fdd]
  refine wpAny_pure (wpAny_bind (t1.here (wpAny_bind ((looks_findIn X (f_fz _)).here (wpAny_bind (wpAny_pure ?_))))))
  have N₁ := news_offL N hd
  obtain ⟨U1, U2⟩ := news_upd (pre := []) (f := Obj.putName "_frozen" (PyData.keyHash w.params "_frozen") (.str "_frozen" s.toks) v) F N₁ (fun _ hp => (nomatch hp)) offL_ne e (by rw [e']; rfl)
  have D := (N (dx, od) hd).1
  have D' := (U2 (dx, od') (.head _)).1
  have hxg := (N _ hx).1
  refine wpAny_bind (wpAny_pure (wpAny_bind (wpAny_bind (wpAny_loadPart hxg (wpAny_bind ((looks_clsIn X hc).here ?_))))))
  rw [hdd]
  refine wpAny_pure (a := some dx) (wpAny_bind (wpAny_pure (wpAny_bind ?_)))
  unfold nsSet
  refine wpAny_bind (wpAny_bind (wpAny_askSetting (wpAny_pure (wpAny_bind (wpAny_mkText (wpAny_bind (wpAny_loadPart D ?_)))))))
  subst e0
  dsimp only
  rw [aRefKeyMayBeTheName_at, ← Array.any_toList, ← Array.any_toList]
  dsimp only
  rw [hl]
  refine wpAny_updatePart D ?_
  refine wpAny_bind (wpAny_lookBehind D' (by rw [e']; exact pastItsLine_dict (by rw [List.size_toArray, sizeLine_eq]; omega)) ?_)
  exact wpAny_pure (h _ U1 U2)
theorem set_frozen {od : Obj} {Q : Unit → Shared → Prop} (F : Fr h₀ L s.heap m) (X : (hd.heap_39 w.params).In h₀) (N : News h₀ L s.heap news) (hx : (x, fdd dx es ep) ∈ news) (hd : (dx, od) ∈ news) (ho : od = dictOf [] 0 ∨ ∃ hh tf f₀, od = frz hh tf f₀)
    (hq : ∀ hh tf h', Fr h₀ L h' m → News h₀ L h' ((dx, frz hh tf f) :: offL dx news) → Q () { s with heap := h', toks := s.toks + 2 }) :
    wpAny (model Pr w) A (setAttr (.ref x) "_frozen" (.ref f)) Q E s := by
  refine set_plain (X.keeps F.keep) (inst_news N hx hd) (f_set _) ?_
  rcases ho with rfl | ⟨hh, tf, f₀, rfl⟩
  · refine osa_fdd (s := { s with toks := s.toks + 1 }) F N (X.keeps F.keep) hx hd rfl rfl (putName_dict _ _ _ _ _ _) rfl (Nat.le_of_ble_eq_true rfl) fun h' F' N' => ?_
    exact hq _ _ h' F' N'
  · refine osa_fdd (es' := [⟨hh, .str "_frozen" tf, .ref f⟩]) (n' := 1) (s := { s with toks := s.toks + 1 }) F N (X.keeps F.keep) hx hd rfl (by kernel_rfl) (putName_dict _ _ _ _ _ _) (by kernel_rfl) (Nat.le_of_ble_eq_true rfl) fun h' F' N' => ?_
    exact hq _ _ h' F' N'
end
end Mine
end

section -- G1
open PySem PySem.W PySem.W.X PyProof.Rows PySem.Calls
set_option Elab.async false
set_option maxRecDepth 100000
set_option maxHeartbeats 4000000
namespace Mine
theorem canon_dd : (Manifest.canonical "collections.defaultdict.__getattribute__" != "object.__getattribute__") = false := by decide +kernel
theorem f_ga (P : Params) : findIn (hd.heap_39 P) (.ref 108) "__getattribute__" = some (some (.builtin "collections.defaultdict.__getattribute__")) := by kernel_rfl
theorem f_gk (P : Params) : findIn (hd.heap_39 P) (.ref 108) "__getattr__" = some none := by kernel_rfl
theorem bind_dd (o : Value) : bindSpecial (.builtin "collections.defaultdict.__getattribute__") o = pure (.builtin "collections.defaultdict.__getattribute__", [o]) := by
  have e : typeOf (.builtin "collections.defaultdict.__getattribute__") = pure (.type "wrapper_descriptor") := by show builtinType _ = _; rw [builtinType_eq_fast]; kernel_rfl
  unfold bindSpecial
  rw [e]
  rfl
section
variable {w : World} {A : Around} {E : Value → Shared → Prop} {s : Shared} {x dx : Addr} {es : Array DictEntry} {ep : Nat} {od : Obj} {name : Str} {expr : Bool}
/-- an attribute of a book: what the C way answers -/
theorem getAttr_book {Q : Value → Shared → Prop} (X : (hd.heap_39 w.params).In s.heap) (I : W.InstAt s.heap x (fdd dx es ep) 108 (some od))
    (h : wpAny (model Pr w) A (call (.builtin "collections.defaultdict.__getattribute__") [.ref x, .str name s.toks]) (fun v s' => wpAny (model Pr w) A (handedOut v) Q E s') (fun _ _ => False) { s with toks := s.toks + 1 }) :
    wpAny (model Pr w) A (getAttr (.ref x) name expr) Q E s := by
  obtain ⟨hh, g, d, t, os⟩ := s
  unfold getAttr getAttrBy
  refine wpAny_bind (wpAny_mkText (wpAny_holding (wpAny_bind (I.type.at (wpAny_bind ((looks_findIn X (f_ga _)).at ?_))))))
  show wpAny _ _ (getAttrByItsOwn (.ref x) (.str name t) (.ref 108) (.builtin "collections.defaultdict.__getattribute__") true expr) _ _ _
  unfold getAttrByItsOwn hookBefore callGetattribute boundAndCalled
  refine wpAny_bind ?_
  show wpAny _ _ (typeLookup (.ref 108) "__getattr__") _ _ _
  refine (looks_findIn X (f_gk _)).at ?_
  refine wpAny_bind (wpAny_attempt (wpAny_holding ?_))
  have hO : (expr && onTheHeap (.builtin "collections.defaultdict.__getattribute__")) = false := by cases expr <;> rfl
  rw [hO, if_neg Bool.false_ne_true, bind_dd]
  refine wpAny_bind (wpAny_pure ?_)
  exact wpAny_mono h (fun v s' z => z) fun _ _ z => z.elim
theorem method_book {f : Value} {pl : Sem Bool} {Q : Value × List Value → Shared → Prop} (X : (hd.heap_39 w.params).In s.heap) (I : W.InstAt s.heap x (fdd dx es ep) 108 (some od))
    (hf : findIn (hd.heap_39 w.params) (.ref 108) name = some (some f)) (ht : (typeIn (hd.heap_39 w.params) f).any (fun t => t == .type "function" || t == .type "method_descriptor") = true) (hs : shadowIn (some od) name = some false) (h : Q (f, [.ref x]) s) :
    wpAny (model Pr w) A (getMethod (.ref x) name pl) Q E s := by
  obtain ⟨t, a1, a2⟩ := any_some ht
  unfold getMethod specialOf
  refine wpAny_bind (wpAny_bind (I.type.here ((looks_findIn X (f_ga _)).here ?_)))
  dsimp only
  rw [canon_dd, if_neg (by decide)]
  refine wpAny_bind (wpAny_bind (I.type.here ((looks_findIn X (f_gk _)).here ?_)))
  refine wpAny_bind (wpAny_bind (I.type.here ((looks_findIn X hf).here (wpAny_bind ((looks_typeIn X a1).here ?_)))))
  rw [if_neg (by rcases Bool.or_eq_true_iff.mp a2 with e | e <;> rw [beq_iff_eq.mp e] <;> decide +kernel)]
  refine wpAny_bind (wpAny_loadPart I.at_ ?_)
  obtain ⟨r, a, b⟩ := Option.map_eq_some_iff.mp hs
  refine wpAny_bind (wpAny_bind (wpAny_loadPart I.dict ?_))
  rw [nsLook_of a]
  refine wpAny_pure ?_
  rw [b]
  exact wpAny_bind (wpAny_rule (wpAny_pure h))
theorem method_book_usual {f : Value} {pl : Sem Bool} {Q : Value × List Value → Shared → Prop} (X : (hd.heap_39 w.params).In s.heap) (I : W.InstAt s.heap x (fdd dx es ep) 108 (some od))
    (hf : findIn (hd.heap_39 w.params) (.ref 108) name = some (some f)) (ht : (typeIn (hd.heap_39 w.params) f).any (fun t => t != .type "function" && t != .type "method_descriptor" && t != .type "wrapper_descriptor") = true)
    (h : wpAny (model Pr w) A (getAttr (.ref x) name) (fun v => Q (v, [])) E s) :
    wpAny (model Pr w) A (getMethod (.ref x) name pl) Q E s := by
  obtain ⟨t, a1, a2⟩ := any_some ht
  unfold getMethod specialOf
  refine wpAny_bind (wpAny_bind (I.type.here ((looks_findIn X (f_ga _)).here ?_)))
  dsimp only
  rw [canon_dd, if_neg (by decide)]
  refine wpAny_bind (wpAny_bind (I.type.here ((looks_findIn X (f_gk _)).here ?_)))
  refine wpAny_bind (wpAny_bind (I.type.here ((looks_findIn X hf).here (wpAny_bind ((looks_typeIn X a1).here ?_)))))
  rw [if_pos a2]
  exact wpAny_bind (wpAny_mono h (fun _ _ z => wpAny_pure z) fun _ _ z => z)
end
section
local macro_rules | `(tactic| x_close) => `(tactic| (apply_assumption <;> first | assumption | rfl))
theorem dff_ga0 {w : World} {fr : List Env} {Q : Value → Shared → Prop} {E : Value → Shared → Prop} {s : Shared} {x dx : Addr} {es : Array DictEntry} {ep : Nat} {t : Tok} (X : (hd.heap_39 w.params).In s.heap)
    (hx : s.heap.get? x = some ⟨.ref 108, some dx, .dict es ep, #[some (.type "list")]⟩)
    (hq : ∀ t', Q (.type "list") ⟨s.heap, s.gens, s.drawn, t', s.os⟩) :
    wpAny (model Challenge.rw_in0191_01.row.prog w) (Am 400 100 fr) (call (.builtin "collections.defaultdict.__getattribute__") [.ref x, .str (Str.ofString "default_factory") t]) Q E s := by
  x_run
end
theorem f_dff (P : Params) : findIn (hd.heap_39 P) (.ref 108) "default_factory" = some (some (.builtin "collections.defaultdict.default_factory")) := by kernel_rfl
theorem f_dffT (P : Params) : typeIn (hd.heap_39 P) (.builtin "collections.defaultdict.default_factory") = some (.type "member_descriptor") := by kernel_rfl
theorem dff_get {w : World} {dp un : Nat} {fr : List Env} {Q : Value × List Value → Shared → Prop} {E : Value → Shared → Prop} {s : Shared} {x dx : Addr} {es : Array DictEntry} {ep : Nat} {od : Obj} {pl : Sem Bool} (X : (hd.heap_39 w.params).In s.heap)
    (I : W.InstAt s.heap x (fdd dx es ep) 108 (some od)) (hdp : dp ≤ 400) (hun : un + 1 ≤ 100)
    (hq : ∀ t', Q (.type "list", []) ⟨s.heap, s.gens, s.drawn, t', s.os⟩) :
    wpAny (model Challenge.rw_in0191_01.row.prog w) (Am dp un fr) (getMethod (.ref x) "default_factory" pl) Q E s := by
  refine method_book_usual X I (f_dff _) (by rw [f_dffT]; decide +kernel) (getAttr_book X I ?_)
  refine am_up (dp := 400) (un := 100) (dff_ga0 (s := { s with toks := s.toks + 1 }) X I.1 fun t' => ?_) hdp (by omega)
  rw [handedOut_of (by rfl)]
  exact wpAny_pure (hq t')
end Mine
end

section -- G2
open PySem PySem.W PySem.W.X PyProof.Rows PySem.Calls
set_option Elab.async false
set_option maxRecDepth 100000
set_option maxHeartbeats 1000000
namespace Mine
theorem callW_fn {M : Model} {A : Around} {E : Value → Shared → Prop} {s : Shared} {env : Env} {e : Expr} {rest : List Expr} {pos : Pos} {f : Value} {first : List Value} {P : Heap → Prop} {Q : Value → Shared → Prop} (hk : ∀ h, P h → Looks M h (keeperOf f) .frame)
    (h : wpAny M A (_root_.PySem.spliced (backTo pos (starEach (e :: rest) env))) (fun vs s₁ => P s₁.heap ∧ wpAny M A (call f (first ++ vs)) Q E s₁) E s)
    (he : starEach (e :: rest) env = (false, eval e env) :: starEach rest env := by rfl) (hplain : (backTo pos (starEach rest env)).any (·.1) = false := by rfl) :
    wpAny M A (callWith pos f first (backTo pos (starEach (e :: rest) env)) []) Q E s := by
  rw [he] at h ⊢
  exact callWith_of (P := P) (by show ((false || (backTo pos (starEach rest env)).any (·.1)) || false) = false; rw [hplain]; rfl) (fun h hp => ⟨.frame, .inl rfl, hk h hp⟩) (evalArgs_plain h)
theorem lamS_co (P : Params) : (lamS P).isCoroutine = false := by kernel_rfl
theorem lamS_ge (P : Params) : (lamS P).isGenerator = false := by kernel_rfl
theorem lamS_kind (P : Params) : (lamS P).kind = .function := by kernel_rfl
theorem lamS_key (P : Params) : (lamS P).names.lookup (Str.ofString "key") = some NameKind.local := by kernel_rfl
theorem lamS_cells (P : Params) : ∀ x ∈ (lamS P).names, x.2 ≠ .cell := by
  have q : ((lamS P).names.all fun x => x.2 != .cell) = true := by kernel_rfl
  intro x hx e
  have z := List.all_eq_true.mp q x hx
  rw [e] at z; exact absurd z (by decide)
theorem lamS_self (P : Params) : (lamS P).names.lookup (Str.ofString "self") = some NameKind.free := by kernel_rfl
noncomputable def lamPos (P : Params) (n : Nat) : Pos := match lamB P with
  | .Call (.Attribute (.Name _ p1) _ p2) _ _ p3 => if n = 0 then p1 else if n = 1 then p2 else p3
  | _ => default
theorem lamB_eq (P : Params) : lamB P = .Call (.Attribute (.Name "self" (lamPos P 0)) "default_factory" (lamPos P 1)) [] [] (lamPos P 2) := by kernel_rfl
theorem lamPos_eq (P : Params) : ((lamPos P 1).endLine == (lamPos P 2).line) = true := by kernel_rfl
theorem lam_form {P : Params} {env : Env} : eval (lamB P) env = (do
      let ov ← eval (.Name "self" (lamPos P 0)) env
      standAt (lamPos P 1).atName
      let (f, first) ← holding [ov] (getMethod ov "default_factory" (do return (← importBound (.Name "self" (lamPos P 0)) env).getD true))
      callWith (lamPos P 2) f first [] []) := by
  rw [lamB_eq, arm_eval_Call]
  have e : methodCallPos (methodCallForm 0 [] []) (.Name "self" (lamPos P 0)) env (lamPos P 1) (lamPos P 2) = pure (lamPos P 2) := by
    unfold methodCallPos
    rw [lamPos_eq, Bool.or_true, if_pos rfl]
  show (do
    let ov ← eval (.Name "self" (lamPos P 0)) env
    standAt (lamPos P 1).atName
    let (f, first) ← holding [ov] (getMethod ov "default_factory" (do return (← importBound (.Name "self" (lamPos P 0)) env).getD true))
    let callPos ← methodCallPos (methodCallForm 0 [] []) (.Name "self" (lamPos P 0)) env (lamPos P 1) (lamPos P 2)
    callWith callPos f first [] []) = _
  rw [e]
  rfl
theorem missing_frozen : ∀ {w : World} {dp un : Nat} {cn : Str} {cs : Scope} {a : Addr} {ccd : Value} {cl : List (Str × Addr)} {outer : List Env} {A₀ : Around} {base h₀ : Heap} {L : Addr} {m mg mb : Str → Option Value} {s : Shared} {Q E : Value → Shared → Prop} {news : List (Addr × Obj)} {p : Program} {loose : List Str} {mean : ExcName → Option Value} {key : Value} {x dx : Addr} {es : Array DictEntry} {ep : Nat},
    Below A₀ base outer h₀ → Fr h₀ L s.heap m → (hd.heap_39 w.params).In h₀ → News h₀ L s.heap news → Top p loose mean mg mb h₀ → cs.kind = .function →
    dp + 2 ≤ 400 → un + 20 ≤ 100 → (x, fdd dx es ep) ∈ news → Frozen w.params news x dx →
    (∀ l h' t', Fr h₀ L h' m → News h₀ L h' ((l, W.listOf #[] 0) :: news) → (∀ q ∈ news, l ≠ q.1) → Q (.ref l) { s with heap := h', toks := t' }) →
    wpAny (model Challenge.rw_in0191_01.row.prog w) (ktrTop dp un (some []) cn cs L a ccd cl outer) (call (.ref 98) [.ref x, key]) Q E s := by
  k_fill
  intro w dp un cn cs a ccd cl outer A₀ base h₀ L m mg mb s Q E news p loose mean key x dx es ep B F X N T hk hdp hun hx ⟨hh, tf, f, hdx, cell, oc, pm, ctv, c', hf, hc, hoc, hcode⟩ hq
  refine wpAny_call ?_
  refine' ks_code_super ?k1 ?k2 ?k3 ?k4 ?k5 ?kA ?kF ?kK ?k6 ?k7 ?k8 ?k9 ?kB ?_ ?c1 ?c2 ?c3 ?c4
  case kA => exact rfl
  case kF => exact rfl
  case kK => assumption
  case k1 => k_asm
  case k2 => k_asm
  case k3 => k_asm
  case k4 => k_asm
  case k5 => k_asm
  case k6 => k_is
  case k7 => k_is
  case k8 => show dp < 1000; omega
  case k9 => exact BindsTo.of_eq rfl
  case kB => exact locs rfl
  case c1 => decide
  case c2 => exact rfl
  case c3 => exact rfl
  case c4 => exact rfl
  intro g L' h₁ FG F' N' B' X' T' l1
  dsimp only
  refine ks_wpAt_execs_cons (ks_wpAt_Return_some ?_)
  rw [eval_CallCall]
  refine PySem.wpAt_bind ?_
  rw [arm_eval_Call_Name']
  refine PySem.wpAt_bind (PySem.wpAt_of_wpAny ?_)
  walk1
  refine at_callE (by rfl) ?_
  refine at_more (PySem.wpAt_of_wpAny ?_)
  walk1
  refine at_more (PySem.wpAt_of_wpAny ?_)
  walk1
  refine at_more ?_
  rw [arm_eval_Attribute]
  refine PySem.wpAt_bind ?_
  have hxh := (N' _ hx).1
  have hdh := (N' _ hdx).1
  have I : W.InstAt h₁ x (fdd dx es ep) 108 (some (frz hh tf f)) := ⟨hxh, rfl, rfl, hdh⟩
  refine ks_node (by k_asm) (by k_asm) (by k_asm) (by k_asm) (by k_is) (by rfl) (by rfl) (by exact I) (by k_is) (by rfl) (by first | rfl | decide +kernel) (by k_is) (by k_is) (by k_is) (by k_is) (by decide) (by rfl) (by rfl) (by rfl) (by rfl) (by decide +kernel) (by first | boot_by_name | rfl | kernel_rfl) ?_
  intro so h₂ F₂ N₂ l₂
  refine PySem.wpAt_of_wpAny ?_
  obtain ⟨cd, hcd, _⟩ := f_cls w.params
  have hxC : x ≠ 108 := ks_ne (X'.keeps F'.keep) I hcd
  have hx₂ : h₂.get? x = some (fdd dx es ep) := (N₂ _ (.tail _ hx)).1
  refine wpAny_bind (wpAny_standAt (wpAny_bind (wpAny_holding ?_)))
  refine super_getattr (dp := dp + 1) (un := un + 3) (X'.keeps F₂.keep) hx₂ hxC (by omega) (by omega) (N₂ _ (.head _)).1 fun b h₃ t₃ D₃ => ?_
  have F₃ := mem_fr D₃ F₂
  have N₃ := mem_news D₃ F₂ N₂
  refine wpAny_bind (wpAny_letTemporaryGo (wpAny_pure ?_))
  refine at_none ?_
  have hx₃ := (N₃ _ (.tail _ (.tail _ hx))).1
  have hdx₃ := (N₃ _ (.tail _ (.tail _ hdx))).1
  refine am_up (dp := 400) (un := 100) (getattr_own0 (X'.keeps F₃.keep) hx₃ hdx₃ fun t₄ => ?_) (by show dp + 1 ≤ 400; omega) (by show un + 3 ≤ 100; omega)
  refine PySem.wpAt_of_wpAny ?_
  have hf₃ := N₃ _ (List.mem_append_right _ (.tail _ hf))
  refine callW_fn (P := fun h => h = h₃) (fun h e => ?_) ?_
  · subst e
    exact (Looks.ld hf₃.1).andThen .now
  refine spliced_more ?_
  walk1
  refine spliced_none ⟨rfl, ?_⟩
  have a₃ := mem_apart D₃ N₂
  have N₃' := cb_drop (news := news) N₃ fun q hq => List.mem_append_right _ (.tail _ hq)
  refine wpAny_call ?_
  obtain ⟨oc', vs, tq, hco, hvs, hq1⟩ := hcode
  refine kla_code B' F₃ X' N₃' T' rfl rfl rfl hf ⟨c', oc', vs, tq, rfl, (N₃' _ hco).1, hvs, hq1⟩ (by show dp + 1 < recursionLimit; show dp + 1 < 1000; omega) (binds := [("key", key)]) (by kernel_rfl) (fun y hy => by rw [List.mem_singleton.mp hy]; exact lamS_key _) ?_ (lamS_co _) (lamS_ge _) (lamS_kind _) (lamS_cells _)
  intro g₅ L₅ h₅ FG₅ F₅ N₅ B₅ X₅ T₅
  rw [lam_form]
  refine wpAny_bind (nameX_F N₅ (x := Str.ofString "self") (by rfl) hc hoc ?_ (lamS_kind w.params) (lamS_self w.params))
  refine wpAny_bind (wpAny_standAt (wpAny_bind (wpAny_holding ?_)))
  have I₅ : W.InstAt h₅ x (fdd dx es ep) 108 (some (frz hh tf f)) := inst_news N₅ hx hdx
  refine dff_get (dp := dp + 2) (un := un + 6) (s := Shared.mk h₅ _ _ _ _) (X₅.keeps F₅.keep) I₅ (by omega) (by omega) fun t₆ => ?_
  refine callWith_of (P := fun _ => True) (by rfl) (fun h _ => ⟨.machine, .inr (.inl rfl), ?_⟩) (evalArgs_nil3 ⟨trivial, ?_⟩)
  · exact Looks.of_pure (by rfl)
  refine am_up (dp := 400) (un := 100) (list_called0 fun l h₆ t₇ D₆ => ?_) (by show dp + 1 + 1 ≤ 400; omega) (by show un + 3 + 3 ≤ 100; omega)
  have a₆ := mem_apart D₆ N₅
  refine leaveK_ (mem_fr D₆ F₅) (mem_news D₆ F₅ N₅) fun F₇ N₇ => ?_
  refine leaveK_ F₇ N₇ fun F₈ N₈ => ?_
  exact hq l h₆ _ F₈ N₈ (a₆ _ (.head _))
end Mine
end

section -- H1
open PySem PySem.W PySem.W.X PyProof.Rows PySem.Calls
set_option Elab.async false
set_option maxRecDepth 100000
set_option maxHeartbeats 1000000
namespace Mine
section
variable {κ α : Type} [DecidableEq κ]
/-- the first row of a key -/
def bfind : List (κ × α) → κ → Option α
  | [], _ => none
  | p :: r, k => if p.1 = k then some p.2 else bfind r k
variable {w : World} {knd : PySem.KeyKind Pr w κ}
/-- the entries of a book are these rows -/
def BookL (knd : PySem.KeyKind Pr w κ) : List DictEntry → List (κ × Addr) → Prop
  | [], [] => True
  | e :: r, p :: q => (knd.is p.1 e.key = true ∧ e.hash = knd.hash p.1 ∧ e.val = .ref p.2) ∧ BookL knd r q
  | _, _ => False
def BookOf (knd : PySem.KeyKind Pr w κ) (es : Array DictEntry) (ks : List (κ × Addr)) : Prop := BookL knd es.toList ks
theorem bookL_keys : ∀ {es : List DictEntry} {ks : List (κ × Addr)}, BookL knd es ks → ∀ e ∈ es, ∃ k, knd.is k e.key = true ∧ e.hash = knd.hash k
  | [], _, _, e, he => (nomatch he)
  | a :: r, [], h, _, _ => h.elim
  | a :: r, p :: q, h, e, he => by
    rcases List.mem_cons.mp he with rfl | he
    · exact ⟨p.1, h.1.1, h.1.2.1⟩
    · exact bookL_keys h.2 e he
theorem book_keys {es : Array DictEntry} {ks : List (κ × Addr)} (h : BookOf knd es ks) : KeysOf knd es := fun e he => bookL_keys h e (Array.mem_def.mp he)
theorem bookL_len : ∀ {es : List DictEntry} {ks : List (κ × Addr)}, BookL knd es ks → es.length = ks.length
  | [], [], _ => rfl
  | [], _ :: _, h => h.elim
  | _ :: _, [], h => h.elim
  | _ :: _, _ :: _, h => congrArg (· + 1) (bookL_len h.2)
theorem bookL_push : ∀ {es : List DictEntry} {ks : List (κ × Addr)} {e : DictEntry} {p : κ × Addr}, BookL knd es ks → knd.is p.1 e.key = true → e.hash = knd.hash p.1 → e.val = .ref p.2 → BookL knd (es ++ [e]) (ks ++ [p])
  | [], [], _, _, _, a, b, c => ⟨⟨a, b, c⟩, trivial⟩
  | [], _ :: _, _, _, h, _, _, _ => h.elim
  | _ :: _, [], _, _, h, _, _, _ => h.elim
  | _ :: _, _ :: _, _, _, h, a, b, c => ⟨h.1, bookL_push h.2 a b c⟩
theorem book_push {es : Array DictEntry} {ks : List (κ × Addr)} {k : κ} {key : Value} {l : Addr} (h : BookOf knd es ks) (hk : knd.is k key = true) : BookOf knd (es.push ⟨knd.hash k, key, .ref l⟩) (ks ++ [(k, l)]) := by
  unfold BookOf
  rw [Array.toList_push]
  exact bookL_push h hk rfl rfl
theorem bookL_find : ∀ {es : List DictEntry} {ks : List (κ × Addr)} (k : κ), BookL knd es ks →
    (es.findIdx? (fun e => knd.is k e.key) = none ∧ bfind ks k = none) ∨ (∃ i e l, es.findIdx? (fun e => knd.is k e.key) = some i ∧ es[i]? = some e ∧ e.val = .ref l ∧ bfind ks k = some l)
  | [], [], k, _ => .inl ⟨rfl, rfl⟩
  | [], _ :: _, k, h => h.elim
  | _ :: _, [], k, h => h.elim
  | e :: r, p :: q, k, h => by
    have hd := PySem.KeyKind.is_eq_decide h.1.1 k
    by_cases hk : p.1 = k
    · refine .inr ⟨0, e, p.2, ?_, rfl, h.1.2.2, by rw [bfind, if_pos hk]⟩
      rw [List.findIdx?_cons, hd, hk, if_pos (by simp)]
    · have hk' : knd.is k e.key = false := by rw [hd]; exact decide_eq_false (fun e => hk e.symm)
      have hb : bfind (p :: q) k = bfind q k := by rw [bfind, if_neg hk]
      rw [List.findIdx?_cons, hk', hb]
      rcases bookL_find k h.2 with ⟨a, b⟩ | ⟨i, e', l, a, b, c, d⟩
      · exact .inl ⟨by rw [a]; rfl, b⟩
      · exact .inr ⟨i + 1, e', l, by rw [a]; rfl, b, c, d⟩
theorem book_find {es : Array DictEntry} {ks : List (κ × Addr)} (k : κ) (h : BookOf knd es ks) :
    (es.findIdx? (fun e => knd.is k e.key) = none ∧ bfind ks k = none) ∨ (∃ i e l, es.findIdx? (fun e => knd.is k e.key) = some i ∧ es[i]? = some e ∧ e.val = .ref l ∧ bfind ks k = some l) := by
  have q := bookL_find k h
  obtain ⟨l⟩ := es
  simpa using q
end
theorem check_meth {M : Model} {A : Around} {E : Value → Shared → Prop} {s : Shared} {i owner n : String} {self : Value} {rest : List Value} {kw : List (Str × Value)} {Q : Unit → Shared → Prop}
    (hk : builtinKind i = some .method) (hs : splitId i = some (owner, n)) (hi : Looks M s.heap (isInstance self (.type owner)) true) (ha : argsOk i ⟨self :: rest, kw⟩) (q : Q () s) :
    wpAny M A (checkBuiltinCall i ⟨self :: rest, kw⟩) Q E s := by
  simp only [checkBuiltinCall, hk, hs]
  refine wpAny_bind (hi.here ?_)
  simp only [Bool.not_true, Bool.false_eq_true, if_false]
  cases hsig : Manifest.signature? i with
  | none => exact wpAny_pure q
  | some sig =>
    simp only [argsOk, hsig] at ha
    have h2 : Bind.checkArgs i sig ⟨self :: rest, kw⟩ = pure () := ha
    show wpAny M A (Bind.checkArgs i sig ⟨self :: rest, kw⟩) Q E s
    rw [h2]; exact wpAny_pure q
theorem kind_dgi : builtinKind "dict.__getitem__" = some .method := by decide +kernel
theorem split_dgi : splitId "dict.__getitem__" = some ("dict", "__getitem__") := by decide +kernel
theorem entry_dgi : entryFor table "dict.__getitem__" = some Builtin.«dict.__getitem__» := entryFor_of_tree (by kernel_rfl)
theorem plain_dgi : plainId "dict.__getitem__" = true := by decide +kernel
section
variable {w : World} {A : Around} {E : Value → Shared → Prop} {s : Shared} {x dx : Addr} {es : Array DictEntry} {ep : Nat} {od : Obj} {κ : Type} [DecidableEq κ] {knd : PySem.KeyKind Pr w κ} {k : κ} {key : Value}
/-- a subscript of a book comes down to the body of dict's own way -/
theorem getitem_open {Q : Value → Shared → Prop} (X : (hd.heap_39 w.params).In s.heap) (I : W.InstAt s.heap x (fdd dx es ep) 108 (some od))
    (h : wpAny (model Pr w) A.in1 (Builtin.«dict.__getitem__» ⟨[.ref x, key], []⟩) (fun fin s' => match fin with | .done (.ret v) => Q v s' | _ => False) E s) :
    wpAny (model Pr w) A (getItem (.ref x) key) Q E s := by
  unfold getItem sequenceKey
  refine wpAny_holding (wpAny_bind (wpAny_bind (I.type.here ?_)))
  refine wpAny_bind ((anyM_none X (f_noSeq _)).here ?_)
  rw [if_pos (show (!false) = true from rfl)]
  refine wpAny_pure (wpAny_bind ?_)
  unfold callSpecial? specialOf
  refine wpAny_bind (wpAny_bind (I.type.here ((looks_findIn X (f_getitem _)).here ?_)))
  refine wpAny_holding (wpAny_bind (wpAny_of_eq (slot_dict_getitem.bind _) (wpAny_bind (wpAny_call ?_))))
  have sub : Looks (model Pr w) s.heap (isInstance (.ref x) (.type "dict")) true := I.type.andThen (looks_mroIn X (f_subDict _))
  refine codeAny_call_builtin plain_dgi entry_dgi (@check_meth (model Pr w) _ _ s "dict.__getitem__" "dict" "__getitem__" (.ref x) [key] [] _ kind_dgi split_dgi sub (args_dict_getitem _ _) ?_)
  refine wpAny_mono h (fun fin s' z => ?_) fun _ _ z => z
  rcases fin with (_ | _ | _ | _) | _ <;> first | exact wpAny_pure (wpAny_pure z) | exact z.elim
end
end Mine
end

section -- H2
open PySem PySem.W PySem.W.X PyProof.Rows PySem.Calls
set_option Elab.async false
set_option maxRecDepth 100000
set_option maxHeartbeats 1000000
namespace Mine
section
variable {w : World} {A : Around} {E : Value → Shared → Prop} {s : Shared} {x dx : Addr} {es : Array DictEntry} {ep : Nat} {od : Obj} {κ : Type} [DecidableEq κ] {knd : PySem.KeyKind Pr w κ} {k : κ} {key : Value}
theorem getitem_hit {Q : Value → Shared → Prop} {i : Nat} {e : DictEntry} (X : (hd.heap_39 w.params).In s.heap) (I : W.InstAt s.heap x (fdd dx es ep) 108 (some od))
    (hkey : knd.is k key = true) (hk : KeysOf knd es) (hi : es.findIdx? (fun e => knd.is k e.key) = some i) (he : es[i]? = some e) (hq : Q e.val { s with toks := s.toks + 1 }) :
    wpAny (model Pr w) A (getItem (.ref x) key) Q E s := by
  refine getitem_open X I ?_
  show wpAny _ _ (dictGet x key >>= _) _ _ s
  unfold dictGet
  refine wpAny_bind (wpAny_holding ?_)
  refine wpAny_bind (knd.pyHash hkey (wpAny_bind (wpAny_dictFind_of (s := { s with toks := s.toks + 1 }) hkey I.at_ rfl hk ?_)))
  rw [hi]
  refine wpAny_bind (wpAny_dictEntries (s := { s with toks := s.toks + 1 }) I.at_ rfl (wpAny_pure ?_))
  rw [he]
  exact wpAny_pure hq
theorem f_miss (P : Params) : typeIn (hd.heap_39 P) (.ref 98) = some (.type "function") := by kernel_rfl
theorem getitem_miss {Q : Value → Shared → Prop} (X : (hd.heap_39 w.params).In s.heap) (I : W.InstAt s.heap x (fdd dx es ep) 108 (some od))
    (hkey : knd.is k key = true) (hk : KeysOf knd es) (hi : es.findIdx? (fun e => knd.is k e.key) = none) (hm : (x == sysModules) = false)
    (h : wpAny (model Pr w) A.in1 (call (.ref 98) [.ref x, key]) Q E { s with toks := s.toks + 1 }) :
    wpAny (model Pr w) A (getItem (.ref x) key) Q E s := by
  refine getitem_open X I ?_
  obtain ⟨hh, gg, dd, tt, oo⟩ := s
  show wpAny _ _ (dictGet x key >>= _) _ _ _
  unfold dictGet
  refine wpAny_bind (wpAny_holding ?_)
  refine wpAny_bind (knd.pyHash hkey (wpAny_bind (wpAny_dictFind_of (s := ⟨hh, gg, dd, tt + 1, oo⟩) hkey I.at_ rfl hk ?_)))
  rw [hi]
  refine wpAny_pure ?_
  show wpAny _ _ (Builtin.Dict.missed x key >>= _) _ _ _
  refine wpAny_bind (wpAny_missed_other hm ?_)
  refine wpAny_bind (I.type.at ?_)
  show wpAny _ _ (if (Value.ref 108 != Value.type "dict") = true then _ else _) _ _ _
  rw [if_pos (by rfl)]
  refine wpAny_bind ?_
  unfold callSpecial? specialOf
  refine wpAny_bind (wpAny_bind (I.type.at ((looks_findIn X (f_missing _)).at ?_)))
  refine wpAny_holding (wpAny_bind ((bind_fn X _ (f_miss _)).at (wpAny_bind (wpAny_mono h (fun v s' z => ?_) fun _ _ z => z))))
  exact wpAny_pure (wpAny_bind (wpAny_rule (wpAny_pure z)))
theorem sub_open {value slice : Expr} {Q : Value → Shared → Prop} (X : (hd.heap_39 w.params).In s.heap) (I : W.InstAt s.heap x (fdd dx es ep) 108 (some od)) (h : wpAny (model Pr w) A (getItem (.ref x) key) Q E s)
    (hs : subscripted slice false (.ref x) key = operate [.ref x, key] (getItem (.ref x) key) := by with_unfolding_all rfl) : wpAny (model Pr w) A (subscriptTail value slice (.ref x) key) Q E s := by
  unfold subscriptTail getitemInPython specialOf
  refine wpAny_bind (wpAny_bind (wpAny_bind (I.type.here ((looks_findIn X (f_getitem _)).here ?_))))
  refine wpAny_pure ?_
  rw [hs]
  refine wpAny_bind (wpAny_operating (wpAny_mono h (fun v s' z => ?_) fun _ _ z => z))
  exact wpAny_bind (wpAny_letTemporaryGo (wpAny_pure z))
end
end Mine
end

section -- K1
open PySem PySem.W PySem.W.X PyProof.Rows PySem.Calls
set_option Elab.async false
set_option maxRecDepth 100000
set_option maxHeartbeats 1000000
namespace Mine
/-- a book over rows: its own dict empty or frozen -/
structure Book {κ : Type} [DecidableEq κ] {w : World} (knd : PySem.KeyKind Pr w κ) (news : List (Addr × Obj)) (x dx : Addr) (ks : List (κ × Addr)) (fz : Bool) : Prop where
  at_ : ∃ es ep, (x, fdd dx es ep) ∈ news ∧ BookOf knd es ks
  own : (fz = true ∧ Frozen w.params news x dx) ∨ (fz = false ∧ (dx, dictOf [] 0) ∈ news)
  ne : (x == sysModules) = false
  small : ks.length ≤ 1000
theorem own_data {P : Params} {news : List (Addr × Obj)} {x dx : Addr} {fz : Bool} (h : (fz = true ∧ Frozen P news x dx) ∨ (fz = false ∧ (dx, dictOf [] 0) ∈ news)) : ∃ od, (dx, od) ∈ news ∧ (od = dictOf [] 0 ∨ ∃ hh tf f₀, od = frz hh tf f₀) := by
  rcases h with ⟨_, hh, tf, f, hd, _⟩ | ⟨_, hd⟩
  · exact ⟨_, hd, .inr ⟨_, _, _, rfl⟩⟩
  · exact ⟨_, hd, .inl rfl⟩
theorem news_neC {h₀ h : Heap} {L a b : Addr} {oa ob : Obj} {news : List (Addr × Obj)} (N : News h₀ L h news) (h1 : (a, oa) ∈ news) (h2 : (b, ob) ∈ news) (hn : oa.cls ≠ ob.cls) : a ≠ b := fun e => by
  have q1 := (N _ h1).1
  have q2 := (N _ h2).1
  dsimp only at q1 q2
  rw [e, q2] at q1
  exact hn (congrArg Obj.cls (Option.some.inj q1)).symm
/-- a ledger that keeps every entry but those at one address -/
def KeepBut (x : Addr) (news news' : List (Addr × Obj)) : Prop := ∀ q ∈ news, q.1 ≠ x → q ∈ news'
theorem Frozen.keep {P : Params} {news news' : List (Addr × Obj)} {x dx : Addr} (h : Frozen P news x dx) (h1 : ∀ q ∈ news, q.1 = dx → q ∈ news') (h2 : ∀ q ∈ news, (∀ es n, q.2.data ≠ .dict es n) → (∀ es n, q.2.data ≠ .seq es n) → q ∈ news') : Frozen P news' x dx := by
  obtain ⟨hh, tf, f, hd, cell, oc, pm, ctv, c', hf, hc, hdc, oc', vs, t, h3, h4, h5⟩ := h
  exact ⟨hh, tf, f, h1 _ hd rfl, cell, oc, pm, ctv, c', h2 _ hf (fun es n e => by cases e) (fun es n e => by cases e), h2 _ hc (fun es n e => by rw [hdc] at e; cases e) (fun es n e => by rw [hdc] at e; cases e), hdc, oc', vs, t, h2 _ h3 (fun es n e => by rw [h4] at e; cases e) (fun es n e => by rw [h4] at e; cases e), h4, h5⟩
section
variable {w : World} {dp un : Nat} {cn : Str} {cs : Scope} {a : Addr} {ccd : Value} {cl : List (Str × Addr)} {outer : List Env} {A₀ : Around} {base h₀ : Heap} {L : Addr} {m mg mb : Str → Option Value} {s : Shared} {Q E : Value → Shared → Prop} {news : List (Addr × Obj)} {p : Program} {loose : List Str} {mean : ExcName → Option Value}
variable {κ : Type} [DecidableEq κ] {knd : PySem.KeyKind Pr w κ} {k : κ} {key : Value} {x dx : Addr} {ks : List (κ × Addr)} {fz : Bool} {value slice : Expr}
theorem sub_book (B : Below A₀ base outer h₀) (F : Fr h₀ L s.heap m) (X : (hd.heap_39 w.params).In h₀) (N : News h₀ L s.heap news) (T : Top p loose mean mg mb h₀) (hk : cs.kind = .function)
    (hdp : dp + 2 ≤ 400) (hun : un + 21 ≤ 100) (b : Book knd news x dx ks fz) (hkey : knd.is k key = true)
    (h1 : ∀ l, bfind ks k = some l → ∀ t', Q (.ref l) { s with toks := t' })
    (h2 : bfind ks k = none → fz = false → ∀ l news' h' t', Fr h₀ L h' m → News h₀ L h' news' → Book knd news' x dx (ks ++ [(k, l)]) false → (l, W.listOf #[] 0) ∈ news' → (∀ q ∈ news, l ≠ q.1) → KeepBut x news news' → Q (.ref l) { s with heap := h', toks := t' })
    (h3 : bfind ks k = none → fz = true → ∀ l h' t', Fr h₀ L h' m → News h₀ L h' ((l, W.listOf #[] 0) :: news) → (∀ q ∈ news, l ≠ q.1) → Q (.ref l) { s with heap := h', toks := t' })
    (hsm : ks.length < 1000)
    (hs : subscripted slice false (.ref x) key = operate [.ref x, key] (getItem (.ref x) key) := by with_unfolding_all rfl) :
    wpAny (model Challenge.rw_in0191_01.row.prog w) (ktrTop dp un (some []) cn cs L a ccd cl outer) (subscriptTail value slice (.ref x) key) Q E s := by
  obtain ⟨es, ep, hx, hrows⟩ := b.at_
  obtain ⟨od, hdx, _⟩ := own_data b.own
  have Xh := X.keeps F.keep
  have I : W.InstAt s.heap x (fdd dx es ep) 108 (some od) := inst_news N hx hdx
  have hks := book_keys hrows
  have hlen : es.size = ks.length := by rw [← Array.length_toList]; exact bookL_len hrows
  refine sub_open Xh I ?_ hs
  rcases book_find k hrows with ⟨hn, hb⟩ | ⟨i, e, l, hi, he, hv, hb⟩
  · refine getitem_miss Xh I hkey hks hn b.ne ?_
    rcases b.own with ⟨hf, hfr⟩ | ⟨hf, hd⟩
    · refine missing_frozen (dp := dp) (un := un + 1) (s := { s with toks := s.toks + 1 }) B F X N T hk hdp (by omega) hx hfr fun l h' t' F' N' hl => ?_
      exact h3 hb hf l h' t' F' N' hl
    · refine missing_new (dp := dp) (un := un + 1) (knd := knd) (s := { s with toks := s.toks + 1 }) B F X N T hk (by omega) (by omega) hx hd b.ne hkey hks hn (by rw [hlen, sizeLine_eq]; omega) fun l nw h' t' F' N' hl hap => ?_
      have hxd : ∀ q ∈ news, q.1 ≠ x → q ∈ nw ++ setAt x (fdd dx (es.push ⟨knd.hash k, key, .ref l⟩) (ep + 1)) news := fun q hq hne => List.mem_append_right _ (mem_setAt_ne hq hne)
      have hdx' : dx ≠ x := news_neC N hd hx (by intro e; cases e)
      exact h2 hb hf l _ h' t' F' N' ⟨⟨_, _, List.mem_append_right _ (mem_setAt hx), book_push hrows hkey⟩, .inr ⟨rfl, hxd _ hd hdx'⟩, b.ne, by simp; omega⟩ (List.mem_append_left _ hl) (fun q hq => hap _ hl q hq) hxd
  · refine getitem_hit Xh I hkey hks hi he ?_
    rw [hv]
    exact h1 l hb _
end
end Mine
end

section -- K2
open PySem PySem.W PySem.W.X PyProof.Rows PySem.Calls
set_option Elab.async false
set_option maxRecDepth 100000
set_option maxHeartbeats 1000000
namespace Mine
/-- objects that no step of the run changes -/
def Hard (o : Obj) : Prop := (∃ f, o.data = .func f) ∨ (∃ v, o.data = .cell v) ∨ (∃ vs q t, o.data = .fields vs ∧ vs[1]? = some (.str q t)) ∨ o.cls = .type "tuple"
def KeepHard (news news' : List (Addr × Obj)) : Prop := ∀ q ∈ news, Hard q.2 → q ∈ news'
theorem KeepHard.refl {news : List (Addr × Obj)} : KeepHard news news := fun _ h _ => h
theorem KeepHard.trans {n1 n2 n3 : List (Addr × Obj)} (h : KeepHard n1 n2) (k : KeepHard n2 n3) : KeepHard n1 n3 := fun q hq hh => k q (h q hq hh) hh
theorem hard_of_but {h₀ h : Heap} {L y : Addr} {oy : Obj} {news news' : List (Addr × Obj)} (N : News h₀ L h news) (hy : (y, oy) ∈ news) (hs : ¬ Hard oy) (hk : KeepBut y news news') : KeepHard news news' := fun q hq hh => hk q hq fun e => by
  have z := (N _ hy).1
  have z2 := (N q hq).1
  rw [e] at z2
  have z3 := Option.some.inj (z.symm.trans z2)
  have z4 : oy = q.2 := z3
  rw [z4] at hs
  exact hs hh
theorem hard_list (xs : Array Value) (n : Nat) : ¬ Hard (W.listOf xs n) := by
  rintro (⟨f, e⟩ | ⟨v, e⟩ | ⟨vs, q, t, e, _⟩ | e)
  · cases e
  · cases e
  · cases e
  · exact absurd e (by show ¬ (Value.type "list" = Value.type "tuple"); intro h; injection h with h; exact absurd h (by decide))
theorem hard_fdd (dx : Addr) (es : Array DictEntry) (ep : Nat) : ¬ Hard (fdd dx es ep) := by
  rintro (⟨f, e⟩ | ⟨v, e⟩ | ⟨vs, q, t, e, _⟩ | e) <;> cases e
theorem frozen_keep {P : Params} {news news' : List (Addr × Obj)} {x dx : Addr} (h : Frozen P news x dx) (hk : KeepHard news news') (h1 : ∀ q ∈ news, q.1 = dx → q.2.cls = .type "dict" → q ∈ news') : Frozen P news' x dx := by
  obtain ⟨hh, tf, f, hd, cell, oc, pm, ctv, c', hf, hc, hdc, oc', vs, t, h3, h4, h5⟩ := h
  exact ⟨hh, tf, f, h1 _ hd rfl rfl, cell, oc, pm, ctv, c', hk _ hf (.inl ⟨_, rfl⟩), hk _ hc (.inr (.inl ⟨_, hdc⟩)), hdc, oc', vs, t, hk _ h3 (.inr (.inr (.inl ⟨_, _, _, h4, h5⟩))), h4, h5⟩
theorem code_keep {news news' : List (Addr × Obj)} {c' : Addr} (h : CodeOk news c') (hk : KeepHard news news') : CodeOk news' c' := by
  obtain ⟨oc', vs, t, h3, h4, h5⟩ := h
  exact ⟨oc', vs, t, hk _ h3 (.inr (.inr (.inl ⟨_, _, _, h4, h5⟩))), h4, h5⟩
theorem tab_keep {P : Params} {news news' : List (Addr × Obj)} (h : TabOk P news) (hk : KeepHard news news') (h1 : ∀ q ∈ news, q.1 = 100 → q.2.cls = .none → q ∈ news') : TabOk P news' := by
  rcases h with h | ⟨c', h, hc⟩
  · exact .inl (h1 _ h rfl rfl)
  · exact .inr ⟨c', h1 _ h rfl rfl, code_keep hc hk⟩
/-- the tuples of a ledger -/
def tups (news : List (Addr × Obj)) : List (Addr × Obj) := news.filter fun q => q.2.cls == .type "tuple"
theorem tups_keep {news news' : List (Addr × Obj)} (hk : KeepHard news news') : ∀ q ∈ tups news, q ∈ tups news' := fun q hq => by
  obtain ⟨h1, h2⟩ := List.mem_filter.mp hq
  exact List.mem_filter.mpr ⟨hk q h1 (.inr (.inr (.inr (by simpa using h2)))), h2⟩
theorem tups_sub {news : List (Addr × Obj)} : ∀ q ∈ tups news, q ∈ news := fun q hq => (List.mem_filter.mp hq).1
section
variable {κ : Type} [DecidableEq κ] {α : Type}
/-- what _law_put leaves -/
def bput (rows : List (κ × List α)) (k : κ) (d : α) (grows : Bool) : List (κ × List α) := match rows with
  | [] => if grows then [(k, [d])] else []
  | p :: r => if p.1 = k then (p.1, p.2 ++ [d]) :: r else p :: bput r k d grows
theorem bput_none : ∀ {rows : List (κ × List α)} {k : κ} {d : α} {g : Bool}, bfind rows k = none → bput rows k d g = if g then rows ++ [(k, [d])] else rows
  | [], _, _, g, _ => by cases g <;> rfl
  | p :: r, k, d, g, h => by
    unfold bfind at h
    by_cases e : p.1 = k
    · rw [if_pos e] at h; cases h
    · rw [if_neg e] at h
      rw [bput, if_neg e, bput_none h]
      cases g <;> rfl
variable (news : List (Addr × Obj))
def RowsL : List (κ × Addr) → List (κ × List Dat) → Prop
  | [], [] => True
  | p :: r, q :: r' => (p.1 = q.1 ∧ ∃ vs n, (p.2, W.listOf vs.toArray n) ∈ news ∧ DatAll (tups news) vs q.2) ∧ RowsL r r'
  | _, _ => False
end
section
variable {κ : Type} [DecidableEq κ] {news news' : List (Addr × Obj)}
theorem rows_keep (hk : KeepHard news news') : ∀ {ks : List (κ × Addr)} {rows : List (κ × List Dat)}, RowsL news ks rows → (∀ q ∈ news, q.1 ∈ ks.map (·.2) → q.2.cls = .type "list" → q ∈ news') → RowsL news' ks rows
  | [], [], _, _ => trivial
  | [], _ :: _, h, _ => h.elim
  | _ :: _, [], h, _ => h.elim
  | p :: r, q :: r', h, h1 => by
    obtain ⟨⟨e, vs, n, hm, hd⟩, hr⟩ := h
    exact ⟨⟨e, vs, n, h1 _ hm (by simp) rfl, hd.mono (tups_keep hk)⟩, rows_keep hk hr fun z hz hz' => h1 z hz (by simp only [List.map_cons, List.mem_cons]; exact .inr hz')⟩
theorem rows_find : ∀ {ks : List (κ × Addr)} {rows : List (κ × List Dat)} {k : κ}, RowsL news ks rows → (bfind ks k = none → bfind rows k = none) ∧ ∀ l, bfind ks k = some l → l ∈ ks.map (·.2) ∧ ∃ vs n ds, (l, W.listOf vs.toArray n) ∈ news ∧ DatAll (tups news) vs ds ∧ bfind rows k = some ds
  | [], [], k, _ => And.intro (fun _ => rfl) (fun l h => by cases h)
  | [], _ :: _, _, h => h.elim
  | _ :: _, [], _, h => h.elim
  | p :: r, q :: r', k, h => by
    obtain ⟨⟨e, vs, n, hm, hd⟩, hr⟩ := h
    obtain ⟨i1, i2⟩ := rows_find (k := k) hr
    unfold bfind
    by_cases hp : p.1 = k
    · rw [if_pos hp, if_pos (e ▸ hp)]
      refine And.intro (fun h => by cases h) (fun l h => ?_)
      cases h
      exact ⟨by simp, vs, n, q.2, hm, hd, rfl⟩
    · rw [if_neg hp, if_neg (e ▸ hp)]
      refine ⟨i1, fun l h => ?_⟩
      obtain ⟨a, b⟩ := i2 l h
      exact ⟨by simp only [List.map_cons, List.mem_cons]; exact .inr a, b⟩
/-- a record goes behind those of its row -/
theorem rows_push (hk : KeepHard news news') {k : κ} {l : Addr} {v : Value} {d : Dat} {g : Bool} (hl : ∀ vs n, (l, W.listOf vs.toArray n) ∈ news → ∃ n', (l, W.listOf (vs ++ [v]).toArray n') ∈ news') (hb : KeepBut l news news') (hd : DatIn (tups news') v d) :
    ∀ {ks : List (κ × Addr)} {rows : List (κ × List Dat)}, RowsL news ks rows → bfind ks k = some l → (ks.map (·.2)).Nodup → RowsL news' ks (bput rows k d g)
  | [], _, _, h, _ => by cases h
  | _ :: _, [], h, _, _ => h.elim
  | p :: r, q :: r', h, hf, hn => by
    obtain ⟨⟨e, vs, n, hm, hds⟩, hr⟩ := h
    rw [List.map_cons, List.nodup_cons] at hn
    unfold bfind at hf
    by_cases hp : p.1 = k
    · rw [if_pos hp] at hf
      have el : p.2 = l := Option.some.inj hf
      rw [bput, if_pos (e ▸ hp)]
      obtain ⟨n', hn'⟩ := hl vs n (el ▸ hm)
      exact ⟨⟨e, vs ++ [v], n', el ▸ hn', (hds.mono (tups_keep hk)).append (.one hd)⟩, rows_keep hk hr fun z hz hz' _ => hb z hz fun e2 => hn.1 (by rw [el, ← e2]; exact hz')⟩
    · rw [if_neg hp] at hf
      rw [bput, if_neg (e ▸ hp)]
      have hlr : l ∈ r.map (·.2) := ((rows_find (k := k) hr).2 l hf).1
      exact ⟨⟨e, vs, n, hb _ hm fun e2 => hn.1 (by rw [show p.2 = l from e2]; exact hlr), hds.mono (tups_keep hk)⟩, rows_push hk hl hb hd hr hf hn.2⟩
theorem rows_snoc {k : κ} {l : Addr} {v : Value} {d : Dat} {n : Nat} (hl : (l, W.listOf [v].toArray n) ∈ news) (hd : DatIn (tups news) v d) : ∀ {ks : List (κ × Addr)} {rows : List (κ × List Dat)}, RowsL news ks rows → RowsL news (ks ++ [(k, l)]) (rows ++ [(k, [d])])
  | [], [], _ => ⟨⟨rfl, [v], n, hl, .one hd⟩, trivial⟩
  | [], _ :: _, h => h.elim
  | _ :: _, [], h => h.elim
  | _ :: _, _ :: _, h => ⟨h.1, rows_snoc hl hd h.2⟩
end
end Mine
end

section -- E1
open PySem PySem.W PySem.W.X PyProof.Rows PySem.Calls
set_option Elab.async false
set_option maxRecDepth 100000
set_option maxHeartbeats 1000000
namespace Mine
section
variable {w : World} {prog : Program} {A : Around} {E : Value → Shared → Prop} {s : Shared} {env : Env} {h₀ : Heap} {target iter : Expr} {body orelse : List Stmt} {pos : Pos} {Q : Flow → Shared → Prop}
/-- after a turn: the iterator as it stood, and the invariant -/
def TurnOver (h₀ : Heap) (L I : Addr) (o : Obj) (J : (Str → Option Value) → List (Addr × Obj) → Prop) (s : Shared) (Q : Flow → Shared → Prop) (f : Flow) (s₃ : Shared) : Prop :=
  match f with
  | .ret v => Q (.ret v) s₃
  | .brk => Q .next s₃
  | _ => ∃ h' tk' m' news', s₃ = { s with heap := h', toks := tk' } ∧ Fr h₀ L h' m' ∧ News h₀ L h' ((I, o) :: news') ∧ (∀ p ∈ news', p.1 ≠ I) ∧ J m' news'
/-- a for over a tuple that stood before, with an else -/
theorem forElse {T : Addr} {items : Array Value} {m : Str → Option Value} {news : List (Addr × Obj)} (J : Nat → (Str → Option Value) → List (Addr × Obj) → Prop)
    (hh : A.handled = none) (F : Fr h₀ env.locals s.heap m) (N : News h₀ env.locals s.heap news) (hT : h₀.IsTuple T items) (h0 : J 0 m news)
    (step : ∀ I i v m₁ news₁ h tk o, items[i]? = some v → J i m₁ news₁ → Fr h₀ env.locals h m₁ → News h₀ env.locals h ((I, o) :: news₁) → (∀ p ∈ news₁, p.1 ≠ I) →
      wpAny (model prog w) A (assign target env v) (fun _ s₂ => wpAny (model prog w) A (execs body env) (TurnOver h₀ env.locals I o (J (i + 1)) s Q) E s₂) E { s with heap := h, toks := tk })
    (last : ∀ m₁ news₁ h tk, J items.size m₁ news₁ → Fr h₀ env.locals h m₁ → News h₀ env.locals h news₁ → wpAny (model prog w) A (execs orelse env) Q E { s with heap := h, toks := tk })
    (he : ∀ R : Value → Shared → Prop, R (.ref T) s → wpAny (model prog w) A (eval iter env) R E s)
    (hs : ∀ x, foldedSetIterable iter env x = pure x := by intro _; rfl)
    (hE : PassesOwn (model prog w) A env E := by passes_own) :
    wpAny (model prog w) A (exec (.For target iter body orelse pos) env) Q E s := by
  refine wpAny_For (he _ ?_) hs
  have hTs : s.heap.IsTuple T items := hT.at fun o e => F.keep _ _ e
  refine wpAny_pyIter_tuple hTs ?_
  have hItNew : h₀.get? s.heap.objs.size = none := next_is_new F
  have hLI : env.locals ≠ s.heap.objs.size := Nat.ne_of_lt F.ns.lt
  refine codeAny_forLoop_any
    (fun k s' => ∃ h' tk m' news' i o, s' = { s with heap := h', toks := tk } ∧ h'.get? s.heap.objs.size = some o ∧ h'.IsTupleIter s.heap.objs.size T i ∧ Fr h₀ env.locals h' m' ∧ News h₀ env.locals h' news' ∧ (∀ p ∈ news', p.1 ≠ s.heap.objs.size) ∧ J i m' news' ∧ i ≤ items.size ∧ k = items.size + 1 - i) ?_ (items.size + 1)
    ⟨_, s.toks, m, news, 0, _, rfl, Heap.get?_push_size _ rfl, ⟨_, Heap.get?_push_size _ rfl, rfl, rfl⟩, F.push _, fun p hp => ⟨Heap.get?_push_of_some _ (N p hp).1, (N p hp).2⟩, fun p hp => Nat.ne_of_lt (Heap.lt_size (N p hp).1), h0, Nat.zero_le _, rfl⟩
  rintro k s' ⟨h', tk, m', news', i, o, rfl, ho, hit, F', N', off, hJ, hi, rfl⟩
  have hT' : h'.IsTuple T items := hT.at fun o e => F'.keep _ _ e
  by_cases hlt : i < items.size
  · refine wpAny_pyNext_tuple_item hit hT' (Array.getElem?_eq_getElem hlt) fun h₁ hit₁ hsb => ?_
    refine letGo_tupleiter hit₁ ?_
    have F₁ : Fr h₀ env.locals h₁ m' := F'.change hsb hLI.symm hItNew
    have N₁ : News h₀ env.locals h₁ news' := fun p hp => ⟨(hsb.2 p.1 (off p hp)).trans (N' p hp).1, (N' p hp).2⟩
    obtain ⟨o₁, ho₁, _, _⟩ := id hit₁
    have N₂ : News h₀ env.locals h₁ ((s.heap.objs.size, o₁) :: news') := fun p hp => by
      rcases List.mem_cons.mp hp with rfl | hp
      · exact ⟨ho₁, hLI.symm, hItNew⟩
      · exact N₁ p hp
    refine wpAny_mono (step _ i _ m' news' h₁ tk o₁ (Array.getElem?_eq_getElem hlt) hJ F₁ N₂ off) (fun _ s₂ h₂ => wpAny_mono h₂ (fun f s₃ p => ?_) hE) hE
    cases f with
    | ret v => exact p
    | brk => exact p
    | next =>
      obtain ⟨h₃, tk₃, m₃, news₃, e, F₃, N₃, off₃, hJ₃⟩ := p
      refine ⟨items.size + 1 - (i + 1), by omega, h₃, tk₃, m₃, news₃, i + 1, o₁, e, (N₃ _ (.head _)).1, ?_, F₃, fun p hp => N₃ p (.tail _ hp), off₃, hJ₃, hlt, rfl⟩
      obtain ⟨o₂, ho₂, hc₂, hd₂⟩ := id hit₁
      have q : o₂ = o₁ := Option.some.inj (ho₂.symm.trans ho₁)
      exact ⟨o₁, (N₃ _ (.head _)).1, q ▸ hc₂, q ▸ hd₂⟩
    | cont =>
      obtain ⟨h₃, tk₃, m₃, news₃, e, F₃, N₃, off₃, hJ₃⟩ := p
      refine ⟨items.size + 1 - (i + 1), by omega, h₃, tk₃, m₃, news₃, i + 1, o₁, e, (N₃ _ (.head _)).1, ?_, F₃, fun p hp => N₃ p (.tail _ hp), off₃, hJ₃, hlt, rfl⟩
      obtain ⟨o₂, ho₂, hc₂, hd₂⟩ := id hit₁
      have q : o₂ = o₁ := Option.some.inj (ho₂.symm.trans ho₁)
      exact ⟨o₁, (N₃ _ (.head _)).1, q ▸ hc₂, q ▸ hd₂⟩
  · have hin : i = items.size := by omega
    subst hin
    refine wpAny_pyNext_tuple_end hh hit hT' (Array.getElem?_eq_none (Nat.le_refl _)) fun h₁ hx => ?_
    have F₁ : Fr h₀ env.locals h₁ m' := ⟨F'.ns.at' fun o e => hx _ o hLI e, fun b o e => hx b o (fun q => by rw [q, hItNew] at e; cases e) (F'.keep b o e), F'.above⟩
    have N₁ : News h₀ env.locals h₁ news' := fun p hp => ⟨hx _ _ (off p hp) (N' p hp).1, (N' p hp).2⟩
    exact wpAny_mono (last m' news' h₁ tk hJ F₁ N₁) (fun _ _ z => z) hE
end
end Mine
end

section -- E2
open PySem PySem.W PySem.W.X PyProof.Rows PySem.Calls
set_option Elab.async false
set_option maxRecDepth 100000
set_option maxHeartbeats 1000000
namespace Mine
section
local macro_rules | `(tactic| x_close) => `(tactic| (apply_assumption <;> first | assumption | rfl))
theorem enum_tuple0 {w : World} {fr : List Env} {Q E : Value → Shared → Prop} {s : Shared} {T : Addr} {xs : Array Value} {n : Nat} (hl : s.heap.get? T = some ⟨.type "tuple", none, .seq xs n, #[]⟩)
    (hq : ∀ e it h' t', Mem s.heap h' [] [(e, { cls := .type "enumerate", data := .fields #[.none, .bool false, .ref it, rawInt 0, .none, .none] }), (it, { cls := .type "tuple_iterator", data := .fields #[.ref T, .int 0 0] })] → Q (.ref e) ⟨h', s.gens, s.drawn, t', s.os⟩) :
    wpAny (model Challenge.rw_in0191_01.row.prog w) (Am 400 100 fr) (call (.type "enumerate") [.ref T]) Q E s := by
  x_run
end
section
variable {prog : Program} {w : World} {A : Around} {E : Value → Shared → Prop} {s : Shared}
theorem nextOf_tuple_item {it l : Addr} {i : Nat} {items} {x : Value} {Q : Value → Shared → Prop} (hit : s.heap.IsTupleIter it l i)
    (hl : s.heap.IsTuple l items) (hx : items[i]? = some x)
    (hQ : ∀ h', h'.IsTupleIter it l (i + 1) → Heap.SameBut it s.heap h' → Q x { s with heap := h' }) :
    wpAny (model prog w) A (Builtin.SmallTypes.nextOf (.ref it)) Q E s := by
  obtain ⟨o, ho, hc, hd⟩ := id hit
  obtain ⟨ol, hol, _, nl, hdl⟩ := hl
  unfold Builtin.SmallTypes.nextOf
  refine wpAny_bind (wpAny_callSpecial?_slot (name := Str.ofString "__next__") hit.typeIs F.slot_tuple_iterator_next
    (wpAny_call_entry F.slot_tuple_iterator_next hit.typeIs F.entry_tuple_iterator_next ?_ (F.args_tuple_iterator_next_1 _)))
  show wpAny _ _ (field (.ref it) 0 >>= _) _ _ s
  refine wpAny_bind (wpAny_field ho hd (x := .ref l) rfl ?_)
  show wpAny _ _ (if (Value.ref l == Value.none) = true then _ else _) _ _ s
  rw [if_neg (show ¬ ((Value.ref l == Value.none) = true) from Bool.false_ne_true)]
  show wpAny _ _ (field (.ref it) 1 >>= _) _ _ s
  refine wpAny_bind (wpAny_field ho hd (x := .int i 0) rfl ?_)
  show wpAny _ _ (seqItems? (.ref l) >>= _) _ _ s
  refine wpAny_bind (wpAny_seqItems hol hdl ?_)
  simp only [Int.toNat_natCast, hx]
  refine wpAny_bind (wpAny_setField ho hd (by simp) (wpAny_pure ⟨x, rfl, wpAny_pure (hQ _ ?_ (Heap.SameBut.update ..))⟩))
  exact ⟨_, Heap.get?_update_self _ ho (Obj.isFreed_of_fields (Obj.data_mapFields hd _)), (Obj.cls_mapFields ..).trans hc, by
    rw [Obj.data_mapFields hd]; simp [rawInt]⟩
theorem nextOf_tuple_end {it t : Addr} {i : Nat} {items} {Q : Value → Shared → Prop} (hh : A.handled = none)
    (hit : s.heap.IsTupleIter it t i) (ht : s.heap.IsTuple t items) (hx : items[i]? = none)
    (hE : ∀ h' e, Heap.ExtBut it s.heap h' → (∃ o, h'.get? e = some o ∧ o.cls = .type "StopIteration") → E (.ref e) { s with heap := h' }) :
    wpAny (model prog w) A (Builtin.SmallTypes.nextOf (.ref it)) Q E s := by
  obtain ⟨o, ho, hc, hd⟩ := id hit
  obtain ⟨ol, hol, _, nl, hdl⟩ := ht
  unfold Builtin.SmallTypes.nextOf
  refine wpAny_bind (wpAny_callSpecial?_slot (name := Str.ofString "__next__") hit.typeIs F.slot_tuple_iterator_next
    (wpAny_call_entry F.slot_tuple_iterator_next hit.typeIs F.entry_tuple_iterator_next ?_ (F.args_tuple_iterator_next_1 _)))
  show wpAny _ _ (field (.ref it) 0 >>= _) _ _ s
  refine wpAny_bind (wpAny_field ho hd (x := .ref t) rfl ?_)
  show wpAny _ _ (if (Value.ref t == Value.none) = true then _ else _) _ _ s
  rw [if_neg (show ¬ ((Value.ref t == Value.none) = true) from Bool.false_ne_true)]
  show wpAny _ _ (field (.ref it) 1 >>= _) _ _ s
  refine wpAny_bind (wpAny_field ho hd (x := .int i 0) rfl ?_)
  show wpAny _ _ (seqItems? (.ref t) >>= _) _ _ s
  refine wpAny_bind (wpAny_seqItems hol hdl ?_)
  simp only [Int.toNat_natCast, hx]
  refine wpAny_bind (wpAny_rule (wpAny_bind (wpAny_setField ho hd (by simp) ?_)))
  show wpAny _ _ (newExc (.type "StopIteration") [] >>= _) _ _ _
  refine wpAny_bind ?_
  simp only [newExc, newTuple]
  refine wpAny_bind (wpAny_newObj_type ?_ (by size_fits))
  refine wpAny_bind (m := firstArgMember _ _) (wpAny_of_eq (a := Value.none) (by first | rfl | (simp only [firstArgMember]; rfl)) ?_)
  refine wpAny_newObj_type ?_ (by size_fits)
  simp only [raiseNew]
  refine wpAny_bind (wpAny_handled ?_)
  first | rw [show A.in1.handled = none from hh] | rw [hh]
  refine wpAny_bind (wpAny_pure (wpAny_throw ?_))
  exact hE _ _ (((Heap.SameBut.update ..).extBut.push _).push _) ⟨_, Heap.get?_push_size _ rfl, rfl⟩
theorem draws_tuple (hh : A.handled = none) (it l : Addr) (hne : l ≠ it) (items : Array Value) :
    Draws prog w A it [it, l] items.size (fun i v => items[i]? = some v) (fun i h => h.IsTupleIter it l i ∧ h.IsTuple l items) where
  live := fun _ _ st => let ⟨o, ho, _⟩ := st.1; ⟨o, ho⟩
  frame := fun _ _ _ st hk => ⟨by obtain ⟨o, ho, r⟩ := st.1; exact ⟨o, hk it (by simp) o ho, r⟩, st.2.at fun o e => hk l (by simp) o e⟩
  item := fun i s Q E hi st hQ => by
    refine nextOf_tuple_item st.1 st.2 (x := items[i]) (by simp [hi]) fun h' hit' hs' => ?_
    exact hQ _ h' s.toks (by simp [hi]) ⟨hit', st.2.extBut hs'.extBut hne⟩ hs'
  done := fun s Q E st hE => nextOf_tuple_end hh st.1 st.2 (by simp) hE
end
section
variable {w : World} {prog : Program} {A : Around} {E : Value → Shared → Prop} {s : Shared} {env : Env} {h₀ : Heap} {elts : List Expr} {kt : Nat} {tpos : Pos} {iter : Expr} {body orelse : List Stmt} {pos : Pos} {Q : Flow → Shared → Prop}
/-- after a turn over two iterator objects -/
def TurnOver2 (h₀ : Heap) (L e it : Addr) (oe oi : Obj) (J : (Str → Option Value) → List (Addr × Obj) → Prop) (s : Shared) (Q : Flow → Shared → Prop) (f : Flow) (s₃ : Shared) : Prop :=
  match f with
  | .ret v => Q (.ret v) s₃
  | .brk => Q .next s₃
  | _ => ∃ h' tk' m' news', s₃ = { s with heap := h', toks := tk' } ∧ Fr h₀ L h' m' ∧ News h₀ L h' ((e, oe) :: (it, oi) :: news') ∧ (∀ p ∈ news', p.1 ≠ e ∧ p.1 ≠ it) ∧ J m' news'
/-- a for over enumerate(..) of a sequence that keeps still -/
theorem forEnum {l : Addr} {items : Array Value} {St : Addr → Nat → Heap → Prop} {m : Str → Option Value} {news : List (Addr × Obj)} (J : Nat → (Str → Option Value) → List (Addr × Obj) → Prop)
    (D : ∀ it, l ≠ it → Draws prog w A.in1 it [it, l] items.size (fun i v => items[i]? = some v) (St it)) (F : Fr h₀ env.locals s.heap m) (N : News h₀ env.locals s.heap news) (h0 : J 0 m news)
    (keep : ∀ i m₁ news₁ h o, J i m₁ news₁ → Fr h₀ env.locals h m₁ → News h₀ env.locals h news₁ → s.heap.get? l = some o → h.get? l = some o) (hl : ∃ o, s.heap.get? l = some o)
    (step : ∀ e it i T t v m₁ news₁ h tk oe oi, items[i]? = some v → J i m₁ news₁ → IsTup h T #[.int i t, v] → Fr h₀ env.locals h m₁ → News h₀ env.locals h ((e, oe) :: (it, oi) :: news₁) → (∀ p ∈ news₁, p.1 ≠ e ∧ p.1 ≠ it) →
      oe.cls = .type "enumerate" → (∃ old, IsEnum h e it ((i + 1 : Nat) : Int) old) → St it (i + 1) h →
      wpAny (model prog w) A (assign (.Tuple elts kt tpos) env (.ref T)) (fun _ s₂ => wpAny (model prog w) A (execs body env) (TurnOver2 h₀ env.locals e it oe oi (J (i + 1)) s Q) E s₂) E { s with heap := h, toks := tk })
    (last : ∀ m₁ news₁ h tk, J items.size m₁ news₁ → Fr h₀ env.locals h m₁ → News h₀ env.locals h news₁ → wpAny (model prog w) A (execs orelse env) Q E { s with heap := h, toks := tk })
    (he : ∀ R : Value → Shared → Prop, (∀ e it h' t', IsEnum h' e it 0 .none → St it 0 h' → l ≠ it → e ≠ it → s.heap.get? e = none → s.heap.get? it = none → (∀ b o, s.heap.get? b = some o → h'.get? b = some o) → R (.ref e) { s with heap := h', toks := t' }) → wpAny (model prog w) A (eval iter env) R E s)
    (hs : ∀ x, foldedSetIterable iter env x = pure x := by intro _; rfl)
    (hE : PassesOwn (model prog w) A env E := by passes_own) :
    wpAny (model prog w) A (exec (.For (.Tuple elts kt tpos) iter body orelse pos) env) Q E s := by
  refine wpAny_For (he _ fun e it h₁ t₁ hEn hSt hlit heit hen hitn hk₁ => ?_) hs
  refine wpAny_pyIter_enum hEn ?_
  obtain ⟨ol, hol⟩ := hl
  have hle : l ≠ e := fun q => by rw [q, hen] at hol; cases hol
  have W := (WalksT.enumerateD (D it hlit) e heit (by simp [heit, Ne.symm hle]) (by simp)).toU
  have old : ∀ b, s.heap.get? b = none → h₀.get? b = none := fun b hb => by
    cases q : h₀.get? b with
    | none => rfl
    | some o => rw [F.keep _ _ q] at hb; cases hb
  obtain ⟨oL, esL, epL, hL, _⟩ := id F.ns
  have hLe : e ≠ env.locals := fun q => by rw [← q, hen] at hL; cases hL
  have hLi : it ≠ env.locals := fun q => by rw [← q, hitn] at hL; cases hL
  have offN : ∀ p ∈ news, p.1 ≠ e ∧ p.1 ≠ it := fun p hp => And.intro (fun q => by have z := (N p hp).1; rw [q, hen] at z; cases z) (fun q => by have z := (N p hp).1; rw [q, hitn] at z; cases z)
  refine codeAny_forLoop_any
    (fun k s' => ∃ (h' : Heap) (tk : Nat) (m' : Str → Option Value) (news' : List (Addr × Obj)) (i : Nat), s' = { s with heap := h', toks := tk } ∧ ((∃ old, IsEnum h' e it (i : Int) old) ∧ St it i h') ∧ Fr h₀ env.locals h' m' ∧ News h₀ env.locals h' news' ∧ (∀ p ∈ news', p.1 ≠ e ∧ p.1 ≠ it) ∧ J i m' news' ∧ i ≤ items.size ∧ k = items.size + 1 - i) ?_ (items.size + 1)
    ⟨h₁, t₁, m, news, 0, rfl, ⟨⟨.none, hEn⟩, hSt⟩, F.keeps hk₁, fun p hp => ⟨hk₁ _ _ (N p hp).1, (N p hp).2⟩, offN, h0, Nat.zero_le _, rfl⟩
  rintro k s' ⟨h', tk, m', news', i, rfl, hst, F', N', off, hJ, hi, rfl⟩
  have next : ∀ h₂ : Heap, (∀ b o, b ∉ [e, it] → h'.get? b = some o → h₂.get? b = some o) → Fr h₀ env.locals h₂ m' ∧ News h₀ env.locals h₂ news' := fun h₂ hk₂ =>
    ⟨⟨F'.ns.at' fun o e' => hk₂ _ o (by simp [Ne.symm hLe, Ne.symm hLi]) e', fun b o q => hk₂ b o (by
      have q1 : b ≠ e := fun z => by rw [z, old e hen] at q; cases q
      have q2 : b ≠ it := fun z => by rw [z, old it hitn] at q; cases q
      simp [q1, q2]) (F'.keep b o q), F'.above⟩, fun p hp => ⟨hk₂ _ _ (by simp [(off p hp).1, (off p hp).2]) (N' p hp).1, (N' p hp).2⟩⟩
  by_cases hlt : i < items.size
  · refine W.item i _ _ _ hlt hst fun T vals h₂ tk₂ hP hT hMid hk₂ => ?_
    obtain ⟨t, x, hx, rfl⟩ := hP
    refine W.go elts kt tpos i T _ _ _ hMid fun h₃ hst₃ hk₃ => ?_
    have hT₃ : IsTup h₃ T #[.int i t, x] := by
      obtain ⟨o, ho, r⟩ := hT
      exact ⟨o, hk₃ _ _ (W.apart _ _ _ hMid) ho, r⟩
    obtain ⟨F₃, N₃⟩ := next h₃ fun b o hb q => hk₃ b o hb (hk₂ b o hb q)
    obtain ⟨⟨old₃, hE₃⟩, hS₃⟩ := id hst₃
    obtain ⟨oi, hoi⟩ := (D it hlit).live _ _ hS₃
    have N₄ : News h₀ env.locals h₃ ((e, _) :: (it, oi) :: news') := fun p hp => by
      rcases List.mem_cons.mp hp with rfl | hp
      · exact ⟨hE₃, hLe, old e hen⟩
      rcases List.mem_cons.mp hp with rfl | hp
      · exact ⟨hoi, hLi, old it hitn⟩
      · exact N₃ p hp
    refine wpAny_mono (step e it i T t x m' news' h₃ tk₂ _ oi hx hJ hT₃ F₃ N₄ off rfl ⟨old₃, hE₃⟩ hS₃) (fun _ s₂ h₂ => wpAny_mono h₂ (fun f s₃ p => ?_) hE) hE
    have fin : ∀ h₅ m₅ news₅, Fr h₀ env.locals h₅ m₅ → News h₀ env.locals h₅ ((e, _) :: (it, oi) :: news₅) → J (i + 1) m₅ news₅ → ((∃ old, IsEnum h₅ e it ((i + 1 : Nat) : Int) old) ∧ St it (i + 1) h₅) := fun h₅ m₅ news₅ F₅ N₅ hJ₅ => by
      refine W.frame (i + 1) h₃ h₅ hst₃ fun b hb o q => ?_
      have hb' : b = e ∨ b = it ∨ b = l := by simpa using hb
      rcases hb' with rfl | rfl | rfl
      · have z : some _ = some o := hE₃.symm.trans q
        rw [← Option.some.inj z]; exact (N₅ _ (.head _)).1
      · rw [← Option.some.inj (hoi.symm.trans q)]; exact (N₅ _ (.tail _ (.head _))).1
      · have z := keep _ _ _ h₃ ol hJ F₃ N₃ hol
        rw [← Option.some.inj (z.symm.trans q)]
        exact keep _ _ _ h₅ ol hJ₅ F₅ (cb_drop N₅ fun p hp => .tail _ (.tail _ hp)) hol
    cases f with
    | ret v => exact p
    | brk => exact p
    | next =>
      obtain ⟨h₅, tk₅, m₅, news₅, q, F₅, N₅, off₅, hJ₅⟩ := p
      exact ⟨items.size + 1 - (i + 1), by omega, h₅, tk₅, m₅, news₅, i + 1, q, fin h₅ m₅ news₅ F₅ N₅ hJ₅, F₅, cb_drop N₅ (fun p hp => .tail _ (.tail _ hp)), off₅, hJ₅, hlt, rfl⟩
    | cont =>
      obtain ⟨h₅, tk₅, m₅, news₅, q, F₅, N₅, off₅, hJ₅⟩ := p
      exact ⟨items.size + 1 - (i + 1), by omega, h₅, tk₅, m₅, news₅, i + 1, q, fin h₅ m₅ news₅ F₅ N₅ hJ₅, F₅, cb_drop N₅ (fun p hp => .tail _ (.tail _ hp)), off₅, hJ₅, hlt, rfl⟩
  · have hin : i = items.size := by omega
    subst hin
    refine W.done _ _ _ hst fun h₂ tk₂ hk₂ => ?_
    obtain ⟨F₂, N₂⟩ := next h₂ hk₂
    exact wpAny_mono (last m' news' h₂ tk₂ hJ F₂ N₂) (fun _ _ z => z) hE
end
end Mine
end

section -- M1
open PySem PySem.W PySem.W.X PyProof.Rows PySem.Calls
set_option Elab.async false
set_option maxRecDepth 100000
set_option maxHeartbeats 1000000
namespace Mine
def tupIn (K : Frag) (v : Value) : Option (Array Value) := match v with
  | .ref a => match K.lookup a with
    | some ⟨.type "tuple", none, .seq xs _, ⟨[]⟩⟩ => some xs
    | _ => none
  | _ => none
def rowIn (K : Frag) (v : Value) : Option (Int × Str) := match tupIn K v with
  | some ⟨[.int b _, .str c _]⟩ => some (b, c)
  | _ => none
def rowsIn (K : Frag) (v : Value) : Option (List (Int × Str)) := (tupIn K v).bind fun xs => xs.toList.mapM (rowIn K)
def modeTable : List (List (Int × Str)) :=
  [[(40960, "l"), (49152, "s"), (32768, "-"), (24576, "b"), (16384, "d"), (8192, "c"), (4096, "p")], [(256, "r")], [(128, "w")], [(2112, "s"), (2048, "S"), (64, "x")],
   [(32, "r")], [(16, "w")], [(1032, "s"), (1024, "S"), (8, "x")], [(4, "r")], [(2, "w")], [(513, "t"), (512, "T"), (1, "x")]]
theorem f_table (P : Params) : ((tupIn (hd.heap_39 P) (.ref 253)).bind fun xs => xs.toList.mapM (rowsIn (hd.heap_39 P))) = some modeTable := by kernel_rfl
theorem tupIn_at {K : Frag} {h : Heap} {v : Value} {xs : Array Value} (X : K.In h) (e : tupIn K v = some xs) : ∃ (a : Addr) (n : Nat), v = .ref a ∧ h.get? a = some ⟨.type "tuple", none, .seq xs n, #[]⟩ := by
  unfold tupIn at e
  cases v <;> try (cases e; done)
  rename_i a
  cases q : K.lookup a with
  | none => simp [q] at e
  | some o =>
    dsimp only at e
    rw [q] at e
    have z := X _ _ q
    split at e
    · rename_i h1; cases h1; cases e; exact ⟨a, _, rfl, z⟩
    · cases e
theorem tupIn_is {K : Frag} {h : Heap} {v : Value} {xs : Array Value} (X : K.In h) (e : tupIn K v = some xs) : ∃ a, v = .ref a ∧ h.IsTuple a xs := by
  obtain ⟨a, n, e1, e2⟩ := tupIn_at X e
  exact ⟨a, e1, _, e2, rfl, n, rfl⟩
theorem rowIn_is {K : Frag} {h : Heap} {v : Value} {b : Int} {c : Str} (X : K.In h) (e : rowIn K v = some (b, c)) : ∃ a t u, v = .ref a ∧ h.IsTuple a #[.int b t, .str c u] := by
  unfold rowIn at e
  split at e
  · rename_i b' t' c' u' q
    cases e
    obtain ⟨a, rfl, ha⟩ := tupIn_is X q
    exact ⟨a, _, _, rfl, ha⟩
  · cases e
theorem mapM_get {α β : Type} {f : α → Option β} : ∀ {l : List α} {r : List β}, l.mapM f = some r → l.length = r.length ∧ ∀ (i : Nat) (v : α), l[i]? = some v → ∃ y : β, r[i]? = some y ∧ f v = some y
  | [], r, e => by
    simp at e; subst e; exact ⟨rfl, fun i v h => by simp at h⟩
  | a :: l, r, e => by
    rw [List.mapM_cons] at e
    cases q : f a with
    | none => rw [q] at e; cases e
    | some b =>
      rw [q] at e
      cases q2 : l.mapM f with
      | none => rw [q2] at e; cases e
      | some r' =>
        rw [q2] at e
        cases e
        obtain ⟨h1, h2⟩ := mapM_get q2
        refine ⟨by simp [h1], fun i v h => ?_⟩
        cases i with
        | zero => simp at h; subst h; exact ⟨b, rfl, q⟩
        | succ i => simp at h; simpa using h2 i v h
/-- the table, as the loops meet it -/
theorem table_is {P : Params} {h : Heap} (X : (hd.heap_39 P).In h) : ∃ (xs : Array Value) (n : Nat), h.get? 253 = some ⟨.type "tuple", none, .seq xs n, #[]⟩ ∧ xs.size = modeTable.length ∧
    ∀ (i : Nat) (v : Value), xs[i]? = some v → ∃ rows : List (Int × Str), modeTable[i]? = some rows ∧ ∃ (T : Addr) (items : Array Value), v = .ref T ∧ h.IsTuple T items ∧ items.size = rows.length ∧
      ∀ (j : Nat) (u : Value), items[j]? = some u → ∃ r : Int × Str, rows[j]? = some r ∧ ∃ (a : Addr) (t t' : Tok), u = .ref a ∧ h.IsTuple a #[.int r.1 t, .str r.2 t'] := by
  have q := f_table P
  cases e : tupIn (hd.heap_39 P) (.ref 253) with
  | none => rw [e] at q; cases q
  | some xs =>
    rw [e] at q
    obtain ⟨a, n, ha, hx⟩ := tupIn_at X e
    cases ha
    obtain ⟨h1, h2⟩ := mapM_get (show xs.toList.mapM _ = some modeTable from q)
    refine ⟨xs, n, hx, by simpa using h1, fun i v hv => ?_⟩
    obtain ⟨rows, hr, hrow⟩ := h2 i v (by simpa using hv)
    refine ⟨rows, hr, ?_⟩
    unfold rowsIn at hrow
    cases e2 : tupIn (hd.heap_39 P) v with
    | none => rw [e2] at hrow; cases hrow
    | some items =>
      rw [e2] at hrow
      obtain ⟨T, rfl, hT⟩ := tupIn_is X e2
      obtain ⟨g1, g2⟩ := mapM_get (show items.toList.mapM _ = some rows from hrow)
      refine ⟨T, items, rfl, hT, by simpa using g1, fun j u hu => ?_⟩
      obtain ⟨r, hr, hrr⟩ := g2 j u (by simpa using hu)
      obtain ⟨a, t, t', e3, ha⟩ := rowIn_is X (b := r.1) (c := r.2) hrr
      exact ⟨r, hr, a, t, t', e3, ha⟩
def fmt (mode : Int) : Int := Builtin.bitAnd mode 61440
def hit (i : Nat) (mode b : Int) : Bool := if i = 0 then decide (fmt mode = b) else decide (Builtin.bitAnd mode b = b)
def pick (i : Nat) (mode : Int) (rows : List (Int × Str)) : Str := match rows.find? fun r => hit i mode r.1 with
  | some r => r.2
  | none => if i = 0 then "?" else "-"
def picks (mode : Int) : Nat → List (List (Int × Str)) → List Str
  | _, [] => []
  | i, t :: r => pick i mode t :: picks mode (i + 1) r
theorem picks_snoc (mode : Int) : ∀ (i : Nat) (l : List (List (Int × Str))) (t : List (Int × Str)), picks mode i (l ++ [t]) = picks mode i l ++ [pick (i + l.length) mode t]
  | _, [], _ => rfl
  | i, a :: l, t => by
    show pick i mode a :: picks mode (i + 1) (l ++ [t]) = _
    rw [picks_snoc mode (i + 1) l t, show i + 1 + l.length = i + (a :: l).length by simp; omega]
    rfl
/-- what a list of written signs holds -/
abbrev Strs (vs : List Value) (cs : List Str) : Prop := CarriedAll vs (cs.map fun a => PyData.str a)
theorem carried_snoc {vs : List Value} {ds : List PyData} {v : Value} {d : PyData} (h : CarriedAll vs ds) (hv : Carried v d) : CarriedAll (vs ++ [v]) (ds ++ [d]) := by
  induction h with
  | nil => exact .cons hv .nil
  | cons a _ ih => exact .cons a ih
theorem strs_snoc {vs : List Value} {cs : List Str} {c : Str} {t : Tok} (h : Strs vs cs) : Strs (vs ++ [.str c t]) (cs ++ [c]) := by
  show CarriedAll _ _
  rw [List.map_append]
  exact carried_snoc h (.str c t)
theorem pick_one (i : Nat) (mode : Int) {rows : List (Int × Str)} (h : ∀ r ∈ rows, r.2.length = 1) : (pick i mode rows).length = 1 := by
  unfold pick
  cases e : rows.find? fun r => hit i mode r.1 with
  | some r => exact h r (List.mem_of_find?_eq_some e)
  | none => dsimp only; split <;> decide
theorem picks_one (mode : Int) : ∀ (i : Nat) {l : List (List (Int × Str))}, (∀ rows ∈ l, ∀ r ∈ rows, r.2.length = 1) → ∀ a ∈ picks mode i l, a.length = 1
  | _, [], _, a, ha => (nomatch ha)
  | i, t :: r, h, a, ha => by
    rcases List.mem_cons.mp ha with rfl | ha
    · exact pick_one i mode (h t (.head _))
    · exact picks_one mode (i + 1) (fun rows hr => h rows (.tail _ hr)) a ha
theorem table_one : ∀ rows ∈ modeTable, ∀ r ∈ rows, r.2.length = 1 := by decide +kernel
theorem picks_len (mode : Int) : ∀ (i : Nat) (l : List (List (Int × Str))), (picks mode i l).length = l.length
  | _, [] => rfl
  | i, t :: r => congrArg (· + 1) (picks_len mode (i + 1) r)
/-- the text that filemode writes -/
def fmText (mode : Int) : Str := PySem.Txt.join (Str.ofString "") (picks mode 0 modeTable)
end Mine
end

section -- M2
open PySem PySem.W PySem.W.X PyProof.Rows PySem.Calls
set_option Elab.async false
set_option maxRecDepth 100000
set_option maxHeartbeats 1000000
namespace Mine
section
variable {prog : Program} {w : World} {A : Around} {E : Value → Shared → Prop} {s : Shared} {h₀ : Heap} {L : Addr} {m : Str → Option Value} {news : List (Addr × Obj)}
theorem append_any {l : Addr} {xs : Array Value} {n : Nat} {v : Value} {Q : Value → Shared → Prop} (F : Fr h₀ L s.heap m) (N : News h₀ L s.heap news) (hm : (l, listOf xs n) ∈ news) (hz : xs.size ≤ sizeLine)
    (h : ∀ h', Fr h₀ L h' m → News h₀ L h' ((l, listOf (xs.push v) (n + 1)) :: offL l news) → Q .none { s with heap := h' }) : wpAny (model prog w) A (call (.builtin "list.append") [.ref l, v]) Q E s :=
  append_K F (news_offL N hm) (.head offL_ne) (fun h' F' N' => h h' F' N') hz
theorem assign2 {env : Env} {a b : Str} {pa pb tp : Pos} {kk : Nat} {T : Addr} {x y : Value} {Q : Unit → Shared → Prop} (hh : A.handled = none) (F : Fr h₀ env.locals s.heap m) (N : News h₀ env.locals s.heap news) (hT : IsTup s.heap T #[x, y])
    (h : ∀ (h' : Heap) (tk : Nat), Fr h₀ env.locals h' (fun z => if z = b then some y else if z = a then some x else m z) → News h₀ env.locals h' news → Q () { s with heap := h', toks := tk })
    (ha : env.kindOf a = some .local := by rfl) (hb : env.kindOf b = some .local := by rfl) (hp : (env.scope.kind == .class || (env.scope.kind == .module && env.locals != env.globals)) = false := by rfl) :
    wpAny (model prog w) A (assign (.Tuple [.Name a pa, .Name b pb] kk tp) env (.ref T)) Q E s := by
  refine kcp_assign hh hT ha hb hp F.ns fun h' tk hn hk => ?_
  have old : ∀ c o, h₀.get? c = some o → c ≠ env.locals := fun c o e => Nat.ne_of_lt (Nat.lt_of_lt_of_le (Heap.lt_size e) F.above)
  exact h h' tk ⟨hn, fun c o e => hk c o (old c o e) (F.keep c o e), F.above⟩ fun p hp => ⟨hk _ _ (N p hp).2.1 (N p hp).1, (N p hp).2⟩
end
end Mine
end

section -- S1
open PySem PySem.W PySem.W.X PyProof.Rows PySem.Calls
set_option Elab.async false
set_option maxRecDepth 100000
set_option maxHeartbeats 1000000
namespace Mine
theorem s_ifmt : ∀ {w : World} {dp un : Nat} {cn : Str} {cs : Scope} {a : Addr} {ccd : Value} {cl : List (Str × Addr)} {outer : List Env} {A₀ : Around} {base h₀ : Heap} {L : Addr} {m mg mb : Str → Option Value} {s : Shared} {Q E : Value → Shared → Prop} {news : List (Addr × Obj)} {p : Program} {loose : List Str} {mean : ExcName → Option Value} {k : Int} {t : Tok},
    Below A₀ base outer h₀ → Fr h₀ L s.heap m → (Mine.hd.heap_39 w.params).In h₀ → News h₀ L s.heap news → Top p loose mean mg mb h₀ → cs.kind = .function →
    dp + 1 ≤ 400 → un + 8 ≤ 100 → 
    (∀ (t : Tok) (h' : Heap) (tk' : Nat), Fr h₀ L h' m → News h₀ L h' news → Q (.int (fmt k) t) { s with heap := h', toks := tk' }) →
    wpAny (model Challenge.rw_in0191_01.row.prog w) (ktrTop dp un (some []) cn cs L a ccd cl outer) (call (.ref 220) [.int k t]) Q E s := by
  k_fill
  intro w dp un cn cs a ccd cl outer A₀ base h₀ L m mg mb s Q E news p loose mean k t B F X N T hk hdp hun hq
  refine wpAny_call ?_
  k_dflt cell_enter
  rename_i g' L' h' FG' F₁ N₁ B' X' T'
  k_steps
  exact hq _ _ _ (by assumption) (by assumption)
theorem s_imode : ∀ {w : World} {dp un : Nat} {cn : Str} {cs : Scope} {a : Addr} {ccd : Value} {cl : List (Str × Addr)} {outer : List Env} {A₀ : Around} {base h₀ : Heap} {L : Addr} {m mg mb : Str → Option Value} {s : Shared} {Q E : Value → Shared → Prop} {news : List (Addr × Obj)} {p : Program} {loose : List Str} {mean : ExcName → Option Value} {k : Int} {t : Tok},
    Below A₀ base outer h₀ → Fr h₀ L s.heap m → (Mine.hd.heap_39 w.params).In h₀ → News h₀ L s.heap news → Top p loose mean mg mb h₀ → cs.kind = .function →
    dp + 1 ≤ 400 → un + 8 ≤ 100 → 
    (∀ (t : Tok) (h' : Heap) (tk' : Nat), Fr h₀ L h' m → News h₀ L h' news → Q (.int (Builtin.bitAnd k 4095) t) { s with heap := h', toks := tk' }) →
    wpAny (model Challenge.rw_in0191_01.row.prog w) (ktrTop dp un (some []) cn cs L a ccd cl outer) (call (.ref 213) [.int k t]) Q E s := by
  k_fill
  intro w dp un cn cs a ccd cl outer A₀ base h₀ L m mg mb s Q E news p loose mean k t B F X N T hk hdp hun hq
  refine wpAny_call ?_
  k_dflt cell_enter
  rename_i g' L' h' FG' F₁ N₁ B' X' T'
  k_steps
  exact hq _ _ _ (by assumption) (by assumption)
end Mine
end

section -- S2
open PySem PySem.W PySem.W.X PyProof.Rows PySem.Calls
set_option Elab.async false
set_option maxRecDepth 100000
set_option maxHeartbeats 1000000
namespace Mine
/-- what _law_name answers -/
def namePre (r : Int) : Str := if r = 0 then "a" else if r = 1 then "=a" else if r = 2 then "a = b" else "b="
def nameOf (k : Int) : Str := namePre (k.fmod 4) ++ Str.ofString (toString k)
theorem name_walk : ∀ {w : World} {dp un : Nat} {cn : Str} {cs : Scope} {a : Addr} {ccd : Value} {cl : List (Str × Addr)} {outer : List Env} {A₀ : Around} {base h₀ : Heap} {L : Addr} {m mg mb : Str → Option Value} {s : Shared} {Q E : Value → Shared → Prop} {news : List (Addr × Obj)} {p : Program} {loose : List Str} {mean : ExcName → Option Value} {k : Int} {t : Tok},
    Below A₀ base outer h₀ → Fr h₀ L s.heap m → (Mine.hd.heap_39 w.params).In h₀ → News h₀ L s.heap news → Top p loose mean mg mb h₀ → cs.kind = .function →
    dp + 1 ≤ 400 → un + 8 ≤ 100 → 0 ≤ k → k < 100 →
    (∀ (t : Tok) (h' : Heap) (tk' : Nat), Fr h₀ L h' m → News h₀ L h' news → Q (.str (nameOf k) t) { s with heap := h', toks := tk' }) →
    wpAny (model Challenge.rw_in0191_01.row.prog w) (ktrTop dp un (some []) cn cs L a ccd cl outer) (call (.ref 274) [.int k t]) Q E s := by
  k_fill
  intro w dp un cn cs a ccd cl outer A₀ base h₀ L m mg mb s Q E news p loose mean k t B F X N T hk hdp hun h0 h1 hq
  refine wpAny_call ?_
  k_dflt cell_enter
  rename_i g' L' h' FG' F₁ N₁ B' X' T'
  have h4 : k.fmod 4 = 0 ∨ k.fmod 4 = 1 ∨ k.fmod 4 = 2 ∨ k.fmod 4 = 3 := by
    rw [Int.fmod_eq_emod_of_nonneg _ (by decide)]; omega
  k_steps
  rcases h4 with e | e | e | e
  all_goals
    have e9 := hq
    unfold nameOf at e9
    rw [e] at e9
    rw [e]
    k_steps
    exact e9 _ _ _ (by assumption) (cb_drop (by assumption) fun p hp => by first | exact hp | exact .tail _ hp | exact .tail _ (.tail _ hp))
end Mine
end

section -- S3
open PySem PySem.W PySem.W.X PyProof.Rows PySem.Calls
set_option Elab.async false
set_option maxRecDepth 100000
set_option maxHeartbeats 1000000
namespace Mine
section
variable {M : Model} {A : Around} {E : Value → Shared → Prop} {s : Shared} {h₀ : Heap} {L a : Addr} {m : Str → Option Value} {cn : Str} {cs : Scope} {ccd : Value} {cl : List (Str × Addr)} {x : Str} {v : Value} {Q : Value → Shared → Prop}
theorem load_L (F : Fr h₀ L s.heap m) (hv : m x = some v) (h : Q v s) (hk : cs.kind = .function := by rfl) (hx : (envX cn cs L a ccd cl).kindOf x = some .local := by rfl) : wpAny M A (loadName (envX cn cs L a ccd cl) x) Q E s := wpAny_loadName_local hk hx F.ns hv h
end
section
variable {prog : Program} {w : World} {A : Around} {E : Value → Shared → Prop} {s : Shared} {env : Env} {h₀ : Heap} {x : Str} {body : List Stmt} {Q : Flow → Shared → Prop} {I : Addr} {a : Int}
theorem range_inv {n : Nat} (Inv : Nat → (Str → Option Value) → List (Addr × Obj) → Prop)
    (step : ∀ i k m news t h tk, i < n → Inv i m news → Fr h₀ env.locals h (fun y => if y = x then some (.int (a + (i : Int)) t) else m y) → News h₀ env.locals h ((I, itR (a + ((i + 1 : Nat) : Int)) ((n : Int) - ((i + 1 : Nat) : Int))) :: news) →
      (∀ m' news', Inv (i + 1) m' news' → RangeRest prog w A E h₀ env x body Q s I a n k (i + 1) m' news') →
      wpAny (model prog w) A (execs body env) (UnrPost h₀ env.locals { s with heap := h, toks := tk } I (itR (a + ((i + 1 : Nat) : Int)) ((n : Int) - ((i + 1 : Nat) : Int))) (RangeRest prog w A E h₀ env x body Q s I a n k (i + 1)) Q) E { s with heap := h, toks := tk })
    (last : ∀ m news h tk, Inv n m news → Fr h₀ env.locals h m → News h₀ env.locals h news → Q .next { s with heap := h, toks := tk }) :
    ∀ (k i : Nat) (m : Str → Option Value) (news : List (Addr × Obj)), i + k = n → Inv i m news → RangeRest prog w A E h₀ env x body Q s I a n k i m news
  | 0, i, m, news, hk, hI => by
    have e : i = n := by omega
    subst e
    exact fun h tk F N => last m news h tk hI F N
  | k + 1, i, m, news, hk, hI => by
    refine RangeRest.succ fun t h tk F N => ?_
    exact step i k m news t h tk (by omega) hI F N fun m' news' hI' => range_inv Inv step last k (i + 1) m' news' (by omega) hI'
end
def threeOf (r : Int) (i : Nat) : Int := (r.fdiv (if i = 0 then 64 else if i = 1 then 8 else 1)).fmod 8
def aboveOf (r : Int) (i : Nat) : Int := (r.fdiv (if i = 0 then 2048 else if i = 1 then 1024 else 512)).fmod 2
def rCh (r : Int) (i : Nat) : Str := if 4 ≤ threeOf r i then "r" else "-"
def wCh (r : Int) (i : Nat) : Str := if 2 ≤ (threeOf r i).fmod 4 then "w" else "-"
def xCh (r : Int) (i : Nat) : Str := PySem.Txt.item (if i = 2 then "-xTt" else "-xSs") ((threeOf r i).fmod 2 + 2 * aboveOf r i)
def kCh (k : Int) : Str := PySem.Txt.item "?pc?d?b?-?l?s???" k
/-- the signs that _law_signs has written after i turns -/
def sgOf (k r : Int) : Nat → Str
  | 0 => kCh k
  | i + 1 => sgOf k r i ++ rCh r i ++ wCh r i ++ xCh r i
def sigOf (k r : Int) : Str := sgOf k r 3
theorem rCh_pos {r : Int} {i : Nat} (h : 4 ≤ threeOf r i) : rCh r i = "r" := if_pos h
theorem rCh_neg {r : Int} {i : Nat} (h : ¬ 4 ≤ threeOf r i) : rCh r i = "-" := if_neg h
theorem wCh_pos {r : Int} {i : Nat} (h : 2 ≤ (threeOf r i).fmod 4) : wCh r i = "w" := if_pos h
theorem wCh_neg {r : Int} {i : Nat} (h : ¬ 2 ≤ (threeOf r i).fmod 4) : wCh r i = "-" := if_neg h
theorem sg_step {k r : Int} {i : Nat} {a b c : Str} (e1 : rCh r i = a) (e2 : wCh r i = b) (e3 : xCh r i = c) : sgOf k r (i + 1) = sgOf k r i ++ a ++ b ++ c := by
  show sgOf k r i ++ rCh r i ++ wCh r i ++ xCh r i = _
  rw [e1, e2, e3]
def SgInv (k r : Int) (u : Tok) (news : List (Addr × Obj)) (i : Nat) (m' : Str → Option Value) (n' : List (Addr × Obj)) : Prop :=
  (∃ t, m' (Str.ofString "signs") = some (.str (sgOf k r i) t)) ∧ m' (Str.ofString "rights") = some (.int r u) ∧ n' = news ∧ (sgOf k r i).length ≤ 1 + 3 * i
theorem sg_end {k r : Int} {u : Tok} {news : List (Addr × Obj)} {i : Nat} {m' : Str → Option Value} {S : Str} {t : Tok} (e : sgOf k r (i + 1) = S) (h1 : m' (Str.ofString "signs") = some (.str S t)) (h2 : m' (Str.ofString "rights") = some (.int r u)) (h3 : S.length ≤ 1 + 3 * (i + 1)) :
    SgInv k r u news (i + 1) m' news := ⟨⟨t, by rw [e]; exact h1⟩, h2, rfl, by rw [e]; exact h3⟩
section
local macro_rules | `(tactic| walk_at "eval Name") => `(tactic| (k_here; k_dflt (refine' nameX_L ?F ?v ?_ ?a ?b; (case F => k_asm); (case a => rfl); (case b => rfl); (case v => assumption); k_whole)))
local macro_rules | `(tactic| walk_at "loadName") => `(tactic| (k_here; k_dflt (refine' load_L ?F ?v ?_ ?a ?b; (case F => k_asm); (case a => rfl); (case b => rfl); (case v => assumption); k_whole)))
theorem signs_walk : ∀ {w : World} {dp un : Nat} {cn : Str} {cs : Scope} {a : Addr} {ccd : Value} {cl : List (Str × Addr)} {outer : List Env} {A₀ : Around} {base h₀ : Heap} {L : Addr} {m mg mb : Str → Option Value} {s : Shared} {Q E : Value → Shared → Prop} {news : List (Addr × Obj)} {p : Program} {loose : List Str} {mean : ExcName → Option Value} {k r : Int} {t u : Tok},
    Below A₀ base outer h₀ → Fr h₀ L s.heap m → (Mine.hd.heap_39 w.params).In h₀ → News h₀ L s.heap news → Top p loose mean mg mb h₀ → cs.kind = .function →
    dp + 1 ≤ 400 → un + 8 ≤ 100 → 0 ≤ k → k < 16 → 0 ≤ r → r < 4096 →
    (∀ (t : Tok) (h' : Heap) (tk' : Nat), Fr h₀ L h' m → News h₀ L h' news → Q (.str (sigOf k r) t) { s with heap := h', toks := tk' }) →
    wpAny (model Challenge.rw_in0191_01.row.prog w) (ktrTop dp un (some []) cn cs L a ccd cl outer) (call (.ref 267) [.int k t, .int r u]) Q E s := by
  k_fill
  intro w dp un cn cs a ccd cl outer A₀ base h₀ L m mg mb s Q E news p loose mean k r t u B F X N T hk hdp hun h0 h1 h2 h3 hq
  refine wpAny_call ?_
  k_dflt cell_enter
  rename_i g' L' h' FG' F₁ N₁ B' X' T'
  iterate 18 walk1
  rename_i hkl h₂ F₂ I hlt
  refine range_inv (SgInv k r u news) ?step ?last 3 0 _ _ rfl ⟨⟨_, rfl⟩, rfl, rfl, ?hl0⟩
  case hl0 =>
    show (PySem.Txt.item (Str.ofString "?pc?d?b?-?l?s???") k).length ≤ 1
    omega
  case last =>
    rintro m₃ n₃ h₃ tk₃ ⟨⟨t₃, hm1⟩, hm2, rfl, hlen⟩ F₃ N₃
    dsimp only
    repeat' (first | (k_unfold; (try dsimp only)) | walk1 | (dsimp only; walk1))
    exact hq _ _ _ (by assumption) (by assumption)
  case step =>
    rintro i k' m₃ n₃ t₃ h₃ tk₃ hi ⟨⟨t₄, hm1⟩, hm2, rfl, hlen⟩ F₃ N₃ hnext
    have hi3 : i = 0 ∨ i = 1 ∨ i = 2 := by omega
    rcases hi3 with rfl | rfl | rfl
    all_goals (repeat' (first | (with_reducible refine wpAny_execs_nil ?_) | walk1 | (dsimp only; walk1)))
    all_goals (
      have l1 : (Str.ofString "r").length = 1 := by decide
      have l2 : (Str.ofString "w").length = 1 := by decide
      have l3 : (Str.ofString "-").length = 1 := by decide
      refine UnrEnd.intro (by assumption) (by assumption) n₃ (fun p hp => ?_) (fun p hp => Nat.ne_of_lt (hlt p hp)) (hnext _ _ (sg_end (sg_step (by first | exact rCh_pos (by assumption) | exact rCh_neg (by assumption)) (by first | exact wCh_pos (by assumption) | exact wCh_neg (by assumption)) rfl) rfl (by exact hm2) ?_))
      · rcases List.mem_cons.mp hp with rfl | hp
        · repeat (first | exact List.Mem.head _ | apply List.Mem.tail)
        · repeat (first | exact hp | apply List.Mem.tail)
      · simp only [PySem.Str.length_append]
        refine Nat.le_trans (Nat.add_le_add_left (Nat.le_of_eq (m := 1) (by assumption)) _) ?_
        omega)
end
end Mine
end

section -- K3
open PySem PySem.W PySem.W.X PyProof.Rows PySem.Calls
set_option Elab.async false
set_option maxRecDepth 100000
set_option maxHeartbeats 1000000
namespace Mine
/-- the rows so far, and whether new ones may still be made -/
structure PS where
  types : List (Int × List Dat)
  firsts : List (Str × List Dat)
  tg : Bool
  fg : Bool
def ps0 : PS := ⟨[], [], true, true⟩
def recOf (n : Int) (place : Nat) : Dat := .tuple [.str (sigOf (n.fmod 18) (n.fdiv 18)), .str (nameOf place), .int (n.fdiv 18)]
/-- one number of the lot -/
def pstep (st : PS) (place : Nat) (n : Int) : PS :=
  if n.fmod 18 = 16 then { st with tg := false }
  else if n.fmod 18 = 17 then { st with fg := false }
  else { st with types := bput st.types (4096 * n.fmod 18) (recOf n place) st.tg, firsts := bput st.firsts (kCh (n.fmod 18)) (.str (nameOf place)) st.fg }
def pfold : Nat → PS → List Int → PS
  | _, st, [] => st
  | i, st, n :: r => pfold (i + 1) (pstep st i n) r
theorem pfold_snoc : ∀ (i : Nat) (st : PS) (l : List Int) (n : Int), pfold i st (l ++ [n]) = pstep (pfold i st l) (i + l.length) n
  | _, _, [], _ => rfl
  | i, st, a :: l, n => by
    show pfold (i + 1) (pstep st i a) (l ++ [n]) = _
    rw [pfold_snoc (i + 1) _ l n, show i + 1 + l.length = i + (a :: l).length by simp; omega]
    rfl
/-- the rows after i numbers -/
def psAt (ns : List Int) (i : Nat) : PS := pfold 0 ps0 (ns.take i)
theorem psAt_succ {ns : List Int} {i : Nat} {n : Int} (h : ns[i]? = some n) : psAt ns (i + 1) = pstep (psAt ns i) i n := by
  have e1 : ns.take (i + 1) = ns.take i ++ [n] := by rw [List.take_add_one, h]; rfl
  have e2 : (ns.take i).length = i := by
    obtain ⟨hi, _⟩ := List.getElem?_eq_some_iff.mp h
    rw [List.length_take]; omega
  unfold psAt
  rw [e1, pfold_snoc, e2, Nat.zero_add]
theorem bput_len {κ α : Type} [DecidableEq κ] {b : Nat} : ∀ {rows : List (κ × List α)} {k : κ} {d : α} {g : Bool}, (∀ q ∈ rows, q.2.length ≤ b) → ∀ q ∈ bput rows k d g, q.2.length ≤ b + 1
  | [], k, d, g, _, q, hq => by
    cases g
    · exact (nomatch hq)
    · rw [List.mem_singleton.mp (show q ∈ [(k, [d])] from hq)]; exact Nat.le_add_left _ _
  | p :: r, k, d, g, h, q, hq => by
    rw [bput] at hq
    split at hq
    · rcases List.mem_cons.mp hq with rfl | hq
      · show (p.2 ++ [d]).length ≤ b + 1
        rw [List.length_append]
        exact Nat.succ_le_succ (h p (.head _))
      · exact Nat.le_succ_of_le (h q (.tail _ hq))
    · rcases List.mem_cons.mp hq with rfl | hq
      · exact Nat.le_succ_of_le (h _ (.head _))
      · exact bput_len (fun z hz => h z (.tail _ hz)) q hq
theorem psAt_len {ns : List Int} : ∀ i, i ≤ ns.length → (∀ q ∈ (psAt ns i).types, q.2.length ≤ i) ∧ ∀ q ∈ (psAt ns i).firsts, q.2.length ≤ i
  | 0, _ => And.intro (fun q hq => (nomatch hq)) (fun q hq => (nomatch hq))
  | i + 1, h => by
    obtain ⟨a, b⟩ := psAt_len i (Nat.le_of_succ_le h)
    have e : ns[i]? = some ns[i] := List.getElem?_eq_getElem h
    rw [psAt_succ e]
    unfold pstep
    split
    · exact ⟨fun q hq => Nat.le_succ_of_le (a q hq), fun q hq => Nat.le_succ_of_le (b q hq)⟩
    · split
      · exact ⟨fun q hq => Nat.le_succ_of_le (a q hq), fun q hq => Nat.le_succ_of_le (b q hq)⟩
      · exact ⟨bput_len a, bput_len b⟩
/-- the run's state: two books over the rows -/
structure RunSt (w : World) (news₀ : List (Addr × Obj)) (c1 c2 x1 d1 x2 d2 : Addr) (st : PS) (i : Nat) (n : List (Addr × Obj)) : Prop where
  cT : ∃ o, (c1, o) ∈ n ∧ o.data = .cell (some (.ref x1))
  cS : ∃ o, (c2, o) ∈ n ∧ o.data = .cell (some (.ref x2))
  ks : ∃ ks1 ks2, Book (PySem.intKind Pr w) n x1 d1 ks1 (!st.tg) ∧ Book (PySem.strKind Pr w) n x2 d2 ks2 (!st.fg) ∧ RowsL n ks1 st.types ∧ RowsL n ks2 st.firsts ∧ (ks1.map (·.2) ++ ks2.map (·.2)).Nodup ∧ ks1.length ≤ i ∧ ks2.length ≤ i ∧ ∀ z ∈ ks1.map (·.2) ++ ks2.map (·.2), ∀ q ∈ news₀, q.1 ≠ 100 → q.1 ≠ z
  tab : TabOk w.params n
  old : ∀ q ∈ news₀, q.1 ≠ 100 → q ∈ n
  ne : x1 ≠ x2 ∧ d1 ≠ d2
end Mine
end

section -- F2
open PySem PySem.W PySem.W.X PyProof.Rows PySem.Calls
set_option Elab.async false
set_option maxRecDepth 100000
set_option maxHeartbeats 4000000
namespace Mine
/-- what freeze leaves: the book frozen, the table, and all that stands elsewhere -/
structure Froze (P : Params) (news news' : List (Addr × Obj)) (x dx : Addr) : Prop where
  frozen : Frozen P news' x dx
  tab : TabOk P news'
  rest : ∀ q ∈ news, q.1 ≠ dx → q.1 ≠ 100 → q ∈ news'
theorem freeze_run : ∀ {w : World} {dp un : Nat} {cn : Str} {cs : Scope} {a : Addr} {ccd : Value} {cl : List (Str × Addr)} {outer : List Env} {A₀ : Around} {base h₀ : Heap} {L : Addr} {m mg mb : Str → Option Value} {s : Shared} {Q E : Value → Shared → Prop} {news : List (Addr × Obj)} {p : Program} {loose : List Str} {mean : ExcName → Option Value} {x dx : Addr} {es : Array DictEntry} {ep : Nat} {od : Obj},
    Below A₀ base outer h₀ → Fr h₀ L s.heap m → (hd.heap_39 w.params).In h₀ → News h₀ L s.heap news → Top p loose mean mg mb h₀ → cs.kind = .function →
    (x, fdd dx es ep) ∈ news → (dx, od) ∈ news → (od = dictOf [] 0 ∨ ∃ hh tf f₀, od = frz hh tf f₀) → TabOk w.params news →
    dp + 1 ≤ 400 → un + 20 ≤ 100 → CodeHd h₀ 104 100 → 
    (∀ news' h' t', Fr h₀ L h' m → News h₀ L h' news' → Froze w.params news news' x dx → Q .none { s with heap := h', toks := t' }) →
    wpAny (model Challenge.rw_in0191_01.row.prog w) (ktrTop dp un (some []) cn cs L a ccd cl outer) (call (.ref 105) [.ref x]) Q E s := by
  k_fill
  intro w dp un cn cs a ccd cl outer A₀ base h₀ L m mg mb s Q E news p loose mean x dx es ep od B F X N T hk hx hdx hod hP hdp hun codeHd hq
  have h100 : ∃ o, (100, o) ∈ news ∧ ∃ vs, o.data = .fields vs ∧ ∀ q t, vs[1]? ≠ some (.str q t) := by
    rcases hP with h | ⟨c', h, _⟩
    · exact ⟨_, h, _, rfl, fun q t e => by simp at e⟩
    · exact ⟨_, h, _, rfl, fun q t e => by simp [rawInt] at e⟩
  obtain ⟨o100, h100, vs100, d100, n100⟩ := h100
  have hd100 : od.data ≠ o100.data := by rw [d100]; rcases hod with rfl | ⟨_, _, _, rfl⟩ <;> (intro e; cases e)
  refine wpAny_call ?_
  k_dflt (refine' code_defC ?k1 ?k2 ?k3 ?k4 ?k5 ?kA ?kF ?kK ?k6 ?k7 ?k8 ?k9 ?kB ?kD ?_ ?c2 ?c3 ?c4; (case kA => exact rfl); (case kF => exact rfl); (case kK => assumption); (case k1 => k_asm); (case k2 => k_asm); (case k3 => k_asm); (case k4 => k_asm); (case k5 => k_asm); (case k6 => k_is); (case k7 => k_is); (case k8 => show dp < 1000; omega); (case k9 => exact BindsTo.of_eq rfl); (case kB => exact rfl); (case kD => decide +kernel); (case c2 => exact rfl); (case c3 => exact rfl); (case c4 => exact rfl); k_whole; intro g' L' h' tk' cells' FG' F' N' Y' B' X' T' l1; k_cells Y'; rename_i o1 d1; (try simp only [List.cons_append, List.nil_append] at N'); (try dsimp only))
  clear F B X T
  have hL' : (100 : Addr) < L' := l1 _ h100
  have hc100 : (L' + 1 : Addr) ≠ 100 := Nat.ne_of_gt (Nat.lt_succ_of_lt hL')
  have hcx : ∀ q ∈ news, q.1 ≠ (L' + 1 : Addr) := fun q hq => Nat.ne_of_lt (Nat.lt_succ_of_lt (l1 q hq))
  refine wpAny_execs_cons ?_
  walk1
  refine kla_eval rfl ?_
  -- what holds once the lambda is made, in either case of the table
  have fin : ∀ (f c' : Addr) (pm ctv : Value) (h₂ : Heap) (tk₂ : Nat) (n₂ : List (Addr × Obj)), News g' L' h₂ n₂ → (f, lamObj w.params pm (L' + 1) c' ctv) ∈ n₂ → (L' + 1, o1) ∈ n₂ → CodeOk n₂ c' → TabOk w.params n₂ → (∀ q ∈ news, q.1 ≠ 100 → q ∈ n₂) →
      ∀ (h₃ : Heap) (hh : Int) (tf : Tok) (tk₃ : Nat), Fr h₀ L h₃ m → News h₀ L h₃ ((dx, frz hh tf f) :: offL dx n₂) → Q .none { s with heap := h₃, toks := tk₃ } := by
    intro f c' pm ctv h₂ tk₂ n₂ N₂ hf hc hco htab hsub h₃ hh tf tk₃ F₃ N₃
    have hdx₂ : (dx, od) ∈ n₂ := hsub _ hdx (news_ne N' (List.mem_cons_of_mem _ hdx) (List.mem_cons_of_mem _ h100) hd100)
    have keep : ∀ q ∈ n₂, q.2.data ≠ od.data → q ∈ (dx, frz hh tf f) :: offL dx n₂ := fun q hq hn =>
      .tail _ (List.mem_filter.mpr ⟨hq, decide_eq_true (news_ne N₂ (a := q.1) (oa := q.2) hq hdx₂ hn)⟩)
    have nd : ∀ o : Obj, (∀ es n, o.data ≠ .dict es n) → o.data ≠ od.data := fun o ho e => by
      rcases hod with rfl | ⟨_, _, _, rfl⟩ <;> exact ho _ _ e
    have co : ∀ c', CodeOk n₂ c' → CodeOk ((dx, frz hh tf f) :: offL dx n₂) c' := fun c' ⟨oc, vs, t, h1, h2, h3⟩ =>
      ⟨oc, vs, t, keep _ h1 (nd _ fun es n e => by rw [h2] at e; cases e), h2, h3⟩
    refine hq _ h₃ tk₃ F₃ N₃ ⟨⟨hh, tf, f, .head _, L' + 1, o1, pm, ctv, c', keep _ hf (nd _ fun es n e => by cases e), keep _ hc (nd _ fun es n e => by rw [d1] at e; cases e), d1, co c' hco⟩, ?_, ?_⟩
    · rcases htab with h | ⟨c₂, h, hc₂⟩
      · exact .inl (keep _ h (nd _ fun es n e => by cases e))
      · exact .inr ⟨c₂, keep _ h (nd _ fun es n e => by cases e), co _ hc₂⟩
    · intro q hq' hn1 hn2
      exact .tail _ (List.mem_filter.mpr ⟨hsub q hq' hn2, decide_eq_true hn1⟩)
  have hxd : (fdd dx es ep).data ≠ o100.data := by rw [d100]; intro e; cases e
  have hx1 : x ≠ 100 := news_ne N' (List.mem_cons_of_mem _ hx) (List.mem_cons_of_mem _ h100) hxd
  have hd1 : dx ≠ 100 := news_ne N' (List.mem_cons_of_mem _ hdx) (List.mem_cons_of_mem _ h100) hd100
  have inOff : ∀ q ∈ news, q.1 ≠ 100 → q ∈ offL 100 ((L' + 1, o1) :: news) := fun q hq hn => List.mem_filter.mpr ⟨.tail _ hq, decide_eq_true hn⟩
  have cOff : (L' + 1, o1) ∈ offL 100 ((L' + 1, o1) :: news) := List.mem_filter.mpr ⟨.head _, decide_eq_true hc100⟩
  rcases hP with hP | ⟨c', hP, hco⟩
  · have N₁ := news_offL N' (List.mem_cons_of_mem _ hP)
    refine kla_nest (c := 104) (P := 100) F' N₁ T' (codeHd.keeps FG'.keep) rfl (.head offL_ne) True.intro rfl rfl fun f c' oc vs t ctv h₂ tk₂ F₂ N₂ hoc hvs lc lf => ?_
    have sub : ∀ q ∈ news, q.1 ≠ 100 → q ∈ (f, lamObj w.params ((mg (Str.ofString "__name__")).getD Value.none) (L' + 1) c' ctv) :: (c', oc) :: (100, tab1 w.params c') :: offL 100 ((L' + 1, o1) :: news) := fun q hq hn => .tail _ (.tail _ (.tail _ (inOff q hq hn)))
    have N₃ : News g' L' h₂ ((L' + 1, o1) :: (f, lamObj w.params ((mg (Str.ofString "__name__")).getD Value.none) (L' + 1) c' ctv) :: (c', oc) :: (100, tab1 w.params c') :: offL 100 ((L' + 1, o1) :: news)) := cb_drop N₂ fun q hq => by
      rcases List.mem_cons.mp hq with rfl | hq
      · exact .tail _ (.tail _ (.tail _ cOff))
      · exact hq
    clear N₁ N₂
    walk1
    dsimp only
    refine set_frozen F₂ X' N₃ (.tail _ (sub _ hx hx1)) (.tail _ (sub _ hdx hd1)) hod fun hh tf h₃ F₃ N₄ => ?_
    refine wpAny_execs_nil ?_
    dsimp only
    refine leaveK_ F₃ N₄ fun F₅ N₅ => ?_
    have ck : CodeOk ((L' + 1, o1) :: (f, lamObj w.params ((mg (Str.ofString "__name__")).getD Value.none) (L' + 1) c' ctv) :: (c', oc) :: (100, tab1 w.params c') :: offL 100 ((L' + 1, o1) :: news)) c' := ⟨oc, vs, t, .tail _ (.tail _ (.head _)), hoc, hvs⟩
    exact fin f c' _ ctv h₂ 0 _ N₃ (.tail _ (.head _)) (.head _) ck (.inr ⟨c', .tail _ (.tail _ (.tail _ (.head _))), ck⟩) (fun q hq hn => .tail _ (sub q hq hn)) h₃ hh tf _ F₅ N₅
  · refine kla_hit (c := 104) (P := 100) (c' := c') F' N' T' (codeHd.keeps FG'.keep) rfl (List.mem_cons_of_mem _ hP) (by first | exact True.intro | (simp [TriplesOk, rawInt]; done)) (by first | rfl | (simp [codeAmong, rawInt]; done)) rfl fun f ctv h₂ tk₂ F₂ N₂ lf => ?_
    have N₃ : News g' L' h₂ ((L' + 1, o1) :: (f, lamObj w.params ((mg (Str.ofString "__name__")).getD Value.none) (L' + 1) c' ctv) :: news) := cb_drop N₂ fun q hq => by
      rcases List.mem_cons.mp hq with rfl | hq
      · exact .tail _ (.head _)
      rcases List.mem_cons.mp hq with rfl | hq
      · exact .head _
      · exact .tail _ (.tail _ hq)
    clear N₂
    walk1
    dsimp only
    refine set_frozen F₂ X' N₃ (.tail _ (.tail _ hx)) (.tail _ (.tail _ hdx)) hod fun hh tf h₃ F₃ N₄ => ?_
    refine wpAny_execs_nil ?_
    dsimp only
    refine leaveK_ F₃ N₄ fun F₅ N₅ => ?_
    obtain ⟨oc, vs, t, h1, h2, h3⟩ := hco
    have ck : CodeOk ((L' + 1, o1) :: (f, lamObj w.params ((mg (Str.ofString "__name__")).getD Value.none) (L' + 1) c' ctv) :: news) c' := ⟨oc, vs, t, .tail _ (.tail _ h1), h2, h3⟩
    exact fin f c' _ ctv h₂ 0 _ N₃ (.tail _ (.head _)) (.head _) ck (.inr ⟨c', .tail _ (.tail _ hP), ck⟩) (fun q hq hn => .tail _ (.tail _ hq)) h₃ hh tf _ F₅ N₅
end Mine
end

section -- K4
open PySem PySem.W PySem.W.X PyProof.Rows PySem.Calls
set_option Elab.async false
set_option maxRecDepth 100000
set_option maxHeartbeats 1000000
namespace Mine
theorem cls_ne {a b : String} (h : a ≠ b) : Value.type a ≠ Value.type b := fun e => by injection e with e; exact h e
theorem hard_ne {h₀ h : Heap} {L a b : Addr} {oa ob : Obj} {n : List (Addr × Obj)} (N : News h₀ L h n) (h1 : (a, oa) ∈ n) (h2 : (b, ob) ∈ n) (ha : Hard oa) (hb : ¬ Hard ob) : a ≠ b := fun e => by
  have q1 := (N _ h1).1
  have q2 := (N _ h2).1
  dsimp only at q1 q2
  rw [e, q2] at q1
  exact hb (Option.some.inj q1 ▸ ha)
theorem hard_dict {es : List DictEntry} {n : Nat} : ¬ Hard (dictOf es n) := by
  rintro (⟨f, e⟩ | ⟨v, e⟩ | ⟨vs, q, t, e, _⟩ | e)
  · cases e
  · cases e
  · cases e
  · exact absurd e (cls_ne (by decide))
theorem hard_own {od : Obj} (h : od = dictOf [] 0 ∨ ∃ hh tf f₀, od = frz hh tf f₀) : ¬ Hard od := by
  rcases h with rfl | ⟨_, _, _, rfl⟩ <;> exact hard_dict
theorem own_cls {od : Obj} (h : od = dictOf [] 0 ∨ ∃ hh tf f₀, od = frz hh tf f₀) : od.cls = .type "dict" := by
  rcases h with rfl | ⟨_, _, _, rfl⟩ <;> rfl
theorem hard_tab0 : ¬ Hard (tabObj #[]) := by
  rintro (⟨f, e⟩ | ⟨v, e⟩ | ⟨vs, q, t, e, e2⟩ | e)
  · cases e
  · cases e
  · cases e; simp at e2
  · cases e
theorem hard_tab1 {P : Params} {c' : Addr} : ¬ Hard (tab1 P c') := by
  rintro (⟨f, e⟩ | ⟨v, e⟩ | ⟨vs, q, t, e, e2⟩ | e)
  · cases e
  · cases e
  · cases e; simp [rawInt] at e2
  · cases e
theorem tab_at {P : Params} {n : List (Addr × Obj)} (h : TabOk P n) : ∃ o, (100, o) ∈ n ∧ ¬ Hard o ∧ o.cls = .none := by
  rcases h with h | ⟨c', h, _⟩
  · exact ⟨_, h, hard_tab0, rfl⟩
  · exact ⟨_, h, hard_tab1, rfl⟩
/-- every list of the rows stands in the ledger -/
theorem rows_at {κ : Type} {n : List (Addr × Obj)} : ∀ {ks : List (κ × Addr)} {rows : List (κ × List Dat)}, RowsL n ks rows → ∀ l ∈ ks.map (·.2), ∃ xs k, (l, W.listOf xs k) ∈ n
  | [], [], _, l, hl => (nomatch hl)
  | [], _ :: _, h, _, _ => h.elim
  | _ :: _, [], h, _, _ => h.elim
  | p :: r, q :: r', h, l, hl => by
    obtain ⟨⟨_, vs, k, hm, _⟩, hr⟩ := h
    rw [List.map_cons, List.mem_cons] at hl
    rcases hl with rfl | hl
    · exact ⟨_, _, hm⟩
    · exact rows_at hr l hl
section
variable {κ : Type} [DecidableEq κ] {w : World} {knd : PySem.KeyKind Pr w κ} {n n' : List (Addr × Obj)} {x dx : Addr} {ks : List (κ × Addr)} {fz : Bool}
theorem Book.keep (b : Book knd n x dx ks fz) (hk : KeepHard n n') (hx : ∀ q ∈ n, q.1 = x → q.2.cls = .ref 108 → q ∈ n') (hd : ∀ q ∈ n, q.1 = dx → q.2.cls = .type "dict" → q ∈ n') : Book knd n' x dx ks fz := by
  obtain ⟨es, ep, h1, h2⟩ := b.at_
  refine ⟨⟨es, ep, hx _ h1 rfl rfl, h2⟩, ?_, b.ne, b.small⟩
  rcases b.own with ⟨e, hf⟩ | ⟨e, hf⟩
  · exact .inl ⟨e, frozen_keep hf hk hd⟩
  · exact .inr ⟨e, hd _ hf rfl rfl⟩
end
section
variable {h₀ h : Heap} {L : Addr} {w : World} {news₀ n n' : List (Addr × Obj)} {c1 c2 x1 d1 x2 d2 : Addr} {st : PS} {i : Nat}
/-- the state stands in any ledger that holds what it names -/
theorem RunSt.sub (R : RunSt w news₀ c1 c2 x1 d1 x2 d2 st i n)
    (hk : ∀ q ∈ n, (Hard q.2 ∨ q.2.cls = .ref 108 ∨ q.2.cls = .type "dict" ∨ q.2.cls = .type "list" ∨ q.2.cls = .none ∨ q ∈ news₀) → q ∈ n') : RunSt w news₀ c1 c2 x1 d1 x2 d2 st i n' := by
  obtain ⟨oT, hT, eT⟩ := R.cT
  obtain ⟨oS, hS, eS⟩ := R.cS
  obtain ⟨ks1, ks2, b1, b2, r1, r2, nd, l1, l2⟩ := R.ks
  have hh : KeepHard n n' := fun q hq h => hk q hq (.inl h)
  refine ⟨⟨oT, hk _ hT (.inl (.inr (.inl ⟨_, eT⟩))), eT⟩, ⟨oS, hk _ hS (.inl (.inr (.inl ⟨_, eS⟩))), eS⟩, ⟨ks1, ks2, ?_, ?_, ?_, ?_, nd, l1, l2⟩, ?_, fun q hq h => hk q (R.old q hq h) (.inr (.inr (.inr (.inr (.inr hq))))), R.ne⟩
  · exact b1.keep hh (fun q hq _ h => hk q hq (.inr (.inl h))) (fun q hq _ h => hk q hq (.inr (.inr (.inl h))))
  · exact b2.keep hh (fun q hq _ h => hk q hq (.inr (.inl h))) (fun q hq _ h => hk q hq (.inr (.inr (.inl h))))
  · exact rows_keep hh r1 fun q hq _ h => hk q hq (.inr (.inr (.inr (.inl h))))
  · exact rows_keep hh r2 fun q hq _ h => hk q hq (.inr (.inr (.inr (.inl h))))
  · exact tab_keep R.tab hh fun q hq _ h => hk q hq (.inr (.inr (.inr (.inr (.inl h)))))
/-- freeze of the first book -/
theorem RunSt.freeze1 (R : RunSt w news₀ c1 c2 x1 d1 x2 d2 st i n) (N : News h₀ L h n) (Z : Froze w.params n n' x1 d1) (hold : ∀ q ∈ news₀, q.1 ≠ 100 → q.1 ≠ d1) : RunSt w news₀ c1 c2 x1 d1 x2 d2 { st with tg := false } i n' := by
  obtain ⟨oT, hT, eT⟩ := R.cT
  obtain ⟨oS, hS, eS⟩ := R.cS
  obtain ⟨ks1, ks2, b1, b2, r1, r2, nd, l1, l2⟩ := R.ks
  obtain ⟨od, hd, ho⟩ := own_data b1.own
  obtain ⟨es1, ep1, hx1, hb1⟩ := b1.at_
  obtain ⟨es2, ep2, hx2, hb2⟩ := b2.at_
  obtain ⟨o100, h100, n100, c100⟩ := tab_at R.tab
  have hh : KeepHard n n' := fun q hq h => Z.rest q hq (hard_ne N hq hd h (hard_own ho)) (hard_ne N hq h100 h n100)
  have cd := own_cls ho
  have book : ∀ q ∈ n, q.2.cls = .ref 108 → q ∈ n' := fun q hq h => Z.rest q hq (news_neC N hq hd (by rw [h, cd]; intro e; cases e)) (news_neC N hq h100 (by rw [h, c100]; intro e; cases e))
  have lst : ∀ q ∈ n, q.2.cls = .type "list" → q ∈ n' := fun q hq h => Z.rest q hq (news_neC N hq hd (by rw [h, cd]; exact cls_ne (by decide))) (news_neC N hq h100 (by rw [h, c100]; intro e; cases e))
  refine ⟨⟨oT, hh _ hT (.inr (.inl ⟨_, eT⟩)), eT⟩, ⟨oS, hh _ hS (.inr (.inl ⟨_, eS⟩)), eS⟩, ⟨ks1, ks2, ?_, ?_, ?_, ?_, nd, l1, l2⟩, Z.tab, fun q hq h => Z.rest q (R.old q hq h) (hold q hq h) h, R.ne⟩
  · exact ⟨⟨es1, ep1, book _ hx1 rfl, hb1⟩, .inl ⟨rfl, Z.frozen⟩, b1.ne, b1.small⟩
  · exact b2.keep hh (fun q hq _ h => book q hq h) fun q hq e h => Z.rest q hq (by rw [e]; exact R.ne.2.symm) (news_neC N hq h100 (by rw [h, c100]; intro e; cases e))
  · exact rows_keep hh r1 fun q hq _ h => lst q hq h
  · exact rows_keep hh r2 fun q hq _ h => lst q hq h
theorem RunSt.freeze2 (R : RunSt w news₀ c1 c2 x1 d1 x2 d2 st i n) (N : News h₀ L h n) (Z : Froze w.params n n' x2 d2) (hold : ∀ q ∈ news₀, q.1 ≠ 100 → q.1 ≠ d2) : RunSt w news₀ c1 c2 x1 d1 x2 d2 { st with fg := false } i n' := by
  obtain ⟨oT, hT, eT⟩ := R.cT
  obtain ⟨oS, hS, eS⟩ := R.cS
  obtain ⟨ks1, ks2, b1, b2, r1, r2, nd, l1, l2⟩ := R.ks
  obtain ⟨od, hd, ho⟩ := own_data b2.own
  obtain ⟨es1, ep1, hx1, hb1⟩ := b1.at_
  obtain ⟨es2, ep2, hx2, hb2⟩ := b2.at_
  obtain ⟨o100, h100, n100, c100⟩ := tab_at R.tab
  have hh : KeepHard n n' := fun q hq h => Z.rest q hq (hard_ne N hq hd h (hard_own ho)) (hard_ne N hq h100 h n100)
  have cd := own_cls ho
  have book : ∀ q ∈ n, q.2.cls = .ref 108 → q ∈ n' := fun q hq h => Z.rest q hq (news_neC N hq hd (by rw [h, cd]; intro e; cases e)) (news_neC N hq h100 (by rw [h, c100]; intro e; cases e))
  have lst : ∀ q ∈ n, q.2.cls = .type "list" → q ∈ n' := fun q hq h => Z.rest q hq (news_neC N hq hd (by rw [h, cd]; exact cls_ne (by decide))) (news_neC N hq h100 (by rw [h, c100]; intro e; cases e))
  refine ⟨⟨oT, hh _ hT (.inr (.inl ⟨_, eT⟩)), eT⟩, ⟨oS, hh _ hS (.inr (.inl ⟨_, eS⟩)), eS⟩, ⟨ks1, ks2, ?_, ?_, ?_, ?_, nd, l1, l2⟩, Z.tab, fun q hq h => Z.rest q (R.old q hq h) (hold q hq h) h, R.ne⟩
  · exact b1.keep hh (fun q hq _ h => book q hq h) fun q hq e h => Z.rest q hq (by rw [e]; exact R.ne.2) (news_neC N hq h100 (by rw [h, c100]; intro e; cases e))
  · exact ⟨⟨es2, ep2, book _ hx2 rfl, hb2⟩, .inl ⟨rfl, Z.frozen⟩, b2.ne, b2.small⟩
  · exact rows_keep hh r1 fun q hq _ h => lst q hq h
  · exact rows_keep hh r2 fun q hq _ h => lst q hq h
end
end Mine
end

section -- K5
open PySem PySem.W PySem.W.X PyProof.Rows PySem.Calls
set_option Elab.async false
set_option maxRecDepth 100000
set_option maxHeartbeats 1000000
namespace Mine
/-- the run's state, with its rows' lists named -/
structure RunK (w : World) (news₀ : List (Addr × Obj)) (c1 c2 x1 d1 x2 d2 : Addr) (st : PS) (ks1 : List (Int × Addr)) (ks2 : List (Str × Addr)) (n : List (Addr × Obj)) : Prop where
  cT : ∃ o, (c1, o) ∈ n ∧ o.data = .cell (some (.ref x1))
  cS : ∃ o, (c2, o) ∈ n ∧ o.data = .cell (some (.ref x2))
  b1 : Book (PySem.intKind Pr w) n x1 d1 ks1 (!st.tg)
  b2 : Book (PySem.strKind Pr w) n x2 d2 ks2 (!st.fg)
  r1 : RowsL n ks1 st.types
  r2 : RowsL n ks2 st.firsts
  nd : (ks1.map (·.2) ++ ks2.map (·.2)).Nodup
  tab : TabOk w.params n
  old : ∀ q ∈ news₀, q.1 ≠ 100 → q ∈ n
  ne : x1 ≠ x2 ∧ d1 ≠ d2
  ap : ∀ z ∈ ks1.map (·.2) ++ ks2.map (·.2), ∀ q ∈ news₀, q.1 ≠ 100 → q.1 ≠ z
section
variable {h₀ h : Heap} {L : Addr} {w : World} {news₀ n n' : List (Addr × Obj)} {c1 c2 x1 d1 x2 d2 : Addr} {st : PS} {i : Nat} {ks1 : List (Int × Addr)} {ks2 : List (Str × Addr)}
theorem RunSt.toK (R : RunSt w news₀ c1 c2 x1 d1 x2 d2 st i n) : ∃ ks1 ks2, RunK w news₀ c1 c2 x1 d1 x2 d2 st ks1 ks2 n ∧ ks1.length ≤ i ∧ ks2.length ≤ i := by
  obtain ⟨ks1, ks2, b1, b2, r1, r2, nd, l1, l2, ap⟩ := R.ks
  exact ⟨ks1, ks2, ⟨R.cT, R.cS, b1, b2, r1, r2, nd, R.tab, R.old, R.ne, ap⟩, l1, l2⟩
theorem RunK.toSt (R : RunK w news₀ c1 c2 x1 d1 x2 d2 st ks1 ks2 n) (l1 : ks1.length ≤ i) (l2 : ks2.length ≤ i) : RunSt w news₀ c1 c2 x1 d1 x2 d2 st i n :=
  ⟨R.cT, R.cS, ⟨ks1, ks2, R.b1, R.b2, R.r1, R.r2, R.nd, l1, l2, R.ap⟩, R.tab, R.old, R.ne⟩
theorem rows_mono {κ : Type} (hs : ∀ q ∈ n, q ∈ n') : ∀ {ks : List (κ × Addr)} {rows : List (κ × List Dat)}, RowsL n ks rows → RowsL n' ks rows
  | [], [], _ => trivial
  | [], _ :: _, h => h.elim
  | _ :: _, [], h => h.elim
  | _ :: _, _ :: _, ⟨⟨e, vs, m, hm, hd⟩, hr⟩ => ⟨⟨e, vs, m, hs _ hm, hd.mono (tups_keep fun q hq _ => hs q hq)⟩, rows_mono hs hr⟩
theorem RunK.mono (R : RunK w news₀ c1 c2 x1 d1 x2 d2 st ks1 ks2 n) (hs : ∀ q ∈ n, q ∈ n') : RunK w news₀ c1 c2 x1 d1 x2 d2 st ks1 ks2 n' := by
  obtain ⟨oT, hT, eT⟩ := R.cT
  obtain ⟨oS, hS, eS⟩ := R.cS
  have hh : KeepHard n n' := fun q hq _ => hs q hq
  exact ⟨⟨oT, hs _ hT, eT⟩, ⟨oS, hs _ hS, eS⟩, R.b1.keep hh (fun q hq _ _ => hs q hq) (fun q hq _ _ => hs q hq), R.b2.keep hh (fun q hq _ _ => hs q hq) (fun q hq _ _ => hs q hq), rows_mono hs R.r1, rows_mono hs R.r2, R.nd, tab_keep R.tab hh (fun q hq _ _ => hs q hq), fun q hq h => hs q (R.old q hq h), R.ne, R.ap⟩
/-- a record goes behind those of its row in the first book -/
theorem RunK.push1 {k : Int} {l : Addr} {v : Value} {d : Dat} {g : Bool} (R : RunK w news₀ c1 c2 x1 d1 x2 d2 st ks1 ks2 n) (N : News h₀ L h n) (hf : bfind ks1 k = some l) (hb : KeepBut l n n')
    (hl : ∀ vs m, (l, W.listOf vs.toArray m) ∈ n → ∃ m', (l, W.listOf (vs ++ [v]).toArray m') ∈ n') (hd : DatIn (tups n') v d) (hold : ∀ q ∈ news₀, q.1 ≠ 100 → q.1 ≠ l) :
    RunK w news₀ c1 c2 x1 d1 x2 d2 { st with types := bput st.types k d g } ks1 ks2 n' := by
  obtain ⟨oT, hT, eT⟩ := R.cT
  obtain ⟨oS, hS, eS⟩ := R.cS
  obtain ⟨hin, vs, m, ds, hm, _, _⟩ := (rows_find (k := k) R.r1).2 l hf
  obtain ⟨o100, h100, n100, c100⟩ := tab_at R.tab
  have hh : KeepHard n n' := hard_of_but N hm (hard_list _ _) hb
  have ne : ∀ q ∈ n, q.2.cls ≠ .type "list" → q ∈ n' := fun q hq h => hb q hq (news_neC N hq hm h)
  have hn2 : ∀ l2 ∈ ks2.map (·.2), l2 ≠ l := fun l2 h2 e => (List.nodup_append.mp R.nd).2.2 l hin l2 h2 e.symm
  refine ⟨⟨oT, hh _ hT (.inr (.inl ⟨_, eT⟩)), eT⟩, ⟨oS, hh _ hS (.inr (.inl ⟨_, eS⟩)), eS⟩, ?_, ?_, rows_push hh hl hb hd R.r1 hf (List.nodup_append.mp R.nd).1, ?_, R.nd, ?_, fun q hq h => hb q (R.old q hq h) (hold q hq h), R.ne, R.ap⟩
  · exact R.b1.keep hh (fun q hq _ h => ne q hq (by rw [h]; intro e; cases e)) fun q hq _ h => ne q hq (by rw [h]; exact cls_ne (by decide))
  · exact R.b2.keep hh (fun q hq _ h => ne q hq (by rw [h]; intro e; cases e)) fun q hq _ h => ne q hq (by rw [h]; exact cls_ne (by decide))
  · exact rows_keep hh R.r2 fun q hq h _ => hb q hq (hn2 _ h)
  · exact tab_keep R.tab hh fun q hq _ h => ne q hq (by rw [h]; intro e; cases e)
/-- a new row of the first book, still empty -/
theorem RunK.new1 {k : Int} {l : Addr} (R : RunK w news₀ c1 c2 x1 d1 x2 d2 st ks1 ks2 n) (N : News h₀ L h n) (htg : st.tg = true) (b : Book (PySem.intKind Pr w) n' x1 d1 (ks1 ++ [(k, l)]) false) (hl : (l, W.listOf #[] 0) ∈ n') (hfr : ∀ q ∈ n, l ≠ q.1) (hb : KeepBut x1 n n') (hold : ∀ q ∈ news₀, q.1 ≠ 100 → q.1 ≠ x1) :
    RunK w news₀ c1 c2 x1 d1 x2 d2 { st with types := st.types ++ [(k, [])] } (ks1 ++ [(k, l)]) ks2 n' := by
  obtain ⟨oT, hT, eT⟩ := R.cT
  obtain ⟨oS, hS, eS⟩ := R.cS
  obtain ⟨es1, ep1, hx1, _⟩ := R.b1.at_
  have hh : KeepHard n n' := hard_of_but N hx1 (hard_fdd _ _ _) hb
  have ne : ∀ q ∈ n, q.2.cls ≠ .ref 108 → q ∈ n' := fun q hq h => hb q hq (news_neC N hq hx1 h)
  have k1 : RowsL n' ks1 st.types := rows_keep hh R.r1 fun q hq _ h => ne q hq (by rw [h]; intro e; cases e)
  have snoc : ∀ {ks : List (Int × Addr)} {rows : List (Int × List Dat)}, RowsL n' ks rows → RowsL n' (ks ++ [(k, l)]) (rows ++ [(k, [])]) := by
    intro ks
    induction ks with
    | nil =>
      intro rows h
      cases rows with
      | nil => exact ⟨⟨rfl, [], 0, hl, .nil⟩, trivial⟩
      | cons _ _ => exact h.elim
    | cons p r ih =>
      intro rows h
      cases rows with
      | nil => exact h.elim
      | cons q r' => exact ⟨h.1, ih h.2⟩
  refine ⟨⟨oT, hh _ hT (.inr (.inl ⟨_, eT⟩)), eT⟩, ⟨oS, hh _ hS (.inr (.inl ⟨_, eS⟩)), eS⟩, ?_, ?_, snoc k1, ?_, ?_, ?_, fun q hq h => hb q (R.old q hq h) (hold q hq h), R.ne, fun z hz q hq h => ?ap⟩
  case ap =>
    rw [List.map_append, List.append_assoc] at hz
    rcases List.mem_append.mp hz with hz | hz
    · exact R.ap z (List.mem_append_left _ hz) q hq h
    rcases List.mem_cons.mp (show z ∈ l :: ks2.map (·.2) from hz) with rfl | hz
    · exact (hfr q (R.old q hq h)).symm
    · exact R.ap z (List.mem_append_right _ hz) q hq h
  · show Book _ n' x1 d1 _ (!st.tg)
    rw [htg]; exact b
  · exact R.b2.keep hh (fun q hq e _ => hb q hq (by rw [e]; exact R.ne.1.symm)) fun q hq _ h => ne q hq (by rw [h]; intro e; cases e)
  · exact rows_keep hh R.r2 fun q hq _ h => ne q hq (by rw [h]; intro e; cases e)
  · have f1 : ∀ z ∈ ks1.map (·.2), l ≠ z := fun z hz => by
      obtain ⟨xs, m, hm⟩ := rows_at R.r1 z hz
      exact hfr _ hm
    have f2 : ∀ z ∈ ks2.map (·.2), l ≠ z := fun z hz => by
      obtain ⟨xs, m, hm⟩ := rows_at R.r2 z hz
      exact hfr _ hm
    obtain ⟨a1, a2, a3⟩ := List.nodup_append.mp R.nd
    rw [List.map_append, List.append_assoc]
    refine List.nodup_append.mpr ⟨a1, ?_, ?_⟩
    · show (l :: ks2.map (·.2)).Nodup
      exact List.nodup_cons.mpr ⟨fun h => f2 l h rfl, a2⟩
    · intro z hz y hy e
      rcases List.mem_cons.mp (show y ∈ l :: ks2.map (·.2) from hy) with h | h
      · exact f1 z hz (e.trans h).symm
      · exact a3 z hz y h e
  · exact tab_keep R.tab hh fun q hq _ h => ne q hq (by rw [h]; intro e; cases e)
end
end Mine
end

section -- K6
open PySem PySem.W PySem.W.X PyProof.Rows PySem.Calls
set_option Elab.async false
set_option maxRecDepth 100000
set_option maxHeartbeats 1000000
namespace Mine
section
variable {h₀ h : Heap} {L : Addr} {w : World} {news₀ n n' : List (Addr × Obj)} {c1 c2 x1 d1 x2 d2 : Addr} {st : PS} {i : Nat} {ks1 : List (Int × Addr)} {ks2 : List (Str × Addr)}
/-- a record goes behind those of its row in the second book -/
theorem RunK.push2 {k : Str} {l : Addr} {v : Value} {d : Dat} {g : Bool} (R : RunK w news₀ c1 c2 x1 d1 x2 d2 st ks1 ks2 n) (N : News h₀ L h n) (hf : bfind ks2 k = some l) (hb : KeepBut l n n')
    (hl : ∀ vs m, (l, W.listOf vs.toArray m) ∈ n → ∃ m', (l, W.listOf (vs ++ [v]).toArray m') ∈ n') (hd : DatIn (tups n') v d) (hold : ∀ q ∈ news₀, q.1 ≠ 100 → q.1 ≠ l) :
    RunK w news₀ c1 c2 x1 d1 x2 d2 { st with firsts := bput st.firsts k d g } ks1 ks2 n' := by
  obtain ⟨oT, hT, eT⟩ := R.cT
  obtain ⟨oS, hS, eS⟩ := R.cS
  obtain ⟨hin, vs, m, ds, hm, _, _⟩ := (rows_find (k := k) R.r2).2 l hf
  obtain ⟨o100, h100, n100, c100⟩ := tab_at R.tab
  have hh : KeepHard n n' := hard_of_but N hm (hard_list _ _) hb
  have ne : ∀ q ∈ n, q.2.cls ≠ .type "list" → q ∈ n' := fun q hq h => hb q hq (news_neC N hq hm h)
  have hn2 : ∀ l2 ∈ ks1.map (·.2), l2 ≠ l := fun l2 h2 e => (List.nodup_append.mp R.nd).2.2 l2 h2 l hin e
  refine ⟨⟨oT, hh _ hT (.inr (.inl ⟨_, eT⟩)), eT⟩, ⟨oS, hh _ hS (.inr (.inl ⟨_, eS⟩)), eS⟩, ?_, ?_, ?_, rows_push hh hl hb hd R.r2 hf (List.nodup_append.mp R.nd).2.1, R.nd, ?_, fun q hq h => hb q (R.old q hq h) (hold q hq h), R.ne, R.ap⟩
  · exact R.b1.keep hh (fun q hq _ h => ne q hq (by rw [h]; intro e; cases e)) fun q hq _ h => ne q hq (by rw [h]; exact cls_ne (by decide))
  · exact R.b2.keep hh (fun q hq _ h => ne q hq (by rw [h]; intro e; cases e)) fun q hq _ h => ne q hq (by rw [h]; exact cls_ne (by decide))
  · exact rows_keep hh R.r1 fun q hq h _ => hb q hq (hn2 _ h)
  · exact tab_keep R.tab hh fun q hq _ h => ne q hq (by rw [h]; intro e; cases e)
/-- a new row of the second book, still empty -/
theorem RunK.new2 {k : Str} {l : Addr} (R : RunK w news₀ c1 c2 x1 d1 x2 d2 st ks1 ks2 n) (N : News h₀ L h n) (htg : st.fg = true) (b : Book (PySem.strKind Pr w) n' x2 d2 (ks2 ++ [(k, l)]) false) (hl : (l, W.listOf #[] 0) ∈ n') (hfr : ∀ q ∈ n, l ≠ q.1) (hb : KeepBut x2 n n') (hold : ∀ q ∈ news₀, q.1 ≠ 100 → q.1 ≠ x2) :
    RunK w news₀ c1 c2 x1 d1 x2 d2 { st with firsts := st.firsts ++ [(k, [])] } ks1 (ks2 ++ [(k, l)]) n' := by
  obtain ⟨oT, hT, eT⟩ := R.cT
  obtain ⟨oS, hS, eS⟩ := R.cS
  obtain ⟨es1, ep1, hx1, _⟩ := R.b2.at_
  have hh : KeepHard n n' := hard_of_but N hx1 (hard_fdd _ _ _) hb
  have ne : ∀ q ∈ n, q.2.cls ≠ .ref 108 → q ∈ n' := fun q hq h => hb q hq (news_neC N hq hx1 h)
  have k1 : RowsL n' ks2 st.firsts := rows_keep hh R.r2 fun q hq _ h => ne q hq (by rw [h]; intro e; cases e)
  have snoc : ∀ {ks : List (Str × Addr)} {rows : List (Str × List Dat)}, RowsL n' ks rows → RowsL n' (ks ++ [(k, l)]) (rows ++ [(k, [])]) := by
    intro ks
    induction ks with
    | nil =>
      intro rows h
      cases rows with
      | nil => exact ⟨⟨rfl, [], 0, hl, .nil⟩, trivial⟩
      | cons _ _ => exact h.elim
    | cons p r ih =>
      intro rows h
      cases rows with
      | nil => exact h.elim
      | cons q r' => exact ⟨h.1, ih h.2⟩
  refine ⟨⟨oT, hh _ hT (.inr (.inl ⟨_, eT⟩)), eT⟩, ⟨oS, hh _ hS (.inr (.inl ⟨_, eS⟩)), eS⟩, ?_, ?_, ?_, snoc k1, ?_, ?_, fun q hq h => hb q (R.old q hq h) (hold q hq h), R.ne, fun z hz q hq h => ?ap⟩
  case ap =>
    rw [List.map_append] at hz
    rcases List.mem_append.mp hz with hz | hz
    · exact R.ap z (List.mem_append_left _ hz) q hq h
    rcases List.mem_append.mp hz with hz | hz
    · exact R.ap z (List.mem_append_right _ hz) q hq h
    · rw [show z = l by simpa using hz]; exact (hfr q (R.old q hq h)).symm
  · exact R.b1.keep hh (fun q hq e _ => hb q hq (by rw [e]; exact R.ne.1)) fun q hq _ h => ne q hq (by rw [h]; intro e; cases e)
  · show Book _ n' x2 d2 _ (!st.fg)
    rw [htg]; exact b
  · exact rows_keep hh R.r1 fun q hq _ h => ne q hq (by rw [h]; intro e; cases e)
  · have f1 : ∀ z ∈ ks1.map (·.2), l ≠ z := fun z hz => by
      obtain ⟨xs, m, hm⟩ := rows_at R.r1 z hz
      exact hfr _ hm
    have f2 : ∀ z ∈ ks2.map (·.2), l ≠ z := fun z hz => by
      obtain ⟨xs, m, hm⟩ := rows_at R.r2 z hz
      exact hfr _ hm
    obtain ⟨a1, a2, a3⟩ := List.nodup_append.mp R.nd
    rw [List.map_append]
    refine List.nodup_append.mpr ⟨a1, ?_, ?_⟩
    · refine List.nodup_append.mpr ⟨a2, by simp, fun z hz y hy e => ?_⟩
      have hy' : y = l := by simpa using hy
      exact f2 z hz (by rw [← hy', e])
    · intro z hz y hy e
      rcases List.mem_append.mp hy with h | h
      · exact a3 z hz y h e
      · have hy' : y = l := by simpa using h
        exact f1 z hz (by rw [← hy', e])
  · exact tab_keep R.tab hh fun q hq _ h => ne q hq (by rw [h]; intro e; cases e)
/-- the pure step of a put, by cases on the row -/
theorem bput_new {κ α : Type} [DecidableEq κ] : ∀ {rows : List (κ × List α)} {k : κ} {d : α} {g : Bool}, bfind rows k = none → bput (rows ++ [(k, [])]) k d g = bput rows k d true
  | [], k, d, g, _ => by simp [bput]
  | p :: r, k, d, g, h => by
    unfold bfind at h
    by_cases e : p.1 = k
    · rw [if_pos e] at h; cases h
    · rw [if_neg e] at h
      show bput (p :: (r ++ [(k, [])])) k d g = _
      rw [bput, if_neg e, bput, if_neg e, bput_new h]
theorem bput_some {κ α : Type} [DecidableEq κ] : ∀ {rows : List (κ × List α)} {k : κ} {d : α} {g g' : Bool} {ds : List α}, bfind rows k = some ds → bput rows k d g = bput rows k d g'
  | [], _, _, _, _, _, h => by cases h
  | p :: r, k, d, g, g', ds, h => by
    unfold bfind at h
    by_cases e : p.1 = k
    · rw [bput, if_pos e, bput, if_pos e]
    · rw [if_neg e] at h
      rw [bput, if_neg e, bput, if_neg e, bput_some h]
theorem bfind_snoc {κ α : Type} [DecidableEq κ] : ∀ {rows : List (κ × α)} {k : κ} {d : α}, bfind rows k = none → bfind (rows ++ [(k, d)]) k = some d
  | [], k, d, _ => by simp [bfind]
  | p :: r, k, d, h => by
    unfold bfind at h
    by_cases e : p.1 = k
    · rw [if_pos e] at h; cases h
    · rw [if_neg e] at h
      show bfind (p :: (r ++ [(k, d)])) k = _
      rw [bfind, if_neg e, bfind_snoc h]
end
end Mine
end

section -- K7
open PySem PySem.W PySem.W.X PyProof.Rows PySem.Calls
set_option Elab.async false
set_option maxRecDepth 100000
set_option maxHeartbeats 1000000
namespace Mine
/-- an object that the run's state does not name -/
def ItKind (o : Obj) : Prop := ¬ Hard o ∧ o.cls ≠ .ref 108 ∧ o.cls ≠ .type "dict" ∧ o.cls ≠ .type "list" ∧ o.cls ≠ .none
theorem it_fields {n : String} {o : Obj} {a b : Value} {r : List Value} (hc : o.cls = .type n) (hd : o.data = .fields (a :: b :: r).toArray) (hb : ∀ q t, b ≠ .str q t) (h1 : n ≠ "dict") (h2 : n ≠ "list") (h3 : n ≠ "tuple") : ItKind o := by
  refine ⟨?_, ?_, ?_, ?_, ?_⟩
  · rintro (⟨f, e⟩ | ⟨v, e⟩ | ⟨vs, q, t, e, e2⟩ | e)
    · rw [hd] at e; cases e
    · rw [hd] at e; cases e
    · rw [hd] at e; cases e; simp at e2; exact hb q t e2
    · rw [hc] at e; exact cls_ne h3 e
  · rw [hc]; intro e; cases e
  · rw [hc]; exact cls_ne h1
  · rw [hc]; exact cls_ne h2
  · rw [hc]; intro e; cases e
section
variable {h₀ h h' : Heap} {L : Addr} {w : World} {news₀ n n' : List (Addr × Obj)} {c1 c2 x1 d1 x2 d2 : Addr} {st : PS} {i : Nat} {e it : Addr} {oe oi : Obj} {s : Shared} {Q : Flow → Shared → Prop} {m' : Str → Option Value} {tk' : Nat}
theorem it_ne {q : Addr × Obj} (N : News h₀ L h n) (hq : q ∈ n) (he : (e, oe) ∈ n) (hk : ItKind oe) (h : Hard q.2 ∨ q.2.cls = .ref 108 ∨ q.2.cls = .type "dict" ∨ q.2.cls = .type "list" ∨ q.2.cls = .none) : q.1 ≠ e := fun z => by
  have q1 := (N q hq).1
  have q2 := (N _ he).1
  rw [z] at q1
  have eo : q.2 = oe := Option.some.inj (q1.symm.trans q2)
  rw [eo] at h
  rcases h with h | h | h | h | h
  · exact hk.1 h
  · exact hk.2.1 h
  · exact hk.2.2.1 h
  · exact hk.2.2.2.1 h
  · exact hk.2.2.2.2 h
theorem RunSt.up {j : Nat} (R : RunSt w news₀ c1 c2 x1 d1 x2 d2 st i n) (h : i ≤ j) : RunSt w news₀ c1 c2 x1 d1 x2 d2 st j n := by
  obtain ⟨a, b, ⟨k1, k2, r1, r2, r3, r4, r5, r6, r7, r8⟩, c, d, e⟩ := R
  exact ⟨a, b, ⟨k1, k2, r1, r2, r3, r4, r5, Nat.le_trans r6 h, Nat.le_trans r7 h, r8⟩, c, d, e⟩
theorem run_over (R : RunSt w news₀ c1 c2 x1 d1 x2 d2 st i n) (F : Fr h₀ L h' m') (N : News h₀ L h' n) (he : (e, oe) ∈ n) (hi : (it, oi) ∈ n) (ke : ItKind oe) (ki : ItKind oi) (hold : ∀ q ∈ news₀, q.1 ≠ e ∧ q.1 ≠ it) :
    TurnOver2 h₀ L e it oe oi (fun _ n₁ => RunSt w news₀ c1 c2 x1 d1 x2 d2 st i n₁) s Q .next { s with heap := h', toks := tk' } := by
  refine ⟨h', tk', m', offL e (offL it n), rfl, F, fun q hq => ?_, fun q hq => ?_, R.sub fun q hq h => ?_⟩
  · rcases List.mem_cons.mp hq with rfl | hq
    · exact N _ he
    rcases List.mem_cons.mp hq with rfl | hq
    · exact N _ hi
    · exact N q (List.mem_filter.mp (List.mem_filter.mp hq).1).1
  · exact ⟨offL_ne q hq, offL_ne q (List.mem_filter.mp hq).1⟩
  · have a1 : q.1 ≠ e := by
      rcases h with h | h | h | h | h | h
      · exact it_ne N hq he ke (.inl h)
      · exact it_ne N hq he ke (.inr (.inl h))
      · exact it_ne N hq he ke (.inr (.inr (.inl h)))
      · exact it_ne N hq he ke (.inr (.inr (.inr (.inl h))))
      · exact it_ne N hq he ke (.inr (.inr (.inr (.inr h))))
      · exact (hold q h).1
    have a2 : q.1 ≠ it := by
      rcases h with h | h | h | h | h | h
      · exact it_ne N hq hi ki (.inl h)
      · exact it_ne N hq hi ki (.inr (.inl h))
      · exact it_ne N hq hi ki (.inr (.inr (.inl h)))
      · exact it_ne N hq hi ki (.inr (.inr (.inr (.inl h))))
      · exact it_ne N hq hi ki (.inr (.inr (.inr (.inr h))))
      · exact (hold q h).2
    exact List.mem_filter.mpr ⟨List.mem_filter.mpr ⟨hq, decide_eq_true a2⟩, decide_eq_true a1⟩
end
end Mine
end

section -- P1a
open PySem PySem.W PySem.W.X PyProof.Rows PySem.Calls
set_option Elab.async false
set_option maxRecDepth 100000
set_option maxHeartbeats 1000000
namespace Mine
theorem nat_and (a b : Nat) : Builtin.bitAnd (a : Int) (b : Int) = ((a &&& b : Nat) : Int) := by
  first | rfl | simp [Builtin.bitAnd]
theorem land_hi (k r : Nat) (hk : k < 16) (hr : r < 4096) : (k * 4096 + r) &&& 61440 = 4096 * k := by
  have e : k * 4096 + r = (k <<< 12) + r := by rw [Nat.shiftLeft_eq]
  have h1 : (61440 : Nat) = 15 <<< 12 := rfl
  refine Nat.eq_of_testBit_eq fun i => ?_
  rw [Nat.testBit_and, h1, show 4096 * k = k <<< 12 by rw [Nat.shiftLeft_eq]; omega, e]
  rw [Nat.testBit_shiftLeft, Nat.testBit_shiftLeft]
  by_cases h : 12 ≤ i
  · have e2 : (k <<< 12 + r).testBit i = k.testBit (i - 12) := by
      obtain ⟨j, rfl⟩ : ∃ j, i = j + 12 := ⟨i - 12, by omega⟩
      rw [Nat.testBit_add, show (k <<< 12 + r) / 2 ^ 12 = k by rw [Nat.shiftLeft_eq]; omega, Nat.add_sub_cancel]
    rw [e2]
    simp only [h, decide_true, Bool.true_and]
    have hk2 : k < 2 ^ 4 := hk
    by_cases h4 : i - 12 < 4
    · have : (15 : Nat).testBit (i - 12) = true := by
        rw [show (15 : Nat) = 2 ^ 4 - 1 from rfl, Nat.testBit_two_pow_sub_one]
        simpa using h4
      rw [this, Bool.and_true]
    · rw [Nat.testBit_lt_two_pow (Nat.lt_of_lt_of_le hk2 (Nat.pow_le_pow_right (by decide) (by omega))), Bool.false_and]
  · simp [h]
theorem land_lo (k r b : Nat) (hr : r < 4096) (hb : 4095 &&& b = b) : (k * 4096 + r) &&& b = r &&& b := by
  rw [← hb, ← Nat.and_assoc, ← Nat.and_assoc, show (4095 : Nat) = 2 ^ 12 - 1 from rfl, Nat.and_two_pow_sub_one_eq_mod, Nat.and_two_pow_sub_one_eq_mod, show (k * 4096 + r) % 2 ^ 12 = r % 2 ^ 12 by omega]
theorem fmt_law {k r : Int} (h0 : 0 ≤ k) (h1 : k < 16) (h2 : 0 ≤ r) (h3 : r < 4096) : fmt (k * 4096 + r) = 4096 * k := by
  obtain ⟨a, rfl⟩ := Int.eq_ofNat_of_zero_le h0
  obtain ⟨b, rfl⟩ := Int.eq_ofNat_of_zero_le h2
  unfold fmt
  have e : ((a : Int) * 4096 + (b : Int)) = ((a * 4096 + b : Nat) : Int) := by push_cast; rfl
  rw [e, show (61440 : Int) = ((61440 : Nat) : Int) from rfl, nat_and, land_hi a b (by omega) (by omega)]
  push_cast; rfl
theorem mode_law {k r : Int} (h0 : 0 ≤ k) (h1 : k < 16) (h2 : 0 ≤ r) (h3 : r < 4096) : Builtin.bitAnd (k * 4096 + r) 4095 = r := by
  obtain ⟨a, rfl⟩ := Int.eq_ofNat_of_zero_le h0
  obtain ⟨b, rfl⟩ := Int.eq_ofNat_of_zero_le h2
  have e : ((a : Int) * 4096 + (b : Int)) = ((a * 4096 + b : Nat) : Int) := by push_cast; rfl
  rw [e, show (4095 : Int) = ((4095 : Nat) : Int) from rfl, nat_and, show (4095 : Nat) = 2 ^ 12 - 1 from rfl, Nat.and_two_pow_sub_one_eq_mod]
  have : (a * 4096 + b) % 2 ^ 12 = b := by omega
  rw [this]
end Mine
end

section -- P1b
open PySem PySem.W PySem.W.X PyProof.Rows PySem.Calls
set_option Elab.async false
set_option maxRecDepth 100000
set_option maxHeartbeats 4000000
namespace Mine
def signs9 (r : Int) : List Str := [rCh r 0, wCh r 0, xCh r 0, rCh r 1, wCh r 1, xCh r 1, rCh r 2, wCh r 2, xCh r 2]
theorem hit_m {r m b : Nat} (hb : m &&& b = b) : hit 1 (r : Int) (b : Int) = hit 1 ((r &&& m : Nat) : Int) (b : Int) := by
  unfold hit
  rw [if_neg (by decide), if_neg (by decide), nat_and, nat_and, Nat.and_assoc, hb]
theorem pick_m {r m : Nat} {rows : List (Int × Str)} (hb : ∀ q ∈ rows, q.1 = (q.1.toNat : Int) ∧ m &&& q.1.toNat = q.1.toNat) : pick 1 (r : Int) rows = pick 1 ((r &&& m : Nat) : Int) rows := by
  unfold pick
  have e : rows.find? (fun q => hit 1 (r : Int) q.1) = rows.find? (fun q => hit 1 ((r &&& m : Nat) : Int) q.1) := by
    induction rows with
    | nil => rfl
    | cons q l ih =>
      obtain ⟨e1, e2⟩ := hb q (.head _)
      rw [List.find?_cons, List.find?_cons, ih fun z hz => hb z (.tail _ hz)]
      have e3 : hit 1 (r : Int) q.1 = hit 1 ((r &&& m : Nat) : Int) q.1 := by
        rw [e1]; exact hit_m e2
      rw [e3]
  rw [e]
def three1 (x : Int) (a : List (Int × Str)) (b : List (Int × Str)) (c : List (Int × Str)) : List Str := [pick 1 x a, pick 1 x b, pick 1 x c]
def sg3 (i : Nat) (t s : Int) : List Str := [if 4 ≤ t then "r" else "-", if 2 ≤ t.fmod 4 then "w" else "-", PySem.Txt.item (if i = 2 then "-xTt" else "-xSs") (t.fmod 2 + 2 * s)]
theorem bits3 : ∀ a : Fin 64, ∀ b : Fin 64, (a.val * 64 + b.val) &&& 2496 = a.val % 8 * 64 + a.val / 32 * 2048 ∧ (a.val * 64 + b.val) &&& 1080 = b.val / 8 * 8 + a.val / 16 % 2 * 1024 ∧ (a.val * 64 + b.val) &&& 519 = b.val % 8 + a.val / 8 % 2 * 512 := by decide +kernel
def rw0 (j : Nat) : List (Int × Str) := (modeTable.drop j).headD []
theorem masks : (∀ j : Fin 9, ∀ q ∈ rw0 (j.val + 1), q.1 = (q.1.toNat : Int) ∧ (if j.val < 3 then 2496 else if j.val < 6 then 1080 else 519) &&& q.1.toNat = q.1.toNat) := by decide +kernel
theorem grp0 : ∀ t : Fin 8, ∀ s : Fin 2, three1 ((t.val * 64 + s.val * 2048 : Nat) : Int) (rw0 1) (rw0 2) (rw0 3) = sg3 0 (t.val : Int) (s.val : Int) := by decide +kernel
theorem grp1 : ∀ t : Fin 8, ∀ s : Fin 2, three1 ((t.val * 8 + s.val * 1024 : Nat) : Int) (rw0 4) (rw0 5) (rw0 6) = sg3 1 (t.val : Int) (s.val : Int) := by decide +kernel
theorem grp2 : ∀ t : Fin 8, ∀ s : Fin 2, three1 ((t.val + s.val * 512 : Nat) : Int) (rw0 7) (rw0 8) (rw0 9) = sg3 2 (t.val : Int) (s.val : Int) := by decide +kernel
theorem fdm (r d k : Nat) : ((r : Int).fdiv (d : Int)).fmod (k : Int) = ((r / d % k : Nat) : Int) := by
  rw [Int.fdiv_eq_ediv_of_nonneg _ (by omega), Int.fmod_eq_emod_of_nonneg _ (by omega)]; push_cast; rfl
theorem sg3_is (r : Nat) (i : Nat) {t s : Nat} (ht : threeOf (r : Int) i = (t : Int)) (hs : aboveOf (r : Int) i = (s : Int)) : [rCh (r : Int) i, wCh (r : Int) i, xCh (r : Int) i] = sg3 i (t : Int) (s : Int) := by
  unfold rCh wCh xCh sg3
  rw [ht, hs]
theorem nine (a b : Fin 64) : picks ((a.val * 64 + b.val : Nat) : Int) 1 (modeTable.drop 1) = signs9 ((a.val * 64 + b.val : Nat) : Int) := by
  obtain ⟨b0, b1, b2⟩ := bits3 a b
  have ha := a.isLt
  have hb := b.isLt
  generalize hr : a.val * 64 + b.val = r at *
  have q0 : three1 (r : Int) (rw0 1) (rw0 2) (rw0 3) = sg3 0 ((a.val % 8 : Nat) : Int) ((a.val / 32 : Nat) : Int) := by
    have z := grp0 ⟨a.val % 8, by omega⟩ ⟨a.val / 32, by omega⟩
    rw [← z]; unfold three1
    have p1 : pick 1 (r : Int) (rw0 1) = pick 1 ((r &&& 2496 : Nat) : Int) (rw0 1) := pick_m (masks 0)
    have p2 : pick 1 (r : Int) (rw0 2) = pick 1 ((r &&& 2496 : Nat) : Int) (rw0 2) := pick_m (masks 1)
    have p3 : pick 1 (r : Int) (rw0 3) = pick 1 ((r &&& 2496 : Nat) : Int) (rw0 3) := pick_m (masks 2)
    rw [p1, p2, p3]
    exact congrArg (fun n : Nat => [pick 1 (n : Int) (rw0 1), pick 1 (n : Int) (rw0 2), pick 1 (n : Int) (rw0 3)]) b0
  have q1 : three1 (r : Int) (rw0 4) (rw0 5) (rw0 6) = sg3 1 ((b.val / 8 : Nat) : Int) ((a.val / 16 % 2 : Nat) : Int) := by
    have z := grp1 ⟨b.val / 8, by omega⟩ ⟨a.val / 16 % 2, by omega⟩
    rw [← z]; unfold three1
    have p4 : pick 1 (r : Int) (rw0 4) = pick 1 ((r &&& 1080 : Nat) : Int) (rw0 4) := pick_m (masks 3)
    have p5 : pick 1 (r : Int) (rw0 5) = pick 1 ((r &&& 1080 : Nat) : Int) (rw0 5) := pick_m (masks 4)
    have p6 : pick 1 (r : Int) (rw0 6) = pick 1 ((r &&& 1080 : Nat) : Int) (rw0 6) := pick_m (masks 5)
    rw [p4, p5, p6]
    exact congrArg (fun n : Nat => [pick 1 (n : Int) (rw0 4), pick 1 (n : Int) (rw0 5), pick 1 (n : Int) (rw0 6)]) b1
  have q2 : three1 (r : Int) (rw0 7) (rw0 8) (rw0 9) = sg3 2 ((b.val % 8 : Nat) : Int) ((a.val / 8 % 2 : Nat) : Int) := by
    have z := grp2 ⟨b.val % 8, by omega⟩ ⟨a.val / 8 % 2, by omega⟩
    rw [← z]; unfold three1
    have p7 : pick 1 (r : Int) (rw0 7) = pick 1 ((r &&& 519 : Nat) : Int) (rw0 7) := pick_m (masks 6)
    have p8 : pick 1 (r : Int) (rw0 8) = pick 1 ((r &&& 519 : Nat) : Int) (rw0 8) := pick_m (masks 7)
    have p9 : pick 1 (r : Int) (rw0 9) = pick 1 ((r &&& 519 : Nat) : Int) (rw0 9) := pick_m (masks 8)
    rw [p7, p8, p9]
    exact congrArg (fun n : Nat => [pick 1 (n : Int) (rw0 7), pick 1 (n : Int) (rw0 8), pick 1 (n : Int) (rw0 9)]) b2
  have s0 := sg3_is r 0 (t := a.val % 8) (s := a.val / 32) (by rw [show a.val % 8 = r / 64 % 8 by omega]; exact fdm r 64 8) (by rw [show a.val / 32 = r / 2048 % 2 by omega]; exact fdm r 2048 2)
  have s1 := sg3_is r 1 (t := b.val / 8) (s := a.val / 16 % 2) (by rw [show b.val / 8 = r / 8 % 8 by omega]; exact fdm r 8 8) (by rw [show a.val / 16 % 2 = r / 1024 % 2 by omega]; exact fdm r 1024 2)
  have s2 := sg3_is r 2 (t := b.val % 8) (s := a.val / 8 % 2) (by rw [show b.val % 8 = r / 1 % 8 by omega]; exact fdm r 1 8) (by rw [show a.val / 8 % 2 = r / 512 % 2 by omega]; exact fdm r 512 2)
  show three1 (r : Int) (rw0 1) (rw0 2) (rw0 3) ++ (three1 (r : Int) (rw0 4) (rw0 5) (rw0 6) ++ three1 (r : Int) (rw0 7) (rw0 8) (rw0 9)) = [rCh (r : Int) 0, wCh (r : Int) 0, xCh (r : Int) 0] ++ ([rCh (r : Int) 1, wCh (r : Int) 1, xCh (r : Int) 1] ++ [rCh (r : Int) 2, wCh (r : Int) 2, xCh (r : Int) 2])
  rw [q0, q1, q2, s0, s1, s2]
end Mine
end

section -- P1c
open PySem PySem.W PySem.W.X PyProof.Rows PySem.Calls
set_option Elab.async false
set_option maxRecDepth 100000
set_option maxHeartbeats 4000000
namespace Mine
theorem first_all : ∀ k : Fin 16, (match (modeTable.headD []).find? fun r => decide (4096 * (k.val : Int) = r.1) with | some r => r.2 | none => ("?" : Str)) = kCh (k.val : Int) := by decide +kernel
theorem hit_lo {i : Nat} {k r b : Nat} (hi : i ≠ 0) (hr : r < 4096) (hb : 4095 &&& b = b) : hit i ((k * 4096 + r : Nat) : Int) (b : Int) = hit i (r : Int) (b : Int) := by
  unfold hit
  rw [if_neg hi, if_neg hi, nat_and, nat_and, land_lo k r b hr hb]
theorem pick_lo {i : Nat} {k r : Nat} {rows : List (Int × Str)} (hi : i ≠ 0) (hr : r < 4096) (hb : ∀ q ∈ rows, ∃ b : Nat, q.1 = (b : Int) ∧ 4095 &&& b = b) : pick i ((k * 4096 + r : Nat) : Int) rows = pick i (r : Int) rows := by
  unfold pick
  have e : rows.find? (fun q => hit i ((k * 4096 + r : Nat) : Int) q.1) = rows.find? (fun q => hit i (r : Int) q.1) := by
    induction rows with
    | nil => rfl
    | cons q l ih =>
      obtain ⟨b, e1, e2⟩ := hb q (.head _)
      rw [List.find?_cons, List.find?_cons, e1, hit_lo hi hr e2, ih fun z hz => hb z (.tail _ hz)]
  rw [e]
theorem picks_lo {k r : Nat} (hr : r < 4096) : ∀ (i : Nat) (l : List (List (Int × Str))), i ≠ 0 → (∀ rows ∈ l, ∀ q ∈ rows, ∃ b : Nat, q.1 = (b : Int) ∧ 4095 &&& b = b) → picks ((k * 4096 + r : Nat) : Int) i l = picks (r : Int) i l
  | _, [], _, _ => rfl
  | i, t :: l, hi, hb => by
    show pick i _ t :: picks _ (i + 1) l = pick i _ t :: picks _ (i + 1) l
    rw [pick_lo hi hr (hb t (.head _)), picks_lo hr (i + 1) l (Nat.succ_ne_zero i) fun rows h => hb rows (.tail _ h)]
theorem low_bits : ∀ rows ∈ modeTable.drop 1, ∀ q ∈ rows, ∃ b : Nat, q.1 = (b : Int) ∧ 4095 &&& b = b := by
  have h : ∀ rows ∈ modeTable.drop 1, ∀ q ∈ rows, q.1 = (q.1.toNat : Int) ∧ 4095 &&& q.1.toNat = q.1.toNat := by decide +kernel
  exact fun rows hr q hq => ⟨q.1.toNat, h rows hr q hq⟩
end Mine
end

section -- P1d
open PySem PySem.W PySem.W.X PyProof.Rows PySem.Calls
set_option Elab.async false
set_option maxRecDepth 100000
set_option maxHeartbeats 4000000
namespace Mine
theorem join10 (a b c d e f g h i j : Str) : PySem.Txt.join (Str.ofString "") [a, b, c, d, e, f, g, h, i, j] = a ++ b ++ c ++ d ++ e ++ f ++ g ++ h ++ i ++ j := by
  have hz : (Str.ofString "").cps = #[] := by decide
  show Builtin.Str.glued (Str.ofString "") [a, b, c, d, e, f, g, h, i, j] = _
  unfold Builtin.Str.glued
  simp only [List.drop_succ_cons, List.drop_zero, List.foldl_cons, List.foldl_nil, List.headD_cons, hz, Array.append_empty]
  rfl
theorem first_law {k r : Nat} (hk : k < 16) (hr : r < 4096) : pick 0 ((k * 4096 + r : Nat) : Int) (modeTable.headD []) = kCh (k : Int) := by
  have e : fmt ((k * 4096 + r : Nat) : Int) = 4096 * (k : Int) := by
    have z := fmt_law (k := (k : Int)) (r := (r : Int)) (by omega) (by omega) (by omega) (by omega)
    rw [← z]; congr 1
  have q := first_all ⟨k, hk⟩
  unfold pick hit
  simp only [if_true, e]
  exact q
theorem fm_law_of (nine : ∀ r : Nat, r < 4096 → picks (r : Int) 1 (modeTable.drop 1) = signs9 (r : Int)) {k r : Int} (h0 : 0 ≤ k) (h1 : k < 16) (h2 : 0 ≤ r) (h3 : r < 4096) : fmText (k * 4096 + r) = sigOf k r := by
  obtain ⟨a, rfl⟩ := Int.eq_ofNat_of_zero_le h0
  obtain ⟨b, rfl⟩ := Int.eq_ofNat_of_zero_le h2
  have e : ((a : Int) * 4096 + (b : Int)) = ((a * 4096 + b : Nat) : Int) := by push_cast; rfl
  rw [e]
  have e2 : picks ((a * 4096 + b : Nat) : Int) 0 modeTable = kCh (a : Int) :: signs9 (b : Int) := by
    show pick 0 _ (modeTable.headD []) :: picks _ 1 (modeTable.drop 1) = _
    rw [first_law (by omega) (by omega), picks_lo (by omega) 1 _ (by decide) low_bits, nine b (by omega)]
  unfold fmText
  rw [e2]
  exact join10 _ _ _ _ _ _ _ _ _ _
theorem fm_law {k r : Int} (h0 : 0 ≤ k) (h1 : k < 16) (h2 : 0 ≤ r) (h3 : r < 4096) : fmText (k * 4096 + r) = sigOf k r := by
  refine fm_law_of (fun r hr => ?_) h0 h1 h2 h3
  have q := nine ⟨r / 64, by omega⟩ ⟨r % 64, by omega⟩
  have e : r / 64 * 64 + r % 64 = r := by omega
  dsimp only at q
  rw [e] at q
  exact q
end Mine
end

section -- P2a
open PySem PySem.W PySem.W.X PyProof.Rows PySem.Calls
set_option Elab.async false
set_option maxRecDepth 100000
set_option maxHeartbeats 1000000
namespace Mine
theorem kCh_one : ∀ k : Fin 16, kCh (k.val : Int) = ⟨#[(kCh (k.val : Int)).cps.toList.headD 0]⟩ := by decide +kernel
theorem sig_len {k r : Int} (h0 : 0 ≤ k) (h1 : k < 16) (h2 : 0 ≤ r) (h3 : r < 4096) : (sigOf k r).length = 10 := by
  rw [← fm_law h0 h1 h2 h3]
  unfold fmText
  rw [KT.join_ones _ (picks_one _ 0 table_one), picks_len]
  rfl
theorem app_cps (a b : Str) : (a ++ b).cps = a.cps ++ b.cps := rfl
theorem str_assoc (a b c : Str) : a ++ b ++ c = a ++ (b ++ c) := by
  obtain ⟨a⟩ := a
  obtain ⟨b⟩ := b
  obtain ⟨c⟩ := c
  show (⟨a ++ b ++ c⟩ : Str) = ⟨a ++ (b ++ c)⟩
  rw [Array.append_assoc]
theorem slice_law {k r : Int} (h0 : 0 ≤ k) (h1 : k < 16) (h2 : 0 ≤ r) (h3 : r < 4096) : PySem.Txt.slice (sigOf k r) none (some 1) = kCh k := by
  obtain ⟨a, rfl⟩ := Int.eq_ofNat_of_zero_le h0
  have hk := kCh_one ⟨a, by omega⟩
  have hl := sig_len h0 h1 h2 h3
  obtain ⟨c, hc⟩ : ∃ c, kCh (a : Int) = ⟨#[c]⟩ := ⟨_, hk⟩
  have hs : ∃ rest : Str, sigOf (a : Int) r = kCh (a : Int) ++ rest := by
    unfold sigOf
    simp only [sgOf, str_assoc]
    exact ⟨_, rfl⟩
  obtain ⟨rest, hs⟩ := hs
  have e1 : Builtin.Str.strSliceIndices none (some 1) 1 10 = [0] := by decide
  unfold PySem.Txt.slice
  rw [hl, e1, if_neg (by decide), hs, hc, app_cps]
  have e2 : (#[c] ++ rest.cps)[0]? = some c := by rw [Array.getElem?_append_left (by simp)]; rfl
  simp only [List.filterMap_cons, e2, List.filterMap_nil]
end Mine
end

section -- P2b
open PySem PySem.W PySem.W.X PyProof.Rows PySem.Calls
set_option Elab.async false
set_option maxRecDepth 100000
set_option maxHeartbeats 1000000
namespace Mine
open PySem.StrLaws PySem.Builtin.Str
theorem occ_full (s sub : Str) (hi : Nat) : ∀ (l : List Nat) (st : Array Nat × Nat), st.fst.size = 1 → (forIn l st (occBody s sub hi 1)).run = st
  | [], st, _ => rfl
  | a :: l, st, h => by
    rw [List.forIn_cons]
    unfold occBody
    rw [if_neg (by omega)]
    exact occ_full s sub hi l st h
theorem occ_skip (s sub : Str) (hi : Nat) : ∀ (l rest : List Nat) (free : Nat), (∀ i ∈ l, subAt s sub i = false) → (forIn (l ++ rest) ((#[] : Array Nat), free) (occBody s sub hi 1)).run = (forIn rest ((#[] : Array Nat), free) (occBody s sub hi 1)).run
  | [], rest, free, _ => rfl
  | a :: l, rest, free, h => by
    rw [List.cons_append, List.forIn_cons]
    unfold occBody
    rw [if_neg (by rw [h a (.head _)]; simp)]
    exact occ_skip s sub hi l rest free fun i hi' => h i (.tail _ hi')
theorem occ_first {s sub : Str} {p : Nat} (hp : p + sub.length ≤ s.length) (hno : ∀ i, i < p → subAt s sub i = false) (hat : subAt s sub p = true) : occurrences s sub 0 s.length 1 = [p] := by
  rw [occ_eq]
  have e : List.range' 0 (s.length + 1 - 0) = List.range' 0 p ++ p :: List.range' (p + 1) (s.length - p) := by
    have h1 : s.length + 1 - 0 = p + (s.length - p + 1) := by omega
    rw [h1, ← List.range'_append_1, Nat.zero_add, List.range'_succ]
  rw [e, occ_skip s sub s.length _ _ 0 (fun i hi => hno i (by have := List.mem_range'_1.mp hi; omega)), List.forIn_cons]
  have c : ((((#[] : Array Nat), 0).fst.size < 1 ∧ ((#[] : Array Nat), 0).snd ≤ p) ∧ p + sub.length ≤ s.length) ∧ subAt s sub p = true := ⟨⟨⟨by simp, Nat.zero_le _⟩, hp⟩, hat⟩
  have e2 : occBody s sub s.length 1 p ((#[] : Array Nat), 0) = pure (ForInStep.yield ((#[] : Array Nat).push p, p + sub.length)) := by
    unfold occBody; rw [if_pos c]
  rw [e2]
  show (forIn _ ((#[] : Array Nat).push p, p + sub.length) (occBody s sub s.length 1)).run.fst.toList = [p]
  rw [occ_full s sub s.length _ _ (by simp)]
  rfl
end Mine
end

section -- P2c
open PySem PySem.W PySem.W.X PyProof.Rows PySem.Calls
set_option Elab.async false
set_option maxRecDepth 100000
set_option maxHeartbeats 1000000
namespace Mine
open PySem.StrLaws PySem.Builtin.Str
theorem take_stop {g : Nat → Bool} : ∀ {p : List Nat} {c : Nat} {r : List Nat}, (∀ z ∈ p, g z = true) → g c = false → (p ++ c :: r).takeWhile g = p
  | [], c, r, _, hc => by rw [List.nil_append, List.takeWhile_cons, hc]; rfl
  | a :: p, c, r, h, hc => by
    rw [List.cons_append, List.takeWhile_cons, h a (.head _)]
    show a :: (p ++ c :: r).takeWhile g = _
    rw [take_stop (fun z hz => h z (.tail _ hz)) hc]
theorem strip_mid {x : Str} {p m q : List Nat} {c d : Nat} {m1 m2 : List Nat} (hx : x.cps.toList = p ++ (m ++ q)) (hp : ∀ z ∈ p, Unicode.isSpace z = true) (hq : ∀ z ∈ q, Unicode.isSpace z = true)
    (h1 : m = c :: m1) (hc : Unicode.isSpace c = false) (h2 : m = m2 ++ [d]) (hd : Unicode.isSpace d = false) : PySem.Txt.strip x = ⟨m.toArray⟩ := by
  have lo : stripLo Unicode.isSpace true x = p.length := by
    simp only [stripLo, if_true]
    rw [hx, h1, List.cons_append, take_stop hp hc]
  have hl : x.length = p.length + m.length + q.length := by
    show x.cps.size = _
    rw [← Array.length_toList, hx, List.length_append, List.length_append]; omega
  have hi : stripHi Unicode.isSpace true x p.length = p.length + m.length := by
    simp only [stripHi, if_true]
    rw [hx, List.drop_left, List.reverse_append, h2, List.reverse_append]
    have e : (([d] : List Nat).reverse ++ m2.reverse) = d :: m2.reverse := rfl
    rw [e, take_stop (fun z hz => hq z (List.mem_reverse.mp hz)) hd, hl, List.length_reverse, h2]
    omega
  unfold PySem.Txt.strip
  rw [PyProof.Rows.stripBy_eq, lo, hi]
  show (⟨x.cps.extract p.length (p.length + m.length)⟩ : Str) = _
  congr 1
  apply Array.ext'
  rw [Array.toList_extract, hx]
  simp
end Mine
end

section -- P2d
open PySem PySem.W PySem.W.X PyProof.Rows PySem.Calls
set_option Elab.async false
set_option maxRecDepth 100000
set_option maxHeartbeats 1000000
namespace Mine
open PySem.StrLaws PySem.Builtin.Str
def OkS (x : Str) : Prop := ∀ c ∈ x.cps.toList, c ≠ 61 ∧ Unicode.isSpace c = false
theorem OkS.app {a b : Str} (ha : OkS a) (hb : OkS b) : OkS (a ++ b) := fun c hc => by
  have h : c ∈ a.cps.toList ++ b.cps.toList := by rw [← Array.toList_append]; exact hc
  rcases List.mem_append.mp h with h | h
  · exact ha c h
  · exact hb c h
theorem ok_k : ∀ k : Fin 16, OkS (kCh (k.val : Int)) := by unfold OkS; decide +kernel
theorem ok_x : ∀ j : Fin 4, OkS (PySem.Txt.item "-xTt" (j.val : Int)) ∧ OkS (PySem.Txt.item "-xSs" (j.val : Int)) := by unfold OkS; decide +kernel
theorem ok_r (r : Int) (i : Nat) : OkS (rCh r i) := by
  unfold rCh; split <;> (unfold OkS; decide +kernel)
theorem ok_w (r : Int) (i : Nat) : OkS (wCh r i) := by
  unfold wCh; split <;> (unfold OkS; decide +kernel)
theorem ok_xc (r : Int) (i : Nat) : OkS (xCh r i) := by
  unfold xCh
  have a1 : 0 ≤ (threeOf r i).fmod 2 ∧ (threeOf r i).fmod 2 < 2 := ⟨Int.fmod_nonneg_of_pos _ (by decide), Int.fmod_lt_of_pos _ (by decide)⟩
  have a2 : 0 ≤ aboveOf r i ∧ aboveOf r i < 2 := ⟨Int.fmod_nonneg_of_pos _ (by decide), Int.fmod_lt_of_pos _ (by decide)⟩
  obtain ⟨j, hj⟩ := Int.eq_ofNat_of_zero_le (a := (threeOf r i).fmod 2 + 2 * aboveOf r i) (by omega)
  rw [hj]
  have hj4 : j < 4 := by omega
  have q := ok_x ⟨j, hj4⟩
  split
  · exact q.1
  · exact q.2
theorem ok_sig {k r : Int} (h0 : 0 ≤ k) (h1 : k < 16) : OkS (sigOf k r) := by
  obtain ⟨a, rfl⟩ := Int.eq_ofNat_of_zero_le h0
  have hk := ok_k ⟨a, by omega⟩
  unfold sigOf sgOf sgOf sgOf sgOf
  exact ((((((((OkS.app hk (ok_r _ _)).app (ok_w _ _)).app (ok_xc _ _)).app (ok_r _ _)).app (ok_w _ _)).app (ok_xc _ _)).app (ok_r _ _)).app (ok_w _ _)).app (ok_xc _ _)
end Mine
end

section -- P3
open PySem PySem.W PySem.W.X PyProof.Rows PySem.Calls
set_option Elab.async false
set_option maxRecDepth 100000
set_option maxHeartbeats 1000000
namespace Mine
open PySem.StrLaws PySem.Builtin.Str
theorem name_ends : ∀ i : Fin 30, ∃ c m1, (nameOf (i.val : Int)).cps.toList = c :: m1 ∧ Unicode.isSpace c = false ∧ ∃ m2 d, (nameOf (i.val : Int)).cps.toList = m2 ++ [d] ∧ Unicode.isSpace d = false := by
  have h : ∀ i : Fin 30, (nameOf (i.val : Int)).cps.toList = (nameOf (i.val : Int)).cps.toList.headD 0 :: (nameOf (i.val : Int)).cps.toList.tail ∧ Unicode.isSpace ((nameOf (i.val : Int)).cps.toList.headD 0) = false ∧
      (nameOf (i.val : Int)).cps.toList = (nameOf (i.val : Int)).cps.toList.dropLast ++ [(nameOf (i.val : Int)).cps.toList.getLastD 0] ∧ Unicode.isSpace ((nameOf (i.val : Int)).cps.toList.getLastD 0) = false := by decide +kernel
  intro i
  obtain ⟨a, b, c, d⟩ := h i
  exact ⟨_, _, a, b, _, _, c, d⟩
theorem kind_pos (x : Str) : ¬ PySem.Builtin.Str.strKind x < 1 := by
  unfold PySem.Builtin.Str.strKind
  split
  · omega
  · split <;> omega
theorem split_of {S nm : Str} (hS : OkS S) (hl : S.length = 10) {c d : Nat} {m1 m2 : List Nat} (e1 : nm.cps.toList = c :: m1) (hc : Unicode.isSpace c = false) (e2 : nm.cps.toList = m2 ++ [d]) (hd : Unicode.isSpace d = false) :
    ∃ y z, PySem.Txt.splitMax (S ++ Str.ofString " = " ++ nm) "=" 1 = [y, z] ∧ PySem.Txt.strip y = S ∧ PySem.Txt.strip z = nm := by
  generalize hx : S ++ Str.ofString " = " ++ nm = x
  have hsl : S.cps.toList.length = 10 := by rw [Array.length_toList]; exact hl
  have xl : x.cps.toList = S.cps.toList ++ (32 :: 61 :: 32 :: nm.cps.toList) := by
    rw [← hx]
    show ((S.cps ++ (Str.ofString " = ").cps) ++ nm.cps).toList = _
    rw [Array.toList_append, Array.toList_append, show (Str.ofString " = ").cps.toList = [32, 61, 32] by decide, List.append_assoc]
    rfl
  have xlen : x.length = 13 + nm.cps.toList.length := by
    show x.cps.size = _
    rw [← Array.length_toList, xl, List.length_append, hsl]
    simp only [List.length_cons]; omega
  have sub1 : (Str.ofString "=").length = 1 := by decide
  have subl : (Str.ofString "=").cps.toList = [61] := by decide
  have occ : occurrences x (Str.ofString "=") 0 x.length 1 = [11] := by
    refine occ_first (by rw [sub1, xlen]; omega) (fun i hi => ?_) ?_
    · rw [subAt_eq, sub1, subl, xl]
      by_cases h : i < 10
      · rw [List.drop_append_of_le_length (by omega), List.drop_eq_getElem_cons (by omega), List.cons_append, List.take_succ_cons, List.take_zero]
        have q := (hS _ (List.getElem_mem (l := S.cps.toList) (n := i) (by omega))).1
        simpa using q
      · have h10 : i = 10 := by omega
        subst h10
        rw [show (10 : Nat) = S.cps.toList.length from hsl.symm, List.drop_left]
        rfl
    · rw [subAt_eq, sub1, subl, xl, show (11 : Nat) = S.cps.toList.length + 1 by rw [hsl], ← List.drop_drop, List.drop_left]
      rfl
  refine ⟨strSub x 0 11, strSub x 12 x.length, ?_, ?_, ?_⟩
  · unfold PySem.Txt.splitMax
    rw [if_neg (by
      rw [sub1, show PySem.Builtin.Str.strKind (Str.ofString "=") = 1 by decide +kernel]
      have q := kind_pos x
      simp only [Bool.or_eq_true, decide_eq_true_eq]
      omega), show limitOf x 1 = 1 from rfl, occ, if_neg (by simp), sub1]
    rfl
  · cases hSl : S.cps.toList with
    | nil => rw [hSl] at hsl; cases hsl
    | cons a l =>
      obtain ⟨m2', d', hm⟩ : ∃ m2' d', S.cps.toList = m2' ++ [d'] := ⟨S.cps.toList.dropLast, S.cps.toList.getLast (by rw [hSl]; simp), (List.dropLast_concat_getLast _).symm⟩
      have ha : Unicode.isSpace a = false := (hS a (by rw [hSl]; exact .head _)).2
      have hd' : Unicode.isSpace d' = false := (hS d' (by rw [hm]; simp)).2
      have z := strip_mid (x := strSub x 0 11) (p := []) (q := [32]) (m := S.cps.toList) (by
        show (x.cps.extract 0 11).toList = _
        rw [Array.toList_extract, xl]
        simp only [List.extract_eq_take_drop, List.drop_zero, Nat.sub_zero, List.nil_append]
        rw [show (11 : Nat) = S.cps.toList.length + 1 by rw [hsl], List.take_length_add_append]
        rfl) (fun z h => (nomatch h)) (fun z h => by rw [List.mem_singleton.mp h]; decide +kernel) hSl ha hm hd'
      rw [z]
  · have z := strip_mid (x := strSub x 12 x.length) (p := [32]) (q := []) (m := nm.cps.toList) (by
      show (x.cps.extract 12 x.length).toList = _
      rw [Array.toList_extract, xl]
      simp only [List.extract_eq_take_drop, List.append_nil]
      rw [show (12 : Nat) = S.cps.toList.length + 2 by rw [hsl], ← List.drop_drop, List.drop_left, xlen, hsl]
      show List.take _ (32 :: nm.cps.toList) = _
      rw [List.take_of_length_le (by simp only [List.length_cons]; omega)]
      rfl) (fun z h => by rw [List.mem_singleton.mp h]; decide +kernel) (fun z h => (nomatch h)) e1 hc e2 hd
    rw [z]
theorem split_law {k r : Int} {i : Nat} (h0 : 0 ≤ k) (h1 : k < 16) (h2 : 0 ≤ r) (h3 : r < 4096) (hi : i < 30) :
    ∃ y z, PySem.Txt.splitMax (fmText (k * 4096 + r) ++ Str.ofString " = " ++ nameOf (i : Int)) "=" 1 = [y, z] ∧ PySem.Txt.strip y = fmText (k * 4096 + r) ∧ PySem.Txt.strip z = nameOf (i : Int) := by
  rw [fm_law h0 h1 h2 h3]
  obtain ⟨c, m1, a, b, m2, d, e, f⟩ := name_ends ⟨i, hi⟩
  exact split_of (ok_sig h0 h1) (sig_len h0 h1 h2 h3) a b e f
end Mine
end

section -- K8
open PySem PySem.W PySem.W.X PyProof.Rows PySem.Calls
set_option Elab.async false
set_option maxRecDepth 100000
set_option maxHeartbeats 1000000
namespace Mine
section
variable {h₀ : Heap} {L : Addr} {w : World} {news₀ n n' n'' : List (Addr × Obj)} {c1 c2 x1 d1 x2 d2 : Addr} {st : PS} {ks1 : List (Int × Addr)} {ks2 : List (Str × Addr)}
/-- the first book has handed out the list l for the key k -/
inductive Put1 (w : World) (news₀ : List (Addr × Obj)) (c1 c2 x1 d1 x2 d2 : Addr) (st : PS) (ks1 : List (Int × Addr)) (ks2 : List (Str × Addr)) (k : Int) (n' : List (Addr × Obj)) (l : Addr) : Prop
  | found {st' : PS} {ks1' : List (Int × Addr)} (R : RunK w news₀ c1 c2 x1 d1 x2 d2 st' ks1' ks2 n') (hf : bfind ks1' k = some l) (hb : ∀ d g, bput st'.types k d g = bput st.types k d st.tg) (e1 : st'.firsts = st.firsts) (e2 : st'.tg = st.tg) (e3 : st'.fg = st.fg) (hl : ks1'.length ≤ ks1.length + 1) (hs : ∀ q ∈ st'.types, q ∈ st.types ∨ q.2 = []) : Put1 w news₀ c1 c2 x1 d1 x2 d2 st ks1 ks2 k n' l
  | lost (R : RunK w news₀ c1 c2 x1 d1 x2 d2 st ks1 ks2 n') (hn : bfind st.types k = none) (hg : st.tg = false) (hm : (l, W.listOf #[] 0) ∈ n') (hfr : ∀ z ∈ ks1.map (·.2) ++ ks2.map (·.2), z ≠ l) : Put1 w news₀ c1 c2 x1 d1 x2 d2 st ks1 ks2 k n' l
inductive Put2 (w : World) (news₀ : List (Addr × Obj)) (c1 c2 x1 d1 x2 d2 : Addr) (st : PS) (ks1 : List (Int × Addr)) (ks2 : List (Str × Addr)) (k : Str) (n' : List (Addr × Obj)) (l : Addr) : Prop
  | found {st' : PS} {ks2' : List (Str × Addr)} (R : RunK w news₀ c1 c2 x1 d1 x2 d2 st' ks1 ks2' n') (hf : bfind ks2' k = some l) (hb : ∀ d g, bput st'.firsts k d g = bput st.firsts k d st.fg) (e1 : st'.types = st.types) (e2 : st'.tg = st.tg) (e3 : st'.fg = st.fg) (hl : ks2'.length ≤ ks2.length + 1) (hs : ∀ q ∈ st'.firsts, q ∈ st.firsts ∨ q.2 = []) : Put2 w news₀ c1 c2 x1 d1 x2 d2 st ks1 ks2 k n' l
  | lost (R : RunK w news₀ c1 c2 x1 d1 x2 d2 st ks1 ks2 n') (hn : bfind st.firsts k = none) (hg : st.fg = false) (hm : (l, W.listOf #[] 0) ∈ n') (hfr : ∀ z ∈ ks1.map (·.2) ++ ks2.map (·.2), z ≠ l) : Put2 w news₀ c1 c2 x1 d1 x2 d2 st ks1 ks2 k n' l
theorem Put1.mono {k : Int} {l : Addr} (P : Put1 w news₀ c1 c2 x1 d1 x2 d2 st ks1 ks2 k n l) (hs : ∀ q ∈ n, q ∈ n') : Put1 w news₀ c1 c2 x1 d1 x2 d2 st ks1 ks2 k n' l := by
  cases P with
  | found R hf hb e1 e2 e3 hl hq => exact .found (R.mono hs) hf hb e1 e2 e3 hl hq
  | lost R hn hg hm hfr => exact .lost (R.mono hs) hn hg (hs _ hm) hfr
theorem Put2.mono {k : Str} {l : Addr} (P : Put2 w news₀ c1 c2 x1 d1 x2 d2 st ks1 ks2 k n l) (hs : ∀ q ∈ n, q ∈ n') : Put2 w news₀ c1 c2 x1 d1 x2 d2 st ks1 ks2 k n' l := by
  cases P with
  | found R hf hb e1 e2 e3 hl hq => exact .found (R.mono hs) hf hb e1 e2 e3 hl hq
  | lost R hn hg hm hfr => exact .lost (R.mono hs) hn hg (hs _ hm) hfr
theorem bfind_mem {κ α : Type} [DecidableEq κ] : ∀ {rows : List (κ × α)} {k : κ} {d : α}, bfind rows k = some d → ∃ q ∈ rows, q.2 = d
  | [], _, _, h => by cases h
  | p :: r, k, d, h => by
    unfold bfind at h
    by_cases e : p.1 = k
    · rw [if_pos e] at h; exact ⟨p, .head _, Option.some.inj h⟩
    · rw [if_neg e] at h
      obtain ⟨q, hq, h2⟩ := bfind_mem h
      exact ⟨q, .tail _ hq, h2⟩
theorem Put1.at_ {k : Int} {l : Addr} {b : Nat} (P : Put1 w news₀ c1 c2 x1 d1 x2 d2 st ks1 ks2 k n l) (hB : ∀ q ∈ st.types, q.2.length ≤ b) : ∃ (vs : List Value) (m : Nat), (l, W.listOf vs.toArray m) ∈ n ∧ vs.length ≤ b := by
  cases P with
  | @found st' _ R hf _ _ _ _ _ hs =>
    obtain ⟨_, vs, m, ds, hm, hd, hr⟩ := (rows_find (k := k) R.r1).2 l hf
    refine ⟨vs, m, hm, ?_⟩
    obtain ⟨q, hq, e⟩ := bfind_mem hr
    rw [hd.length, ← e]
    rcases hs q hq with h | h
    · exact hB q h
    · rw [h]; exact Nat.zero_le _
  | lost R hn hg hm hfr => exact ⟨[], 0, hm, Nat.zero_le _⟩
theorem Put2.at_ {k : Str} {l : Addr} {b : Nat} (P : Put2 w news₀ c1 c2 x1 d1 x2 d2 st ks1 ks2 k n l) (hB : ∀ q ∈ st.firsts, q.2.length ≤ b) : ∃ (vs : List Value) (m : Nat), (l, W.listOf vs.toArray m) ∈ n ∧ vs.length ≤ b := by
  cases P with
  | @found st' _ R hf _ _ _ _ _ hs =>
    obtain ⟨_, vs, m, ds, hm, hd, hr⟩ := (rows_find (k := k) R.r2).2 l hf
    refine ⟨vs, m, hm, ?_⟩
    obtain ⟨q, hq, e⟩ := bfind_mem hr
    rw [hd.length, ← e]
    rcases hs q hq with h | h
    · exact hB q h
    · rw [h]; exact Nat.zero_le _
  | lost R hn hg hm hfr => exact ⟨[], 0, hm, Nat.zero_le _⟩
theorem list_one {h : Heap} {l : Addr} {vs us : List Value} {m m' : Nat} (N : News h₀ L h n) (h1 : (l, W.listOf vs.toArray m) ∈ n) (h2 : (l, W.listOf us.toArray m') ∈ n) : us = vs := by
  have q := (N _ h1).1.symm.trans (N _ h2).1
  have q2 : (W.listOf vs.toArray m).data = (W.listOf us.toArray m').data := congrArg Obj.data (Option.some.inj q)
  have q3 : vs.toArray = us.toArray := by injection q2
  simpa using q3.symm
/-- the record is appended -/
theorem Put1.done {h : Heap} {k : Int} {l : Addr} {vs : List Value} {m m' : Nat} {v : Value} {d : Dat} (P : Put1 w news₀ c1 c2 x1 d1 x2 d2 st ks1 ks2 k n l) (N : News h₀ L h n) (hm : (l, W.listOf vs.toArray m) ∈ n)
    (hd : DatIn (tups n) v d) (hold : ∀ q ∈ news₀, q.1 ≠ 100 → q.1 ≠ l) : ∃ ks1', ks1'.length ≤ ks1.length + 1 ∧ RunK w news₀ c1 c2 x1 d1 x2 d2 { st with types := bput st.types k d st.tg } ks1' ks2 ((l, W.listOf (vs.toArray.push v) m') :: offL l n) := by
  have keep : KeepBut l n ((l, W.listOf (vs.toArray.push v) m') :: offL l n) := fun q hq hne => .tail _ (List.mem_filter.mpr ⟨hq, decide_eq_true hne⟩)
  have hh := hard_of_but N hm (hard_list _ _) keep
  have hd' : DatIn (tups ((l, W.listOf (vs.toArray.push v) m') :: offL l n)) v d := hd.mono (tups_keep hh)
  have hl' : ∀ us m0, (l, W.listOf us.toArray m0) ∈ n → ∃ m1, (l, W.listOf (us ++ [v]).toArray m1) ∈ (l, W.listOf (vs.toArray.push v) m') :: offL l n := fun us m0 hu => by
    refine ⟨m', ?_⟩
    rw [list_one N hm hu, ← List.push_toArray]; exact .head _
  cases P with
  | @found st' ks1' R hf hb e1 e2 e3 hl _ =>
    have z := R.push1 (g := st.tg) N hf keep hl' hd' hold
    rw [hb] at z
    refine ⟨ks1', hl, ?_⟩
    obtain ⟨ty, fi, tg, fg⟩ := st'
    obtain ⟨ty2, fi2, tg2, fg2⟩ := st
    dsimp only at e1 e2 e3 z ⊢
    subst e1 e2 e3
    exact z
  | lost R hn hg hm2 hfr =>
    refine ⟨ks1, Nat.le_succ _, ?_⟩
    rw [bput_none hn, hg, if_neg Bool.false_ne_true]
    obtain ⟨oT, hT, eT⟩ := R.cT
    obtain ⟨oS, hS, eS⟩ := R.cS
    have ne : ∀ q ∈ n, q.2.cls ≠ .type "list" → q ∈ (l, W.listOf (vs.toArray.push v) m') :: offL l n := fun q hq h => keep q hq (news_neC N hq hm h)
    have z : RunK w news₀ c1 c2 x1 d1 x2 d2 st ks1 ks2 ((l, W.listOf (vs.toArray.push v) m') :: offL l n) := by
      refine ⟨⟨oT, hh _ hT (.inr (.inl ⟨_, eT⟩)), eT⟩, ⟨oS, hh _ hS (.inr (.inl ⟨_, eS⟩)), eS⟩, ?_, ?_, ?_, ?_, R.nd, ?_, fun q hq h => keep q (R.old q hq h) (hold q hq h), R.ne, R.ap⟩
      · exact R.b1.keep hh (fun q hq _ h => ne q hq (by rw [h]; intro e; cases e)) fun q hq _ h => ne q hq (by rw [h]; exact cls_ne (by decide))
      · exact R.b2.keep hh (fun q hq _ h => ne q hq (by rw [h]; intro e; cases e)) fun q hq _ h => ne q hq (by rw [h]; exact cls_ne (by decide))
      · exact rows_keep hh R.r1 fun q hq h _ => keep q hq (hfr _ (List.mem_append_left _ h))
      · exact rows_keep hh R.r2 fun q hq h _ => keep q hq (hfr _ (List.mem_append_right _ h))
      · exact tab_keep R.tab hh fun q hq _ h => ne q hq (by rw [h]; intro e; cases e)
    exact hg ▸ z
theorem Put2.done {h : Heap} {k : Str} {l : Addr} {vs : List Value} {m m' : Nat} {v : Value} {d : Dat} (P : Put2 w news₀ c1 c2 x1 d1 x2 d2 st ks1 ks2 k n l) (N : News h₀ L h n) (hm : (l, W.listOf vs.toArray m) ∈ n)
    (hd : DatIn (tups n) v d) (hold : ∀ q ∈ news₀, q.1 ≠ 100 → q.1 ≠ l) : ∃ ks2', ks2'.length ≤ ks2.length + 1 ∧ RunK w news₀ c1 c2 x1 d1 x2 d2 { st with firsts := bput st.firsts k d st.fg } ks1 ks2' ((l, W.listOf (vs.toArray.push v) m') :: offL l n) := by
  have keep : KeepBut l n ((l, W.listOf (vs.toArray.push v) m') :: offL l n) := fun q hq hne => .tail _ (List.mem_filter.mpr ⟨hq, decide_eq_true hne⟩)
  have hh := hard_of_but N hm (hard_list _ _) keep
  have hd' : DatIn (tups ((l, W.listOf (vs.toArray.push v) m') :: offL l n)) v d := hd.mono (tups_keep hh)
  have hl' : ∀ us m0, (l, W.listOf us.toArray m0) ∈ n → ∃ m1, (l, W.listOf (us ++ [v]).toArray m1) ∈ (l, W.listOf (vs.toArray.push v) m') :: offL l n := fun us m0 hu => by
    refine ⟨m', ?_⟩
    rw [list_one N hm hu, ← List.push_toArray]; exact .head _
  cases P with
  | @found st' ks2' R hf hb e1 e2 e3 hl _ =>
    have z := R.push2 (g := st.fg) N hf keep hl' hd' hold
    rw [hb] at z
    refine ⟨ks2', hl, ?_⟩
    obtain ⟨ty, fi, tg, fg⟩ := st'
    obtain ⟨ty2, fi2, tg2, fg2⟩ := st
    dsimp only at e1 e2 e3 z ⊢
    subst e1 e2 e3
    exact z
  | lost R hn hg hm2 hfr =>
    refine ⟨ks2, Nat.le_succ _, ?_⟩
    rw [bput_none hn, hg, if_neg Bool.false_ne_true]
    obtain ⟨oT, hT, eT⟩ := R.cT
    obtain ⟨oS, hS, eS⟩ := R.cS
    have ne : ∀ q ∈ n, q.2.cls ≠ .type "list" → q ∈ (l, W.listOf (vs.toArray.push v) m') :: offL l n := fun q hq h => keep q hq (news_neC N hq hm h)
    have z : RunK w news₀ c1 c2 x1 d1 x2 d2 st ks1 ks2 ((l, W.listOf (vs.toArray.push v) m') :: offL l n) := by
      refine ⟨⟨oT, hh _ hT (.inr (.inl ⟨_, eT⟩)), eT⟩, ⟨oS, hh _ hS (.inr (.inl ⟨_, eS⟩)), eS⟩, ?_, ?_, ?_, ?_, R.nd, ?_, fun q hq h => keep q (R.old q hq h) (hold q hq h), R.ne, R.ap⟩
      · exact R.b1.keep hh (fun q hq _ h => ne q hq (by rw [h]; intro e; cases e)) fun q hq _ h => ne q hq (by rw [h]; exact cls_ne (by decide))
      · exact R.b2.keep hh (fun q hq _ h => ne q hq (by rw [h]; intro e; cases e)) fun q hq _ h => ne q hq (by rw [h]; exact cls_ne (by decide))
      · exact rows_keep hh R.r1 fun q hq h _ => keep q hq (hfr _ (List.mem_append_left _ h))
      · exact rows_keep hh R.r2 fun q hq h _ => keep q hq (hfr _ (List.mem_append_right _ h))
      · exact tab_keep R.tab hh fun q hq _ h => ne q hq (by rw [h]; intro e; cases e)
    exact hg ▸ z
end
end Mine
end

section -- K9
open PySem PySem.W PySem.W.X PyProof.Rows PySem.Calls
set_option Elab.async false
set_option maxRecDepth 100000
set_option maxHeartbeats 1000000
namespace Mine
section
variable {w : World} {dp un : Nat} {cn : Str} {cs : Scope} {a : Addr} {ccd : Value} {cl : List (Str × Addr)} {outer : List Env} {A₀ : Around} {base h₀ : Heap} {L : Addr} {m mg mb : Str → Option Value} {s : Shared} {Q E : Value → Shared → Prop} {news₀ n : List (Addr × Obj)} {p : Program} {loose : List Str} {mean : ExcName → Option Value}
variable {c1 c2 x1 d1 x2 d2 : Addr} {st : PS} {ks1 : List (Int × Addr)} {ks2 : List (Str × Addr)} {value slice : Expr}
theorem sub_run1 {k : Int} {key : Value} (B : Below A₀ base outer h₀) (F : Fr h₀ L s.heap m) (X : (hd.heap_39 w.params).In h₀) (N : News h₀ L s.heap n) (T : Top p loose mean mg mb h₀) (hk : cs.kind = .function)
    (hdp : dp + 2 ≤ 400) (hun : un + 21 ≤ 100) (R : RunK w news₀ c1 c2 x1 d1 x2 d2 st ks1 ks2 n) (hkey : (PySem.intKind Pr w).is k key = true) (hsm : ks1.length < 1000) (hold : ∀ q ∈ news₀, q.1 ≠ 100 → q.1 ≠ x1)
    (hq : ∀ l n' h' t', Fr h₀ L h' m → News h₀ L h' n' → Put1 w news₀ c1 c2 x1 d1 x2 d2 st ks1 ks2 k n' l → KeepBut x1 n n' → (∀ q ∈ news₀, q.1 ≠ 100 → q.1 ≠ l) → Q (.ref l) { s with heap := h', toks := t' })
    (hs : subscripted slice false (.ref x1) key = operate [.ref x1, key] (getItem (.ref x1) key) := by with_unfolding_all rfl) :
    wpAny (model Challenge.rw_in0191_01.row.prog w) (ktrTop dp un (some []) cn cs L a ccd cl outer) (subscriptTail value slice (.ref x1) key) Q E s := by
  have fresh : ∀ l : Addr, (∀ q ∈ n, l ≠ q.1) → ∀ z ∈ ks1.map (·.2) ++ ks2.map (·.2), z ≠ l := fun l hl z hz e => by
    rcases List.mem_append.mp hz with hz | hz
    · obtain ⟨xs, j, hm⟩ := rows_at R.r1 z hz
      exact hl _ hm e.symm
    · obtain ⟨xs, j, hm⟩ := rows_at R.r2 z hz
      exact hl _ hm e.symm
  obtain ⟨f1, f2⟩ := rows_find (k := k) R.r1
  refine sub_book (knd := PySem.intKind Pr w) (k := k) B F X N T hk hdp hun R.b1 hkey (fun l hl t' => ?_) (fun hn hf l n' h' t' F' N' b hm hfr hkb => ?_) (fun hn hf l h' t' F' N' hfr => ?_) hsm hs
  · obtain ⟨hz, vs, j, ds, _, _, hr⟩ := f2 l hl
    exact hq l n s.heap t' F N (.found R hl (fun d g => bput_some hr) rfl rfl rfl (Nat.le_succ _) (fun q h => .inl h)) (fun q h _ => h) (R.ap l (List.mem_append_left _ hz))
  · have hg : st.tg = true := by simpa using hf
    have hr := f1 hn
    refine hq l n' h' t' F' N' (.found (R.new1 N hg b hm hfr hkb hold) (bfind_snoc hn) (fun d g => by rw [bput_new hr, hg]) rfl rfl rfl (by simp) (fun q h => (List.mem_append.mp h).elim .inl fun h => .inr (by rw [List.mem_singleton.mp h]))) hkb fun q hq' h => (hfr q (R.old q hq' h)).symm
  · have hg : st.tg = false := by simpa using hf
    refine hq l _ h' t' F' N' (.lost (R.mono fun q hq => .tail _ hq) (f1 hn) hg (.head _) (fresh l hfr)) (fun q h _ => .tail _ h) fun q hq' h => (hfr q (R.old q hq' h)).symm
theorem sub_run2 {k : Str} {key : Value} (B : Below A₀ base outer h₀) (F : Fr h₀ L s.heap m) (X : (hd.heap_39 w.params).In h₀) (N : News h₀ L s.heap n) (T : Top p loose mean mg mb h₀) (hk : cs.kind = .function)
    (hdp : dp + 2 ≤ 400) (hun : un + 21 ≤ 100) (R : RunK w news₀ c1 c2 x1 d1 x2 d2 st ks1 ks2 n) (hkey : (PySem.strKind Pr w).is k key = true) (hsm : ks2.length < 1000) (hold : ∀ q ∈ news₀, q.1 ≠ 100 → q.1 ≠ x2)
    (hq : ∀ l n' h' t', Fr h₀ L h' m → News h₀ L h' n' → Put2 w news₀ c1 c2 x1 d1 x2 d2 st ks1 ks2 k n' l → KeepBut x2 n n' → (∀ q ∈ news₀, q.1 ≠ 100 → q.1 ≠ l) → Q (.ref l) { s with heap := h', toks := t' })
    (hs : subscripted slice false (.ref x2) key = operate [.ref x2, key] (getItem (.ref x2) key) := by with_unfolding_all rfl) :
    wpAny (model Challenge.rw_in0191_01.row.prog w) (ktrTop dp un (some []) cn cs L a ccd cl outer) (subscriptTail value slice (.ref x2) key) Q E s := by
  have fresh : ∀ l : Addr, (∀ q ∈ n, l ≠ q.1) → ∀ z ∈ ks1.map (·.2) ++ ks2.map (·.2), z ≠ l := fun l hl z hz e => by
    rcases List.mem_append.mp hz with hz | hz
    · obtain ⟨xs, j, hm⟩ := rows_at R.r1 z hz
      exact hl _ hm e.symm
    · obtain ⟨xs, j, hm⟩ := rows_at R.r2 z hz
      exact hl _ hm e.symm
  obtain ⟨f1, f2⟩ := rows_find (k := k) R.r2
  refine sub_book (knd := PySem.strKind Pr w) (k := k) B F X N T hk hdp hun R.b2 hkey (fun l hl t' => ?_) (fun hn hf l n' h' t' F' N' b hm hfr hkb => ?_) (fun hn hf l h' t' F' N' hfr => ?_) hsm hs
  · obtain ⟨hz, vs, j, ds, _, _, hr⟩ := f2 l hl
    exact hq l n s.heap t' F N (.found R hl (fun d g => bput_some hr) rfl rfl rfl (Nat.le_succ _) (fun q h => .inl h)) (fun q h _ => h) (R.ap l (List.mem_append_right _ hz))
  · have hg : st.fg = true := by simpa using hf
    have hr := f1 hn
    refine hq l n' h' t' F' N' (.found (R.new2 N hg b hm hfr hkb hold) (bfind_snoc hn) (fun d g => by rw [bput_new hr, hg]) rfl rfl rfl (by simp) (fun q h => (List.mem_append.mp h).elim .inl fun h => .inr (by rw [List.mem_singleton.mp h]))) hkb fun q hq' h => (hfr q (R.old q hq' h)).symm
  · have hg : st.fg = false := by simpa using hf
    refine hq l _ h' t' F' N' (.lost (R.mono fun q hq => .tail _ hq) (f1 hn) hg (.head _) (fresh l hfr)) (fun q h _ => .tail _ h) fun q hq' h => (hfr q (R.old q hq' h)).symm
end
end Mine
end

section -- M3
open PySem PySem.W PySem.W.X PyProof.Rows PySem.Calls
set_option Elab.async false
set_option maxRecDepth 100000
set_option maxHeartbeats 1000000
namespace Mine
/-- the outer loop's state: the first i signs are written -/
def FmJ (x : Int) (tx : Tok) (l1 : Addr) (news : List (Addr × Obj)) (i : Nat) (m₁ : Str → Option Value) (n₁ : List (Addr × Obj)) : Prop :=
  m₁ (Str.ofString "mode") = some (.int x tx) ∧ m₁ (Str.ofString "perm") = some (.ref l1) ∧ ∃ vs n, n₁ = (l1, listOf vs.toArray n) :: news ∧ Strs vs (picks x 0 (modeTable.take i))
/-- the inner loop's state: no row so far fits -/
def FmK (x : Int) (tx : Tok) (l1 : Addr) (i : Nat) (t : Tok) (rows : List (Int × Str)) (led : List (Addr × Obj)) (j : Nat) (m₂ : Str → Option Value) (n₂ : List (Addr × Obj)) : Prop :=
  m₂ (Str.ofString "mode") = some (.int x tx) ∧ m₂ (Str.ofString "perm") = some (.ref l1) ∧ m₂ (Str.ofString "index") = some (.int i t) ∧ n₂ = led ∧ ∀ k r, k < j → rows[k]? = some r → hit i x r.1 = false
theorem pick_hit {i : Nat} {x : Int} {rows : List (Int × Str)} {j : Nat} {r : Int × Str} (hj : rows[j]? = some r) (hno : ∀ (k : Nat) (r : Int × Str), k < j → rows[k]? = some r → hit i x r.1 = false) (h : hit i x r.1 = true) : pick i x rows = r.2 := by
  unfold pick
  have e : rows.find? (fun r => hit i x r.1) = some r := by
    rw [List.find?_eq_some_iff_getElem]
    obtain ⟨hlt, he⟩ := List.getElem?_eq_some_iff.mp hj
    refine ⟨h, j, hlt, he, fun k hk => ?_⟩
    have z := hno k rows[k] hk (List.getElem?_eq_getElem (Nat.lt_trans hk hlt))
    simp [z]
  rw [e]
theorem pick_none {i : Nat} {x : Int} {rows : List (Int × Str)} (hno : ∀ (k : Nat) (r : Int × Str), k < rows.length → rows[k]? = some r → hit i x r.1 = false) : pick i x rows = (if i = 0 then ("?" : Str) else ("-" : Str)) := by
  unfold pick
  have e : rows.find? (fun r => hit i x r.1) = none := by
    rw [List.find?_eq_none]
    intro r hr
    obtain ⟨k, hk, he⟩ := List.getElem_of_mem hr
    rw [hno k r hk (he ▸ List.getElem?_eq_getElem hk)]
    exact Bool.false_ne_true
  rw [e]
theorem fm_over {h₀ : Heap} {L e it : Addr} {oe oi : Obj} {s : Shared} {Q : Flow → Shared → Prop} {x : Int} {tx : Tok} {l1 : Addr} {news : List (Addr × Obj)} {i : Nat} {vs : List Value} {n : Nat} {rows : List (Int × Str)} {c : Str} {tc : Tok} {m' : Str → Option Value} {h' : Heap} {tk' : Nat} {own : List (Addr × Obj)} {f : Flow}
    (hr : modeTable[i]? = some rows) (hvs : Strs vs (picks x 0 (modeTable.take i))) (off : ∀ p ∈ (l1, listOf vs.toArray n) :: news, p.1 ≠ e ∧ p.1 ≠ it) (hlt : ∀ p ∈ news, p.1 < l1)
    (h1 : m' (Str.ofString "mode") = some (.int x tx)) (h2 : m' (Str.ofString "perm") = some (.ref l1)) (hp : pick i x rows = c)
    (F : Fr h₀ L h' m') (N : News h₀ L h' ((l1, listOf (vs.toArray.push (.str c tc)) (n + 1)) :: offL l1 (own ++ (e, oe) :: (it, oi) :: (l1, listOf vs.toArray n) :: news))) (hf : f = .next ∨ f = .cont) :
    TurnOver2 h₀ L e it oe oi (FmJ x tx l1 news (i + 1)) s Q f { s with heap := h', toks := tk' } := by
  have ne1 : e ≠ l1 := fun q => (off _ (.head _)).1 q.symm
  have ne2 : it ≠ l1 := fun q => (off _ (.head _)).2 q.symm
  have ne3 : ∀ p ∈ news, p.1 ≠ l1 := fun p hp => Nat.ne_of_lt (hlt p hp)
  have up : ∀ q ∈ (e, oe) :: (it, oi) :: news, q ∈ offL l1 (own ++ (e, oe) :: (it, oi) :: (l1, listOf vs.toArray n) :: news) := by
    intro q hq
    rcases List.mem_cons.mp hq with rfl | hq
    · exact List.mem_filter.mpr ⟨List.mem_append_right _ (.head _), decide_eq_true ne1⟩
    rcases List.mem_cons.mp hq with rfl | hq
    · exact List.mem_filter.mpr ⟨List.mem_append_right _ (.tail _ (.head _)), decide_eq_true ne2⟩
    · exact List.mem_filter.mpr ⟨List.mem_append_right _ (.tail _ (.tail _ (.tail _ hq))), decide_eq_true (ne3 q hq)⟩
  have J : FmJ x tx l1 news (i + 1) m' ((l1, listOf (vs ++ [Value.str c tc]).toArray (n + 1)) :: news) := by
    refine ⟨h1, h2, vs ++ [Value.str c tc], n + 1, rfl, ?_⟩
    have e1 : modeTable.take (i + 1) = modeTable.take i ++ [rows] := by rw [List.take_add_one, hr]; rfl
    have e2 : (modeTable.take i).length = i := by
      obtain ⟨h, _⟩ := List.getElem?_eq_some_iff.mp hr
      rw [List.length_take]; omega
    rw [e1, picks_snoc, e2, Nat.zero_add, hp]
    exact strs_snoc hvs
  have body : ∃ h'' tk'' m'' news', ({ s with heap := h', toks := tk' } : Shared) = { s with heap := h'', toks := tk'' } ∧ Fr h₀ L h'' m'' ∧ News h₀ L h'' ((e, oe) :: (it, oi) :: news') ∧ (∀ p ∈ news', p.1 ≠ e ∧ p.1 ≠ it) ∧ FmJ x tx l1 news (i + 1) m'' news' := by
    refine ⟨h', tk', m', _, rfl, F, fun q hq => ?_, fun q hq => ?_, J⟩
    · rcases List.mem_cons.mp hq with rfl | hq
      · exact N _ (.tail _ (up _ (.head _)))
      rcases List.mem_cons.mp hq with rfl | hq
      · exact N _ (.tail _ (up _ (.tail _ (.head _))))
      rcases List.mem_cons.mp hq with rfl | hq
      · rw [← List.push_toArray]; exact N _ (.head _)
      · exact N _ (.tail _ (up _ (.tail _ (.tail _ hq))))
    · rcases List.mem_cons.mp hq with rfl | hq
      · exact off (l1, listOf vs.toArray n) (.head _)
      · exact off q (.tail _ hq)
  rcases hf with rfl | rfl <;> exact body
section
local macro_rules | `(tactic| walk_at "eval Name") => `(tactic| (k_here; k_dflt (refine' nameX_L ?F ?v ?_ ?a ?b; (case F => k_asm); (case a => rfl); (case b => rfl); (case v => assumption); k_whole)))
theorem filemode_walk : ∀ {w : World} {dp un : Nat} {cn : Str} {cs : Scope} {a : Addr} {ccd : Value} {cl : List (Str × Addr)} {outer : List Env} {A₀ : Around} {base h₀ : Heap} {L : Addr} {m mg mb : Str → Option Value} {s : Shared} {Q E : Value → Shared → Prop} {news : List (Addr × Obj)} {p : Program} {loose : List Str} {mean : ExcName → Option Value} {x : Int} {tx : Tok},
    Below A₀ base outer h₀ → Fr h₀ L s.heap m → (Mine.hd.heap_39 w.params).In h₀ → News h₀ L s.heap news → Top p loose mean mg mb h₀ → cs.kind = .function →
    dp + 10 ≤ 400 → un + 50 ≤ 100 → 
    (∀ (h' : Heap) (tk' : Nat) (t : Tok), Fr h₀ L h' m → News h₀ L h' news → Q (.str (fmText x) t) { s with heap := h', toks := tk' }) →
    wpAny (model Challenge.rw_in0191_01.row.prog w) (ktrTop dp un (some []) cn cs L a ccd cl outer) (call (.ref 260) [.int x tx]) Q E s := by
  k_fill
  intro w dp un cn cs a ccd cl outer A₀ base h₀ L m mg mb s Q E news p loose mean x tx B F X N T hk hdp hun hq
  refine wpAny_call ?_
  k_dflt cell_enter
  rename_i g' L' h' FG' F₁ N₁ B' X' T'
  iterate 10 walk1
  rename_i l1 h2 hlt h3 F' N'
  refine wpAny_execs_cons ?_
  obtain ⟨xs, nx, hxo, hsz, hrows⟩ := table_is X'
  have hmode : (List.lookup (Str.ofString "mode") [((Str.ofString "mode"), Value.int x tx)]) = some (.int x tx) := rfl
  refine forEnum (l := 253) (items := xs) (St := fun it i h => h.IsTupleIter it 253 i ∧ h.IsTuple 253 xs)
    (FmJ x tx l1 news)
    (fun it hne => draws_tuple rfl it 253 hne xs) F' N' ⟨?h1, ?h2, [], 0, rfl, .nil⟩ ?keep ?hl ?step ?last ?he
  case h1 => rfl
  case h2 => rfl
  case keep =>
    intro i m₁ n₁ h o _ F₂ _ ho
    have z := Option.some.inj (ho.symm.trans (F'.keep _ _ hxo))
    rw [z]; exact F₂.keep _ _ hxo
  case hl => exact ⟨_, F'.keep _ _ hxo⟩
  case he =>
    intro R hR
    iterate 6 walk1
    refine am_up (dp := 400) (un := 100) (enum_tuple0 (F'.keep _ _ hxo) fun e it h₄ t₄ D => ?_) (by show dp + 1 ≤ 400; omega) (by show un + 3 ≤ 100; omega)
    have De := D.nw _ (.head _)
    have Di := D.nw _ (.tail _ (.head _))
    have hne : e ≠ it := fun q => by
      have z := De.1
      rw [q] at z
      have z2 := congrArg Obj.cls (Option.some.inj (Di.1.symm.trans z))
      have z3 : ("tuple_iterator" : String) = "enumerate" := by injection z2
      exact absurd z3 (by decide)
    refine hR e it h₄ t₄ De.1 ⟨⟨_, Di.1, rfl, rfl⟩, ⟨_, mem_keep D _ _ (F'.keep _ _ hxo), rfl, _, rfl⟩⟩ (fun q => ?_) hne De.2 Di.2 (mem_keep D)
    have z := Di.2
    rw [← q, F'.keep _ _ hxo] at z
    cases z
  case last =>
    rintro m₁ n₁ h tk ⟨hm1, hm2, vs, n, rfl, hvs⟩ F₂ N₂
    refine wpAny_execs_nil ?_
    dsimp only
    iterate 9 walk1
    refine KT.join_1 (l := picks x 0 modeTable) (g := fun a => a) (D := l1) (ys := vs) ⟨_, (N₂ _ (.head _)).1, rfl, n, rfl⟩ (by rw [show modeTable.take xs.size = modeTable by rw [hsz, List.take_length]] at hvs; exact hvs) (picks_one x 0 table_one) (by rw [picks_len]; decide) fun t' k hlen => ?_
    dsimp only
    refine leaveK_ F₂ N₂ fun F₃ N₃ => ?_
    have e : List.map (fun a => a) (picks x 0 modeTable) = picks x 0 modeTable := List.map_id' _
    dsimp only
    rw [e]
    exact hq _ _ _ F₃ (cb_drop N₃ fun p hp => .tail _ hp)
  case step =>
    rintro e it i Ta t v m₁ n₁ h tk oe oi hv ⟨hm1, hm2, vs, n, rfl, hvs⟩ hTa F₂ N₂ off hoe _ _
    obtain ⟨rows, hr, T₀, items, rfl, hT₀, hsz₀, hrow⟩ := hrows i v hv
    refine assign2 rfl F₂ N₂ hTa fun h₄ tk₄ F₄ N₄ => ?_
    refine wpAny_execs_cons ?_
    refine forElse (T := T₀) (items := items) (FmK x tx l1 i t rows ((e, oe) :: (it, oi) :: (l1, listOf vs.toArray n) :: news)) rfl F₄ N₄ hT₀ ⟨hm1, hm2, rfl, rfl, fun k r hk _ => absurd hk (Nat.not_lt_zero _)⟩ ?step2 ?last2 ?he2
    case he2 =>
      intro R hR
      refine nameX_L F₄ (v := .ref T₀) ?_ hR
      rfl
    case step2 =>
      rintro I j u m₂ n₂ h₅ tk₅ o hu ⟨hm1', hm2', hm3', rfl, hno⟩ F₅ N₅ off₅
      obtain ⟨r, hrj, a₁, t₁, t₂, rfl, ha₁⟩ := hrow j u hu
      refine assign2 rfl F₅ N₅ (show IsTup h₅ a₁ _ from ha₁.at fun o e => F₅.keep _ _ e) fun h₆ tk₆ F₆ N₆ => ?_
      have hz : vs.toArray.size ≤ sizeLine := by
        have q := hvs.length_eq
        rw [List.length_map, picks_len, List.length_take] at q
        have q2 : modeTable.length = 10 := rfl
        rw [List.size_toArray, sizeLine_eq]; omega
      have hmem : ∀ {h : Heap}, (l1, listOf vs.toArray n) ∈ (I, o) :: (e, oe) :: (it, oi) :: (l1, listOf vs.toArray n) :: news := fun {h} => .tail _ (.tail _ (.tail _ (.head _)))
      cases i with
      | zero =>
        k_steps
        refine s_ifmt B' (by assumption) X' (by assumption) T' rfl (by show dp + 1 + 1 ≤ 400; omega) (by show un + 3 + 8 ≤ 100; omega) fun t₇ h₇ tk₇ F₇ N₇ => ?_
        k_steps
        · rename_i hc
          refine append_any F₇ N₇ (.tail _ (.tail _ (.tail _ (.head _)))) hz fun h₈ F₈ N₈ => ?_
          k_steps
          refine (wpAny_execs_nil ?_ : wpAny _ _ (execs [] _) _ _ _)
          exact fm_over (own := [(I, o)]) hr hvs off hlt (by exact hm1') (by exact hm2') (pick_hit hrj hno (by unfold hit; rw [if_pos rfl]; exact decide_eq_true hc)) F₈ N₈ (.inl rfl)
        · rename_i hc
          refine ⟨_, _, _, _, rfl, F₇, N₇, off₅, hm1', hm2', hm3', rfl, fun k r' hk hr' => ?_⟩
          rcases Nat.lt_succ_iff_lt_or_eq.mp hk with hk | rfl
          · exact hno k r' hk hr'
          · cases hrj.symm.trans hr'
            unfold hit
            rw [if_pos rfl]
            exact decide_eq_false hc
      | succ i =>
        k_steps
        · exfalso; omega
        · rename_i hc
          refine append_any F₆ N₆ (.tail _ (.tail _ (.tail _ (.head _)))) hz fun h₈ F₈ N₈ => ?_
          k_steps
          refine (wpAny_execs_nil ?_ : wpAny _ _ (execs [] _) _ _ _)
          exact fm_over (own := [(I, o)]) hr hvs off hlt (by exact hm1') (by exact hm2') (pick_hit hrj hno (by unfold hit; rw [if_neg (Nat.succ_ne_zero i)]; exact decide_eq_true hc)) F₈ N₈ (.inl rfl)
        · rename_i hc
          refine ⟨_, _, _, _, rfl, F₆, N₆, off₅, hm1', hm2', hm3', rfl, fun k r' hk hr' => ?_⟩
          rcases Nat.lt_succ_iff_lt_or_eq.mp hk with hk | rfl
          · exact hno k r' hk hr'
          · cases hrj.symm.trans hr'
            unfold hit
            rw [if_neg (Nat.succ_ne_zero i)]
            exact decide_eq_false hc
    case last2 =>
      rintro m₂ n₂ h₅ tk₅ ⟨hm1', hm2', hm3', rfl, hno⟩ F₅ N₅
      have hz : vs.toArray.size ≤ sizeLine := by
        have q := hvs.length_eq
        rw [List.length_map, picks_len, List.length_take] at q
        have q2 : modeTable.length = 10 := rfl
        rw [List.size_toArray, sizeLine_eq]; omega
      have hp := pick_none (i := i) (x := x) (rows := rows) (fun k r hk hr => hno k r (by rw [hsz₀]; exact hk) hr)
      cases i with
      | zero =>
        k_steps
        refine append_any (by assumption) (by assumption) (.tail _ (.tail _ (.head _))) hz fun h₈ F₈ N₈ => ?_
        k_steps
        exact fm_over (own := []) hr hvs off hlt (by exact hm1') (by exact hm2') (by rw [hp]; rfl) F₈ N₈ (.inl rfl)
      | succ i =>
        k_steps
        · exfalso; omega
        · refine append_any (by assumption) (by assumption) (.tail _ (.tail _ (.head _))) hz fun h₈ F₈ N₈ => ?_
          k_steps
          exact fm_over (own := []) hr hvs off hlt (by exact hm1') (by exact hm2') (by rw [hp, if_neg (Nat.succ_ne_zero i)]) F₈ N₈ (.inl rfl)
end
end Mine
end

section -- M4
open PySem PySem.W PySem.W.X PyProof.Rows PySem.Calls
set_option Elab.async false
set_option maxRecDepth 100000
set_option maxHeartbeats 1000000
namespace Mine
theorem f_strip (P : Params) : findCls (hd.heap_39 P) (.type "str") (.type "type") "strip" = some (.val (.builtin "str.strip")) := by kernel_rfl
theorem getAttr_strip {w : World} {A : Around} {E : Value → Shared → Prop} {s : Shared} {expr : Bool} {Q : Value → Shared → Prop} (X : (hd.heap_39 w.params).In s.heap) (h : Q (.builtin "str.strip") { s with toks := s.toks + 1 }) :
    wpAny (model Pr w) A (getAttr (.type "str") "strip" expr) Q E s := by
  have ht : typeOf (.type "str") = pure (.type "type") := by rfl
  have hstub : opaqueClassAbove (.type "str") = pure none := by unfold opaqueClassAbove; dsimp only; rw [show Manifest.isStub "str" = false by decide +kernel]; rfl
  have L0 : Looks (model Pr w) s.heap (typeOf (.type "str")) (.type "type") := Looks.of_pure ht
  have hg : findIn (hd.heap_39 w.params) (.type "type") "__getattribute__" = some (some (.builtin "type.__getattribute__")) := type_tga
  have LO : Looks (model Pr w) s.heap (opaqueClassAbove (.type "str")) none := Looks.of_pure hstub
  exact cls_open X LO L0 hg (looks_hook X (r := none) (by rfl)) (by show subIn _ _ _ = _; rfl) (f_strip _)
    (wpAny_pure (by show wpAny _ _ (handedOut _) _ _ _; rw [handedOut_of (by rfl)]; exact wpAny_pure h))
section
local macro_rules | `(tactic| x_close) => `(tactic| (apply_assumption <;> first | assumption | rfl))
theorem map0 {w : World} {fr : List Env} {Q E : Value → Shared → Prop} {s : Shared} {l : Addr} {xs : Array Value} {n : Nat} (hl : s.heap.get? l = some ⟨.type "list", none, .seq xs n, #[]⟩)
    (hq : ∀ m t it h' t', Mem s.heap h' [] [(m, { cls := .type "map", data := .fields #[.ref t, .builtin "str.strip"] }), (t, { cls := .type "tuple", data := .seq #[.ref it] }), (it, { cls := .type "list_iterator", data := .fields #[.ref l, .int 0 0] })] → Q (.ref m) ⟨h', s.gens, s.drawn, t', s.os⟩) :
    wpAny (model Challenge.rw_in0191_01.row.prog w) (Am 400 100 fr) (call (.type "map") [.builtin "str.strip", .ref l]) Q E s := by
  x_run
end
end Mine
end

section -- M5
open PySem PySem.W PySem.W.X PyProof.Rows PySem.Calls
open Sem (wp)
set_option Elab.async false
set_option maxRecDepth 100000
set_option maxHeartbeats 1000000
namespace Mine
theorem slot_map_next : Slot "map" "__next__" "map.__next__" :=
  Slot.of (owner := "map") (n := "__next__") (by rw [typeLookup_type, builtinLookup_eq_fast]; kernel_rfl) (by decide +kernel) (by decide +kernel) (by decide +kernel) (.inl (by decide +kernel)) (by rw [isSubtype_type]; kernel_rfl)
theorem slot_map_iter : Slot "map" "__iter__" "map.__iter__" :=
  Slot.of (owner := "map") (n := "__iter__") (by rw [typeLookup_type, builtinLookup_eq_fast]; kernel_rfl) (by decide +kernel) (by decide +kernel) (by decide +kernel) (.inl (by decide +kernel)) (by rw [isSubtype_type]; kernel_rfl)
theorem entry_map_next : entryFor table "map.__next__" = some Builtin.«map.__next__» := entryFor_of_tree (by kernel_rfl)
theorem args_map_next (a : Value) : argsOk "map.__next__" ⟨[a], []⟩ := by unfold argsOk; kernel_rfl
theorem map_no_len : typeLookup (.type "map") "__len__" = pure none := by rw [typeLookup_type, builtinLookup_eq_fast]; kernel_rfl
theorem map_no_hint : typeLookup (.type "map") "__length_hint__" = pure none := by rw [typeLookup_type, builtinLookup_eq_fast]; kernel_rfl
theorem entry_map_iter : entryFor table "map.__iter__" = some Builtin.«dict_keyiterator.__iter__» :=
  entryFor_alias (id' := "dict_keyiterator.__iter__") (by kernel_rfl) (by first | rfl | decide +kernel | (unfold String.splitOn; simp +decide [String.splitOnAux])) (by decide +kernel) (by kernel_rfl)
theorem args_map_iter (a : Value) : argsOk "map.__iter__" ⟨[a], []⟩ := by unfold argsOk; kernel_rfl
/-- a map of str.strip over a list, i items on -/
structure MapAt (h : Heap) (m t it l : Addr) (i : Nat) (items : Array Value) : Prop where
  atM : h.get? m = some { cls := .type "map", data := .fields #[.ref t, .builtin "str.strip"] }
  atT : h.get? t = some { cls := .type "tuple", data := .seq #[.ref it] }
  atI : h.IsListIter it l i
  atL : h.IsList l items
  lit : l ≠ it
  mit : m ≠ it
  tit : t ≠ it
section
variable {prog : Program} {w : World} {A : Around} {E : Value → Shared → Prop} {s : Shared} {m t it l : Addr} {i : Nat} {items : Array Value}
theorem map_next_item {x : Str} {u : Tok} {Q : Option Value → Shared → Prop} (M : MapAt s.heap m t it l i items) (hx : items[i]? = some (.str x u)) (hz : x.length ≤ sizeLine)
    (hq : ∀ h' tk t', MapAt h' m t it l (i + 1) items → Heap.SameBut it s.heap h' → Q (some (.str (PySem.Txt.strip x) t')) { s with heap := h', toks := tk }) : wpAny (model prog w) A (pyNext (.ref m)) Q E s := by
  have hT : s.TypeIs (.ref m) "map" := ⟨_, M.atM, rfl⟩
  unfold pyNext
  refine wpAny_bind (wpAny_attempt (wpAny_callSpecial?_slot (name := Str.ofString "__next__") hT slot_map_next (wpAny_call_entry slot_map_next hT entry_map_next ?_ (args_map_next _))))
  show wpAny _ _ (field (.ref m) 0 >>= _) _ _ s
  refine wpAny_bind (wpAny_field M.atM rfl (x := .ref t) rfl ?_)
  show wpAny _ _ (seqItems? (.ref t) >>= _) _ _ s
  refine wpAny_bind (wpAny_seqItems M.atT rfl ?_)
  dsimp only
  rw [List.forIn_toArray, List.forIn_cons]
  refine wpAny_bind (wpAny_bind (wpAny_bind (wpAny_holding (wpAny_nextOf_list_item M.atI M.atL hx fun h₁ hit₁ hs₁ => ?_))))
  refine wpAny_pure ?_
  dsimp only
  rw [List.forIn_nil]
  refine wpAny_pure ?_
  have hm₁ : h₁.get? m = some { cls := .type "map", data := .fields #[.ref t, .builtin "str.strip"] } := (hs₁.2 m M.mit).trans M.atM
  refine wpAny_bind (wpAny_field hm₁ rfl (x := .builtin "str.strip") rfl ?_)
  refine wpAny_bind (wpAny_holding ?_)
  refine SC.strip (fun t' k => ?_) hz
  refine wpAny_bind (wpAny_letGo ?_)
  refine wpAny_pure ⟨_, rfl, wpAny_pure ?_⟩
  refine hq h₁ k t' ⟨hm₁, (hs₁.2 t M.tit).trans M.atT, hit₁, M.atL.extBut hs₁.extBut M.lit, M.lit, M.mit, M.tit⟩ hs₁
theorem map_next_end {Q : Option Value → Shared → Prop} (hh : A.handled = none) (M : MapAt s.heap m t it l i items) (hx : items[i]? = none)
    (hq : ∀ h', Heap.ExtBut it s.heap h' → Q none { s with heap := h' }) : wpAny (model prog w) A (pyNext (.ref m)) Q E s := by
  have hT : s.TypeIs (.ref m) "map" := ⟨_, M.atM, rfl⟩
  unfold pyNext
  refine wpAny_bind (wpAny_attempt (wpAny_callSpecial?_slot (name := Str.ofString "__next__") hT slot_map_next (wpAny_call_entry slot_map_next hT entry_map_next ?_ (args_map_next _))))
  show wpAny _ _ (field (.ref m) 0 >>= _) _ _ s
  refine wpAny_bind (wpAny_field M.atM rfl (x := .ref t) rfl ?_)
  show wpAny _ _ (seqItems? (.ref t) >>= _) _ _ s
  refine wpAny_bind (wpAny_seqItems M.atT rfl ?_)
  dsimp only
  rw [List.forIn_toArray, List.forIn_cons]
  refine wpAny_bind (wpAny_bind (wpAny_bind (wpAny_holding (wpAny_nextOf_list_end hh M.atI M.atL hx fun h₁ e he ho => ?_))))
  obtain ⟨o, ho, hc⟩ := ho
  refine wpAny_bind (wpAny_isInstance (T := "StopIteration") (b := true) ⟨o, ho, hc⟩ isSubtype_stop ?_)
  rw [if_pos rfl]
  exact wpAny_pure (hq h₁ he)
end
end Mine
end

section -- M6
open PySem PySem.W PySem.W.X PyProof.Rows PySem.Calls
open Sem (wp)
set_option Elab.async false
set_option maxRecDepth 100000
set_option maxHeartbeats 1000000
namespace Mine
theorem MapAt.mono {h h' : Heap} {m t it l : Addr} {i : Nat} {items : Array Value} (M : MapAt h m t it l i items) (hk : ∀ b o, b = m ∨ b = t ∨ b = it ∨ b = l → h.get? b = some o → h'.get? b = some o) : MapAt h' m t it l i items where
  atM := hk _ _ (.inl rfl) M.atM
  atT := hk _ _ (.inr (.inl rfl)) M.atT
  atI := M.atI.at fun o e => hk _ _ (.inr (.inr (.inl rfl))) e
  atL := M.atL.at fun o e => hk _ _ (.inr (.inr (.inr rfl))) e
  lit := M.lit
  mit := M.mit
  tit := M.tit
section
variable {prog : Program} {w : World} {A : Around} {E : Value → Shared → Prop} {s : Shared} {m t it l : Addr} {i : Nat} {items : Array Value}
theorem ext_item {R : Result → Shared → Prop} {S : Addr} {acc : Array Value} {c : Nat} {x : Str} {u : Tok} {res : Value} (M : MapAt s.heap m t it l i items) (hx : items[i]? = some (.str x u)) (hz : x.length ≤ sizeLine)
    (hS : s.heap.get? S = some { cls := .type "list", dict := none, data := .seq acc c, slots := #[] }) (hSn : S ≠ m ∧ S ≠ t ∧ S ≠ it ∧ S ≠ l) (ha : acc.size ≤ 10)
    (h : ∀ h' tk t' c', MapAt h' m t it l (i + 1) items → h'.get? S = some { cls := .type "list", dict := none, data := .seq (acc.push (.str (PySem.Txt.strip x) t')) c', slots := #[] } → (∀ b o, b ≠ S → b ≠ it → s.heap.get? b = some o → h'.get? b = some o) →
      codeAny (model prog w) A (.builtin "list.extend.loop" ⟨[.ref S, .ref m, res], []⟩) R { s with heap := h', toks := tk }) :
    codeAny (model prog w) A (.builtin "list.extend.loop" ⟨[.ref S, .ref m, res], []⟩) R s := by
  refine codeAny_builtin F.entry_extend_loop ?_
  rw [Around.under_plainId F.plain_extend_loop _]
  show wpAny _ A.in1 (pyNext (.ref m) >>= _) _ _ s
  refine wpAny_bind (map_next_item M hx hz fun h₁ tk₁ t₁ M₁ hs₁ => ?_)
  have hS₁ : h₁.get? S = _ := (hs₁.2 S hSn.2.2.1).trans hS
  show wpAny _ A.in1 (updateSeq S (·.push (.str (PySem.Txt.strip x) t₁)) >>= _) _ _ _
  refine wpAny_bind ?_
  refine wpAny_updateSeq hS₁ rfl (wpAny_pure ⟨plainId_quiet F.plain_extend_loop _, h _ tk₁ t₁ _ (M₁.mono fun b o hb e => (Heap.get?_update_other _ _ (fun q : S = b => ?_)).trans e) (Heap.get?_update_self _ hS₁ rfl) fun b o hb hbi e => (Heap.get?_update_other _ _ (Ne.symm hb)).trans ((hs₁.2 b hbi).trans e)⟩)
    (by rw [sizeLine_eq]; omega) (by show (acc.push _).size ≤ sizeLine + 1; rw [Array.size_push, sizeLine_eq]; omega)
  rcases hb with rfl | rfl | rfl | rfl
  · exact hSn.1 q
  · exact hSn.2.1 q
  · exact hSn.2.2.1 q
  · exact hSn.2.2.2 q
theorem ext_end {R : Result → Shared → Prop} {S : Addr} {res : Value} (hh : A.handled = none) (M : MapAt s.heap m t it l i items) (hx : items[i]? = none)
    (h : ∀ h', Heap.ExtBut it s.heap h' → R (.ok (.ret res)) { s with heap := h' }) :
    codeAny (model prog w) A (.builtin "list.extend.loop" ⟨[.ref S, .ref m, res], []⟩) R s := by
  refine codeAny_builtin F.entry_extend_loop ?_
  rw [Around.under_plainId F.plain_extend_loop _]
  show wpAny _ A.in1 (pyNext (.ref m) >>= _) _ _ s
  refine wpAny_bind (map_next_end hh M hx fun h₁ he => ?_)
  exact wpAny_pure (h h₁ he)
theorem collect_map2 {Q : List Value → Shared → Prop} {x y : Str} {u v : Tok} (hh : A.handled = none) (M : MapAt s.heap m t it l 0 #[.str x u, .str y v]) (hx : x.length ≤ sizeLine) (hy : y.length ≤ sizeLine)
    (hq : ∀ h' tk t₁ t₂, (∀ b o, b ≠ it → s.heap.get? b = some o → h'.get? b = some o) → Q [.str (PySem.Txt.strip x) t₁, .str (PySem.Txt.strip y) t₂] { s with heap := h', toks := tk }) :
    wpAny (model prog w) A (collect (.ref m)) Q E s := by
  have lt : ∀ {b o}, s.heap.get? b = some o → b < s.heap.objs.size := fun e => Heap.lt_size e
  have ne : ∀ {b o}, s.heap.get? b = some o → s.heap.objs.size ≠ b := fun e => Nat.ne_of_gt (lt e)
  have nm := ne M.atM
  have hTm : ∀ {h : Heap} {g d tk os}, h.get? m = some { cls := .type "map", data := .fields #[.ref t, .builtin "str.strip"] } → (⟨h, g, d, tk, os⟩ : Shared).TypeIs (.ref m) "map" := fun e => ⟨_, e, rfl⟩
  unfold collect
  refine wpAny_bind (wpAny_runValue (codeAny_builtin F.entry_proto_collect ?_))
  rw [Around.under_plainId F.plain_proto_collect _]
  show wpAny _ A.in1 (newList [] >>= fun l => again (.builtin "list.__iadd__" ⟨[l, .ref m], []⟩)) _ _ s
  refine wpAny_bind (wpAny_newObj_type ?_)
  refine wpAny_pure ⟨plainId_quiet F.plain_list_iadd _, codeAny_builtin F.entry_list_iadd ?_⟩
  rw [Around.under_plainId F.plain_list_iadd _]
  have M₁ : MapAt (s.heap.push { cls := .type "list", data := .seq ([] : List Value).toArray }) m t it l 0 #[.str x u, .str y v] := M.mono fun b o _ e => Heap.get?_push_of_some _ e
  show wpAny _ A.in1 (Builtin.List.listExtendWith (.ref s.heap.objs.size) (.ref m) (.ref s.heap.objs.size)) _ _ _
  unfold Builtin.List.listExtendWith
  refine wpAny_bind (wpAny_typeOf (hTm M₁.atM) ?_)
  have h1 : Builtin.List.listSameRef (.ref s.heap.objs.size) (.ref m) = false := by simp [Builtin.List.listSameRef, nm]
  have h2 : (Value.type "map" == Value.type "list") = false := by decide
  have h3 : (Value.type "map" == Value.type "tuple") = false := by decide
  simp only [h1, h2, h3, Bool.or_false, Bool.false_eq_true, if_false]
  refine wpAny_bind (wpAny_pyIter_slot (hTm M₁.atM) slot_map_iter (wpAny_call_entry slot_map_iter (hTm M₁.atM) entry_map_iter ?_ (args_map_iter _)))
  refine wpAny_pure ⟨_, rfl, "map", _, hTm M₁.atM, slot_map_next.lookup, ?_⟩
  refine wpAny_bind (wpAny_holding ?_)
  unfold Builtin.List.listLengthHint
  refine wpAny_bind (wpAny_specialOf (hTm M₁.atM) map_no_len ?_)
  show wpAny _ A.in1 (specialOf (Value.ref m) (Str.ofString "__length_hint__") >>= _) _ _ _
  refine wpAny_bind (wpAny_specialOf (hTm M₁.atM) map_no_hint ?_)
  refine wpAny_pure ?_
  show wpAny _ A.in1 (rule "list.extend.makes-room" >>= fun _ => Builtin.List.listTouch (.ref s.heap.objs.size) >>= fun _ =>
    again (.builtin "list.extend.loop" ⟨[.ref s.heap.objs.size, .ref m, .ref s.heap.objs.size], []⟩)) _ _ _
  refine wpAny_bind (wpAny_rule ?_)
  have hS₁ : (s.heap.push { cls := .type "list", data := .seq ([] : List Value).toArray }).get? s.heap.objs.size = some { cls := .type "list", data := .seq ([] : List Value).toArray } := Heap.get?_push_size _ rfl
  refine wpAny_bind ?_
  show wpAny _ A.in1 (updateSeq s.heap.objs.size (·.push .none) >>= fun _ => updateSeq s.heap.objs.size (·.pop)) _ _ _
  refine wpAny_bind (wpAny_updateSeq hS₁ rfl ?_)
  have hS₂ := Heap.get?_update_self (Obj.mapSeq (·.push Value.none)) hS₁ rfl
  refine wpAny_updateSeq hS₂ rfl ?_
  have hS₃ := Heap.get?_update_self (Obj.mapSeq (·.pop)) hS₂ rfl
  have oth : ∀ b o, b ≠ s.heap.objs.size → (s.heap.push { cls := .type "list", data := .seq ([] : List Value).toArray }).get? b = some o →
      (((s.heap.push { cls := .type "list", data := .seq ([] : List Value).toArray }).update s.heap.objs.size (Obj.mapSeq (·.push Value.none))).update s.heap.objs.size (Obj.mapSeq (·.pop))).get? b = some o :=
    fun b o hb e => (Heap.get?_update_other _ _ (Ne.symm hb)).trans ((Heap.get?_update_other _ _ (Ne.symm hb)).trans e)
  obtain ⟨oi, hoi, _⟩ := id M.atI
  obtain ⟨ol, hol, _⟩ := id M.atL
  have nS : s.heap.objs.size ≠ m ∧ s.heap.objs.size ≠ t ∧ s.heap.objs.size ≠ it ∧ s.heap.objs.size ≠ l := ⟨nm, ne M.atT, ne hoi, ne hol⟩
  have M₃ := M₁.mono (h' := (((s.heap.push { cls := .type "list", data := .seq ([] : List Value).toArray }).update s.heap.objs.size (Obj.mapSeq (·.push Value.none))).update s.heap.objs.size (Obj.mapSeq (·.pop)))) fun b o hb e => oth b o (by
    rcases hb with rfl | rfl | rfl | rfl
    · exact nS.1.symm
    · exact nS.2.1.symm
    · exact nS.2.2.1.symm
    · exact nS.2.2.2.symm) e
  refine wpAny_pure ⟨plainId_quiet F.plain_extend_loop _, ?_⟩
  refine ext_item M₃ rfl hx hS₃ nS (Nat.zero_le _) fun h₄ tk₄ t₄ c₄ M₄ hS₄ k₄ => ?_
  refine ext_item M₄ rfl hy hS₄ nS (by simp) fun h₅ tk₅ t₅ c₅ M₅ hS₅ k₅ => ?_
  refine ext_end hh M₅ rfl fun h₆ k₆ => ?_
  have hS₆ := k₆ _ _ nS.2.2.1 hS₅
  show wpAny _ A (load s.heap.objs.size >>= _) _ _ _
  refine wpAny_bind (wpAny_load hS₆ ?_)
  exact wpAny_pure (hq h₆ tk₅ t₄ t₅ fun b o hb e => by
    have hbS := Ne.symm (ne e)
    exact k₆ b o hb (k₅ b o hbS hb (k₄ b o hbS hb (oth b o hbS (Heap.get?_push_of_some _ e)))))
end
end Mine
end

section -- M8
open PySem PySem.W PySem.W.X PyProof.Rows PySem.Calls
set_option Elab.async false
set_option maxRecDepth 100000
set_option maxHeartbeats 1000000
namespace Mine
theorem tc_weight (C : Addr) (rest : List Value) : (Code.builtin "type.__call__" ⟨.ref C :: rest, []⟩).weight = 1 := by kernel_rfl
theorem tc_units (C : Addr) (rest : List Value) : (Code.builtin "type.__call__" ⟨.ref C :: rest, []⟩).cUnits = 1 := by kernel_rfl
theorem tc_envs (C : Addr) (rest : List Value) : (Code.builtin "type.__call__" ⟨.ref C :: rest, []⟩).envs = [] := by kernel_rfl
theorem tc_guards (C : Addr) (rest : List Value) : (Code.builtin "type.__call__" ⟨.ref C :: rest, []⟩).guards = [] := by kernel_rfl
theorem under_tc {dp un : Nat} {fr : List Env} {C : Addr} {rest : List Value} : (Am dp un fr).under (.builtin "type.__call__" ⟨.ref C :: rest, []⟩) = Am (dp + 1) (un + 1) fr := by
  unfold Around.under
  rw [tc_weight, tc_units, tc_envs, tc_guards]
  rfl
theorem p_slot (P : Params) : (match (hd.heap_39 P).lookup 203 with | some o => (o.slots.toList[4]?) | none => none) = some (some .none) := by kernel_rfl
theorem p_new (P : Params) : findCls (hd.heap_39 P) (.ref 203) (.type "type") "__new__" = some (.get (.builtin "staticmethod.__get__") (.ref 181) .none (.ref 203)) := by kernel_rfl
theorem p_mro (P : Params) : (clsIn (hd.heap_39 P) 203).map (·.mro) = some [.ref 203, .ref 180, .type "tuple", .type "object"] := by kernel_rfl
theorem p_call (P : Params) : specialIn (hd.heap_39 P) (.ref 203) "__call__" = some (some (.builtin "type.__call__")) := by kernel_rfl
theorem p_init (P : Params) : findIn (hd.heap_39 P) (.ref 203) "__init__" = some (some (.builtin "object.__init__")) := by kernel_rfl
theorem p_tnew (P : Params) : findCls (hd.heap_39 P) (.type "tuple") (.type "type") "__new__" = some (.val (.builtin "tuple.__new__")) := by kernel_rfl
theorem p_inst (P : Params) : instIn (hd.heap_39 P) (.ref 203) (.type "type") = some true := by kernel_rfl
theorem p_self (P : Params) : mroIn (hd.heap_39 P) 203 (.ref 203) = some true := by kernel_rfl
theorem p_typ (P : Params) : typeIn (hd.heap_39 P) (.ref 203) = some (.type "type") := by kernel_rfl
/-- a Pair: an object with an own dict -/
abbrev pairObj (dx : Addr) (a b : Value) : Obj := { cls := .ref 203, dict := some dx, data := .seq #[a, b] }
section
local macro_rules | `(tactic| x_close) => `(tactic| (apply_assumption <;> first | assumption | rfl))
theorem oinit0 {w : World} {fr : List Env} {Q E : Value → Shared → Prop} {s : Shared} {T d : Addr} {xs : Array Value} {x y : Str} {t u : Tok} (X : (hd.heap_39 w.params).In s.heap)  (hl : s.heap.get? T = some ⟨.ref 203, some d, .seq xs 0, #[]⟩)
    (hq : ∀ t', Q .none ⟨s.heap, s.gens, s.drawn, t', s.os⟩) :
    wpAny (model Challenge.rw_in0191_01.row.prog w) (Am 400 100 fr) (call (.builtin "object.__init__") [.ref T, .str x t, .str y u]) Q E s := by
  x_run
theorem sget0 {w : World} {fr : List Env} {Q E : Value → Shared → Prop} {s : Shared} (X : (hd.heap_39 w.params).In s.heap)
    (hq : ∀ t', Q (.ref 130) ⟨s.heap, s.gens, s.drawn, t', s.os⟩) :
    wpAny (model Challenge.rw_in0191_01.row.prog w) (Am 400 100 fr) (call (.builtin "staticmethod.__get__") [.ref 181, .none, .ref 203]) Q E s := by
  x_run
theorem tnew0 {w : World} {fr : List Env} {Q E : Value → Shared → Prop} {s : Shared} {T : Addr} {a b : Value} (X : (hd.heap_39 w.params).In s.heap) (hl : s.heap.get? T = some ⟨.type "tuple", none, .seq #[a, b] 0, #[]⟩)
    (hq : ∀ x dx l ol h' t', Mem s.heap h' [] [(x, pairObj dx a b), (dx, { cls := .type "dict", data := .dict #[] }), (l, ol)] → Q (.ref x) ⟨h', s.gens, s.drawn, t', s.os⟩) :
    wpAny (model Challenge.rw_in0191_01.row.prog w) (Am 400 100 fr) (call (.builtin "tuple.__new__") [.ref 203, .ref T]) Q E s := by
  x_run
end
theorem getMethod_tnew {w : World} {A : Around} {E : Value → Shared → Prop} {s : Shared} {h₀ : Heap} {L : Addr} {m : Str → Option Value} {pl : Sem Bool} {Q : Value × List Value → Shared → Prop} (F : Fr h₀ L s.heap m) (X : (hd.heap_39 w.params).In h₀) (h : Q (.builtin "tuple.__new__", []) { s with toks := s.toks + 1 }) :
    wpAny (model Pr w) A (getMethod (.type "tuple") "__new__" pl) Q E s := by
  have ht : typeOf (.type "tuple") = pure (.type "type") := by rfl
  have hh : handedIn (.builtin "tuple.__new__") = true := by kernel_rfl
  have hs : Manifest.isStub "tuple" = false := by decide +kernel
  exact method_type (K := hd.heap_39 w.params) (T := "tuple") (v := .builtin "tuple.__new__") F X ht hs (p_tnew w.params) hh h
theorem pnew_walk : ∀ {w : World} {dp un : Nat} {cn : Str} {cs : Scope} {a : Addr} {ccd : Value} {cl : List (Str × Addr)} {outer : List Env} {A₀ : Around} {base h₀ : Heap} {L : Addr} {m mg mb : Str → Option Value} {s : Shared} {Q E : Value → Shared → Prop} {news : List (Addr × Obj)} {p : Program} {loose : List Str} {mean : ExcName → Option Value} {x y : Str} {tx ty : Tok},
    Below A₀ base outer h₀ → Fr h₀ L s.heap m → (Mine.hd.heap_39 w.params).In h₀ → News h₀ L s.heap news → Top p loose mean mg mb h₀ → cs.kind = .function →
    dp + 10 ≤ 400 → un + 50 ≤ 100 →
    (∀ (x' dx : Addr) (h' : Heap) (tk' : Nat), Fr h₀ L h' m → News h₀ L h' ((x', pairObj dx (.str x tx) (.str y ty)) :: (dx, { cls := .type "dict", data := .dict #[] }) :: news) → Q (.ref x') { s with heap := h', toks := tk' }) →
    wpAny (model Challenge.rw_in0191_01.row.prog w) (ktrTop dp un (some []) cn cs L a ccd cl outer) (call (.ref 130) [.ref 203, .str x tx, .str y ty]) Q E s := by
  k_fill
  intro w dp un cn cs a ccd cl outer A₀ base h₀ L m mg mb s Q E news p loose mean x y tx ty B F X N T hk hdp hun hq
  refine wpAny_call ?_
  k_dflt cell_enter
  rename_i g' L' h' FG' F₁ N₁ B' X' T'
  iterate 8 walk1
  refine getMethod_tnew F₁ X' ?_
  iterate 12 walk1
  rename_i T₀ h₂ F₂ N₂ l₂
  refine am_up (dp := 400) (un := 100) (tnew0 (X'.keeps F₂.keep) (N₂ _ (.head _)).1 fun x' dx l ol h₃ t₃ D₃ => ?_) (by show dp + 1 ≤ 400; omega) (by show un + 3 ≤ 100; omega)
  have F₃ := mem_fr D₃ F₂
  have N₃ := mem_news D₃ F₂ N₂
  refine leaveK_ F₃ N₃ fun F₄ N₄ => ?_
  exact hq x' dx h₃ _ F₄ (cb_drop N₄ fun p hp => by
    rcases List.mem_cons.mp hp with rfl | hp
    · exact .head _
    rcases List.mem_cons.mp hp with rfl | hp
    · exact .tail _ (.head _)
    · exact List.mem_append_right _ (.tail _ hp))
theorem p_made {w : World} {h : Heap} (X : (hd.heap_39 w.params).In h) : Looks (model Pr w) h (Bind.madeBy (.ref 203)) none := by
  obtain ⟨cd, hc, hm⟩ : ∃ cd, clsIn (hd.heap_39 w.params) 203 = some cd ∧ cd.mro = [.ref 203, .ref 180, .type "tuple", .type "object"] := by
    have q := p_mro w.params
    cases hc : clsIn (hd.heap_39 w.params) 203 with
    | none => rw [hc] at q; cases q
    | some cd => rw [hc] at q; exact ⟨cd, rfl, Option.some.inj q⟩
  have hmro : Looks (model Pr w) h (mroOf (.ref 203)) cd.mro := (looks_clsIn X hc).andThen .now
  obtain ⟨o, ho, hs⟩ : ∃ o, (hd.heap_39 w.params).lookup 203 = some o ∧ o.slots.toList[4]? = some (some .none) := by
    have q := p_slot w.params
    cases ho : (hd.heap_39 w.params).lookup 203 with
    | none => rw [ho] at q; cases q
    | some o => rw [ho] at q; exact ⟨o, rfl, q⟩
  intro A Q E s k q
  unfold Bind.madeBy
  refine wpAny_bind (hmro A _ E s k ?_)
  rw [hm, List.forIn_cons]
  refine wpAny_bind (wpAny_bind (wpAny_bind (wpAny_bind (wpAny_loadPart (k _ _ (X _ _ ho)) (wpAny_pure ?_)))))
  dsimp only
  rw [← Array.getElem?_toList, hs]
  exact wpAny_pure (wpAny_pure (wpAny_pure q))
theorem p_getnew {w : World} {dp un : Nat} {fr : List Env} {Q E : Value → Shared → Prop} {s : Shared} {expr : Bool} (X : (hd.heap_39 w.params).In s.heap) (hdp : dp ≤ 400) (hun : un + 2 ≤ 100)
    (h : ∀ t', Q (.ref 130) ⟨s.heap, s.gens, s.drawn, t', s.os⟩) : wpAny (model Pr w) (Am dp un fr) (getAttr (.ref 203) "__new__" expr) Q E s := by
  have hC := p_typ w.params
  have LO : Looks (model Pr w) s.heap (opaqueClassAbove (.ref 203)) none := looks_opaque X (f_stat _)
  have hg : findIn (hd.heap_39 w.params) (.type "type") "__getattribute__" = some (some (.builtin "type.__getattribute__")) := type_tga
  refine cls_open X LO (looks_typeIn X hC) hg (looks_hook X (r := none) (by rfl)) (by show subIn _ _ _ = _; rfl) (p_new _) ?_
  show wpAny _ _ (holding [.ref 181] (call (.builtin "staticmethod.__get__") [.ref 181, .none, .ref 203]) >>= ret) _ _ _
  refine wpAny_bind (wpAny_holding ?_)
  refine am_up (dp := 400) (un := 100) (sget0 (s := { s with toks := s.toks + 1 }) X fun t' => ?_) hdp (by show un + 1 ≤ 100; omega)
  refine wpAny_pure ?_
  show wpAny _ _ (handedOut _) _ _ _
  rw [handedOut_of (by rfl)]
  exact wpAny_pure (h t')
end Mine
end

section -- M9
open PySem PySem.W PySem.W.X PyProof.Rows PySem.Calls
set_option Elab.async false
set_option maxRecDepth 100000
set_option maxHeartbeats 1000000
namespace Mine
theorem pair_make {w : World} {dp un : Nat} {cn : Str} {cs : Scope} {a : Addr} {ccd : Value} {cl : List (Str × Addr)} {outer : List Env} {A₀ : Around} {base h₀ : Heap} {L : Addr} {m mg mb : Str → Option Value} {s : Shared} {Q E : Value → Shared → Prop} {news : List (Addr × Obj)} {p : Program} {loose : List Str} {mean : ExcName → Option Value} {x y : Str} {tx ty : Tok}
    (B : Below A₀ base outer h₀) (F : Fr h₀ L s.heap m) (X : (Mine.hd.heap_39 w.params).In h₀) (N : News h₀ L s.heap news) (T : Top p loose mean mg mb h₀) (hk : cs.kind = .function)
    (hdp : dp + 12 ≤ 400) (hun : un + 60 ≤ 100)
    (hq : ∀ (x' dx : Addr) (h' : Heap) (tk' : Nat), Fr h₀ L h' m → News h₀ L h' ((x', pairObj dx (.str x tx) (.str y ty)) :: (dx, { cls := .type "dict", data := .dict #[] }) :: news) → Q (.ref x') { s with heap := h', toks := tk' }) :
    wpAny (model Challenge.rw_in0191_01.row.prog w) (ktrTop dp un (some []) cn cs L a ccd cl outer) (call (.ref 203) [.str x tx, .str y ty]) Q E s := by
  obtain ⟨hh, g, d, t, os⟩ := s
  have Xh := X.keeps F.keep
  obtain ⟨cd, hc, hm⟩ : ∃ cd, clsIn (hd.heap_39 w.params) 203 = some cd ∧ cd.mro = [.ref 203, .ref 180, .type "tuple", .type "object"] := by
    have q := p_mro w.params
    cases hc : clsIn (hd.heap_39 w.params) 203 with
    | none => rw [hc] at q; cases q
    | some cd => rw [hc] at q; exact ⟨cd, rfl, Option.some.inj q⟩
  have hmro : Looks (model Pr w) hh (mroOf (.ref 203)) cd.mro := (looks_clsIn Xh hc).andThen .now
  obtain ⟨oc, od, sl, ho⟩ : ∃ oc od sl, hh.get? 203 = some ⟨oc, od, .cls cd, sl⟩ := by
    unfold clsIn at hc
    cases q : (hd.heap_39 w.params).lookup 203 with
    | none => rw [q] at hc; cases hc
    | some o =>
      rw [q] at hc
      have z := Xh _ _ q
      obtain ⟨c, dd, dt, sl⟩ := o
      cases dt <;> first | (cases hc; exact ⟨_, _, _, z⟩) | cases hc
  have call : Looks (model Pr w) hh (specialOf (.ref 203) "__call__") (some (.builtin "type.__call__")) := looks_specialIn Xh (p_call _)
  have typ : Looks (model Pr w) hh (isInstance (.ref 203) (.type "type")) true := looks_instIn Xh (p_inst _)
  refine wpAny_call (codeAny_of_tree ?_)
  show wpAny _ _ (callAny (.ref 203) _) _ _ _
  refine nd_load ho ?_
  show wpAny _ _ (callAny.viaDunder (.ref 203) _) _ _ _
  unfold callAny.viaDunder
  refine wpAny_bind (call.at ?_)
  dsimp only
  rw [tc_bind]
  refine wpAny_bind (wpAny_pure (wpAny_bind (wpAny_pure ?_)))
  refine wpAny_pure (a := Fin.again (.call (.builtin "type.__call__") ⟨.ref 203 :: [.str x tx, .str y ty], []⟩)) (And.intro rfl ?_)
  refine codeAny_call_builtin_at (Code.quiet_builtin _ (by decide +kernel)) entry_typeCall (@check_slot (model Pr w) _ _ _ "type.__call__" "type" "__call__" (.ref 203) [.str x tx, .str y ty] [] _ tc_kind tc_split typ (tc_args _ _ _) ?_)
  have eA : (ktrTop dp un (some []) cn cs L a ccd cl outer).under (.builtin "type.__call__" ⟨.ref 203 :: [.str x tx, .str y ty], []⟩) = ktrTop (dp + 1) (un + 1) (some []) cn cs L a ccd cl outer := under_tc
  rw [eA]
  unfold Builtin.«type.__call__»
  dsimp only
  rw [if_neg (show ¬ ((Value.ref 203 == Value.type "type") = true) from Bool.false_ne_true)]
  refine wpAny_bind (hmro.at ?_)
  rw [hm, if_neg (show ¬ (([Value.ref 203, Value.ref 180, Value.type "tuple", Value.type "object"].isEmpty) = true) from Bool.false_ne_true)]
  refine wpAny_bind ((p_made Xh).at ?_)
  dsimp only
  refine wpAny_bind (p_getnew (s := ⟨hh, g, d, t, os⟩) Xh (by omega) (by omega) fun t₁ => ?_)
  refine wpAny_bind (wpAny_holding (pnew_walk (s := ⟨hh, g, d, t₁, os⟩) B F X N T hk (by omega) (by omega) fun x' dx h₂ t₂ F₂ N₂ => ?_))
  have X₂ := X.keeps F₂.keep
  have hx₂ := (N₂ _ (.head _)).1
  have t1 : Looks (model Pr w) h₂ (typeOf (.ref x')) (.ref 203) := (Looks.ld hx₂).andThen .now
  have i1 : Looks (model Pr w) h₂ (isInstance (.ref x') (.ref 203)) true := t1.andThen (looks_mroIn X₂ (p_self _))
  refine wpAny_bind (i1.at ?_)
  rw [if_neg (show ¬ ((!true) = true) from Bool.false_ne_true)]
  refine wpAny_bind (wpAny_holding ?_)
  unfold callSpecial? specialOf
  refine wpAny_bind (wpAny_bind (t1.at ((looks_findIn X₂ (p_init _)).at ?_)))
  refine wpAny_holding (wpAny_bind (wpAny_of_eq (oi_bind _) (wpAny_bind ?_)))
  refine am_up (dp := 400) (un := 100) (oinit0 (s := ⟨h₂, g, d, t₂, os⟩) X₂ hx₂ fun t₃ => ?_) (by show dp + 1 ≤ 400; omega) (by show un + 1 ≤ 100; omega)
  refine wpAny_pure ?_
  dsimp only
  refine wpAny_pure ?_
  exact hq x' dx h₂ t₃ F₂ N₂
end Mine
end

section -- M7
open PySem PySem.W PySem.W.X PyProof.Rows PySem.Calls
set_option Elab.async false
set_option maxRecDepth 100000
set_option maxHeartbeats 1000000
namespace Mine
theorem parse_code : ∀ {w : World} {dp un : Nat} {cn : Str} {cs : Scope} {a : Addr} {ccd : Value} {cl : List (Str × Addr)} {outer : List Env} {A₀ : Around} {base h₀ : Heap} {L : Addr} {m mg mb : Str → Option Value} {s : Shared} {Q E : Value → Shared → Prop} {news : List (Addr × Obj)} {p : Program} {loose : List Str} {mean : ExcName → Option Value} {x y z : Str} {tx : Tok},
    Below A₀ base outer h₀ → Fr h₀ L s.heap m → (Mine.hd.heap_39 w.params).In h₀ → News h₀ L s.heap news → Top p loose mean mg mb h₀ → cs.kind = .function →
    dp + 20 ≤ 400 → un + 70 ≤ 100 → x.length ≤ 1000 → PySem.Txt.splitMax x "=" 1 = [y, z] →
    (∀ (x' dx : Addr) (t₁ t₂ : Tok) (h' : Heap) (tk' : Nat), Fr h₀ L h' m → News h₀ L h' ((x', pairObj dx (.str (PySem.Txt.strip y) t₁) (.str (PySem.Txt.strip z) t₂)) :: (dx, { cls := .type "dict", data := .dict #[] }) :: news) → Q (.ref x') { s with heap := h', toks := tk' }) →
    codeAny (model Challenge.rw_in0191_01.row.prog w) (ktrTop dp un (some []) cn cs L a ccd cl outer) (.call (.ref 197) ⟨[.ref 203, .str x tx], []⟩) (fun r s' => match r with | .ok (.ret v) => Q v s' | .ok _ => False | .error e => E e s') s := by
  k_fill
  intro w dp un cn cs a ccd cl outer A₀ base h₀ L m mg mb s Q E news p loose mean x y z tx B F X N T hk hdp hun hxl hsp hq
  k_dflt cell_enter
  rename_i g' L' h' FG' F₁ N₁ B' X' T'
  iterate 12 walk1
  refine getAttr_strip (X'.keeps F₁.keep) ?_
  iterate 10 walk1
  refine splitN2A F₁ N₁ (by decide) (by decide) (fun l h₂ tk₂ hl _ hlen hlist F₂ N₂ => ?_) (by rw [sizeLine_eq]; omega)
  iterate 1 walk1
  have el : ∃ t1 t2, l = [(y, t1), (z, t2)] := by
    have q : l.map (·.1) = [y, z] := hl.trans hsp
    match l, q with
    | [(a, b), (c, d)], q => cases q; exact ⟨b, d, rfl⟩
  obtain ⟨u1, u2, rfl⟩ := el
  have hyl : y.length ≤ x.length := hlen y (by simp)
  have hzl : z.length ≤ x.length := hlen z (by simp)
  refine am_up (dp := 400) (un := 100) (map0 (N₂ _ (.head _)).1 fun mo to io h₃ t₃ D₃ => ?_) (by show dp + 1 ≤ 400; omega) (by show un + 3 ≤ 100; omega)
  have F₃ := mem_fr D₃ F₂
  have N₃ := mem_news D₃ F₂ N₂
  have a₃ := mem_apart D₃ N₂
  have hmo := (N₃ _ (.head _)).1
  have hto := (N₃ _ (.tail _ (.head _))).1
  have hio := N₃ _ (.tail _ (.tail _ (.head _)))
  have hlo := (N₃ _ (List.mem_append_right _ (.head _))).1
  have nd : ∀ {a b : Addr} {o o' : Obj} {A B : String}, h₃.get? a = some o → h₃.get? b = some o' → o.cls = .type A → o'.cls = .type B → A ≠ B → a ≠ b := fun e1 e2 c1 c2 h q => by
    rw [q] at e1
    have z := congrArg Obj.cls (Option.some.inj (e1.symm.trans e2))
    rw [c1, c2] at z
    injection z with z
    exact h z
  have M₃ : MapAt h₃ mo to io _ 0 #[.str y u1, .str z u2] := ⟨hmo, hto, ⟨_, hio.1, rfl, rfl⟩, ⟨_, hlo, rfl, _, rfl⟩, nd hlo hio.1 rfl rfl (by decide), nd hmo hio.1 rfl rfl (by decide), nd hto hio.1 rfl rfl (by decide)⟩
  unfold StarOf
  refine wpAny_bind (wpAny_specialOf (T := "map") ⟨_, hmo, rfl⟩ slot_map_iter.lookup ?_)
  refine wpAny_pure ⟨rfl, ?_⟩
  refine collect_map2 rfl M₃ (by rw [sizeLine_eq]; omega) (by rw [sizeLine_eq]; omega) fun h₄ tk₄ t₁ t₂ k₄ => ?_
  have F₄ : Fr g' L' h₄ _ := ⟨F₃.ns.at' fun o e => k₄ _ o (fun q => hio.2.1 q.symm) e, fun b o e => k₄ b o (fun q => by rw [q, hio.2.2] at e; cases e) (F₃.keep b o e), F₃.above⟩
  have N₄ : News g' L' h₄ news := fun p hp => ⟨k₄ _ _ (fun q => a₃ _ (.tail _ (.tail _ (.head _))) p (.tail _ hp) q.symm) (N₃ _ (List.mem_append_right _ (.tail _ hp))).1, (N₃ _ (List.mem_append_right _ (.tail _ hp))).2⟩
  refine ⟨X'.keeps F₄.keep, ?_⟩
  refine pair_make B' F₄ X' N₄ T' rfl (by show dp + 1 + 12 ≤ 400; omega) (by show un + 3 + 60 ≤ 100; omega) fun x' dx h₅ t₅ F₅ N₅ => ?_
  refine leaveK_ F₅ N₅ fun F₆ N₆ => ?_
  exact hq x' dx t₁ t₂ h₅ _ F₆ N₆
end Mine
end

section -- N1
open PySem PySem.W PySem.W.X PyProof.Rows PySem.Calls
set_option Elab.async false
set_option maxRecDepth 100000
set_option maxHeartbeats 1000000
namespace Mine
section
local macro_rules | `(tactic| x_close) => `(tactic| (apply_assumption <;> first | assumption | rfl))
theorem type0 {w : World} {fr : List Env} {Q E : Value → Shared → Prop} {s : Shared} {x dx : Addr} {va vb : Value} (X : (hd.heap_39 w.params).In s.heap) (hl : s.heap.get? x = some ⟨.ref 203, some dx, .seq #[va, vb] 0, #[]⟩)
    (hq : ∀ t', Q (.ref 203) ⟨s.heap, s.gens, s.drawn, t', s.os⟩) :
    wpAny (model Challenge.rw_in0191_01.row.prog w) (Am 400 100 fr) (call (.type "type") [.ref x]) Q E s := by
  x_run
theorem isub0 {w : World} {fr : List Env} {Q E : Value → Shared → Prop} {s : Shared} (X : (hd.heap_39 w.params).In s.heap) 
    (hq : ∀ t', Q (.bool true) ⟨s.heap, s.gens, s.drawn, t', s.os⟩) :
    wpAny (model Challenge.rw_in0191_01.row.prog w) (Am 400 100 fr) (call (.builtin "issubclass") [.ref 203, .type "tuple"]) Q E s := by
  x_run
end
theorem p_subT (P : Params) : mroIn (hd.heap_39 P) 203 (.type "tuple") = some true := by kernel_rfl
theorem kind_tgi : builtinKind "tuple.__getitem__" = some .slot := by decide +kernel
theorem split_tgi : splitId "tuple.__getitem__" = some ("tuple", "__getitem__") := by decide +kernel
theorem plain_tgi : plainId "tuple.__getitem__" = true := by decide +kernel
theorem item_pair {w : World} {A : Around} {Q E : Value → Shared → Prop} {s : Shared} {x dx : Addr} {va vb v : Value} {k : Int} {u : Tok} (X : (hd.heap_39 w.params).In s.heap) (hx : s.heap.get? x = some (pairObj dx va vb)) (hk : (k = 0 ∧ v = va) ∨ (k = 1 ∧ v = vb))
    (hq : Q v s) : wpAny (model Pr w) A (call (.builtin "tuple.__getitem__") [.ref x, .int k u]) Q E s := by
  have t1 : Looks (model Pr w) s.heap (typeOf (.ref x)) (.ref 203) := (Looks.ld hx).andThen .now
  have sub : Looks (model Pr w) s.heap (isInstance (.ref x) (.type "tuple")) true := t1.andThen (looks_mroIn X (p_subT _))
  refine wpAny_call (codeAny_call_builtin plain_tgi entry_tuple_getitem (@check_slot (model Pr w) _ _ s "tuple.__getitem__" "tuple" "__getitem__" (.ref x) [.int k u] [] _ kind_tgi split_tgi sub (args_tuple_getitem _ _) ?_))
  show wpAny _ _ (Builtin.Tuple.tupleItemsOf (.ref x) >>= _) _ _ s
  unfold Builtin.Tuple.tupleItemsOf
  refine wpAny_bind (wpAny_bind (wpAny_seqItems hx rfl (wpAny_pure ?_)))
  refine wpAny_bind (wpAny_typeOf (typeIs_int s k u) ?_)
  rw [if_neg (by decide)]
  refine wpAny_bind (wpAny_specialOf (T := "int") (typeIs_int s k u) int_index ?_)
  rw [if_neg (by simp)]
  refine wpAny_bind (wpAny_of_eq (a := k) rfl ?_)
  rcases hk with ⟨rfl, rfl⟩ | ⟨rfl, rfl⟩
  · rw [if_neg (by decide)]
    exact wpAny_pure hq
  · rw [if_neg (by decide)]
    exact wpAny_pure hq
theorem p_tgi (P : Params) : findCls (hd.heap_39 P) (.type "tuple") (.type "type") "__getitem__" = some (.val (.builtin "tuple.__getitem__")) := by kernel_rfl
theorem getMethod_tgi {w : World} {A : Around} {E : Value → Shared → Prop} {s : Shared} {h₀ : Heap} {L : Addr} {m : Str → Option Value} {pl : Sem Bool} {Q : Value × List Value → Shared → Prop} (F : Fr h₀ L s.heap m) (X : (hd.heap_39 w.params).In h₀) (h : Q (.builtin "tuple.__getitem__", []) { s with toks := s.toks + 1 }) :
    wpAny (model Pr w) A (getMethod (.type "tuple") "__getitem__" pl) Q E s := by
  have ht : typeOf (.type "tuple") = pure (.type "type") := by rfl
  have hh : handedIn (.builtin "tuple.__getitem__") = true := by kernel_rfl
  have hs : Manifest.isStub "tuple" = false := by decide +kernel
  exact method_type (K := hd.heap_39 w.params) (T := "tuple") (v := .builtin "tuple.__getitem__") F X ht hs (p_tgi w.params) hh h
theorem get_name : ∀ {w : World} {dp un : Nat} {cn : Str} {cs : Scope} {a : Addr} {ccd : Value} {cl : List (Str × Addr)} {outer : List Env} {A₀ : Around} {base h₀ : Heap} {L : Addr} {m mg mb : Str → Option Value} {s : Shared} {Q E : Value → Shared → Prop} {news : List (Addr × Obj)} {p : Program} {loose : List Str} {mean : ExcName → Option Value} {x dx : Addr} {va vb : Value},
    Below A₀ base outer h₀ → Fr h₀ L s.heap m → (Mine.hd.heap_39 w.params).In h₀ → News h₀ L s.heap news → Top p loose mean mg mb h₀ → cs.kind = .function →
    dp + 10 ≤ 400 → un + 50 ≤ 100 → (x, pairObj dx va vb) ∈ news →
    (∀ (h' : Heap) (tk' : Nat), Fr h₀ L h' m → News h₀ L h' news → Q va { s with heap := h', toks := tk' }) →
    wpAny (model Challenge.rw_in0191_01.row.prog w) (ktrTop dp un (some []) cn cs L a ccd cl outer) (call (.ref 61) [.ref 172, .ref x, .ref 203]) Q E s := by
  k_fill
  intro w dp un cn cs a ccd cl outer A₀ base h₀ L m mg mb s Q E news p loose mean x dx va vb B F X N T hk hdp hun hx hq
  refine wpAny_call ?_
  k_dflt (refine' code_def ?k1 ?k2 ?k3 ?k4 ?k5 ?kA ?kF ?kK ?k6 ?k7 ?k8 ?k9 ?kB ?_ ?c2 ?c3 ?c4 ?c5; (case kA => exact rfl); (case kF => exact rfl); (case kK => assumption); (case k1 => k_asm); (case k2 => k_asm); (case k3 => k_asm); (case k4 => k_asm); (case k5 => k_asm); (case k6 => k_is); (case k7 => k_is); (case k8 => show dp < 1000; omega); (case k9 => exact binds_K (by k_in) rfl (by k_is) rfl rfl rfl); (case c5 => decide); (case kB => exact locs rfl); (case c2 => exact rfl); (case c3 => exact rfl); (case c4 => exact rfl); k_whole; intro g' L' h' FG' F' N' B' X' T'; (try dsimp only); (try k_lift B'); (try k_fold))
  k_steps
  refine am_up (dp := 400) (un := 100) (type0 (X'.keeps (by assumption : Fr g' L' h' _).keep) ((by assumption : News g' L' h' news) _ hx).1 fun t₁ => ?_) (by show dp + 1 ≤ 400; omega) (by show un + 3 ≤ 100; omega)
  k_steps
  refine am_up (dp := 400) (un := 100) (isub0 (X'.keeps (by assumption : Fr g' L' h' _).keep) fun t₂ => ?_) (by show dp + 1 ≤ 400; omega) (by show un + 3 ≤ 100; omega)
  k_steps
  refine getMethod_tgi (by assumption) X' ?_
  k_steps
  refine item_pair (X'.keeps (by assumption : Fr g' L' h' _).keep) ((by assumption : News g' L' h' news) _ hx).1 (by first | exact .inl ⟨rfl, rfl⟩ | exact .inr ⟨rfl, rfl⟩) ?_
  refine leaveK_ (by assumption) (by assumption) fun F₆ N₆ => ?_
  exact hq _ _ F₆ N₆
theorem get_value : ∀ {w : World} {dp un : Nat} {cn : Str} {cs : Scope} {a : Addr} {ccd : Value} {cl : List (Str × Addr)} {outer : List Env} {A₀ : Around} {base h₀ : Heap} {L : Addr} {m mg mb : Str → Option Value} {s : Shared} {Q E : Value → Shared → Prop} {news : List (Addr × Obj)} {p : Program} {loose : List Str} {mean : ExcName → Option Value} {x dx : Addr} {va vb : Value},
    Below A₀ base outer h₀ → Fr h₀ L s.heap m → (Mine.hd.heap_39 w.params).In h₀ → News h₀ L s.heap news → Top p loose mean mg mb h₀ → cs.kind = .function →
    dp + 10 ≤ 400 → un + 50 ≤ 100 → (x, pairObj dx va vb) ∈ news →
    (∀ (h' : Heap) (tk' : Nat), Fr h₀ L h' m → News h₀ L h' news → Q vb { s with heap := h', toks := tk' }) →
    wpAny (model Challenge.rw_in0191_01.row.prog w) (ktrTop dp un (some []) cn cs L a ccd cl outer) (call (.ref 61) [.ref 175, .ref x, .ref 203]) Q E s := by
  k_fill
  intro w dp un cn cs a ccd cl outer A₀ base h₀ L m mg mb s Q E news p loose mean x dx va vb B F X N T hk hdp hun hx hq
  refine wpAny_call ?_
  k_dflt (refine' code_def ?k1 ?k2 ?k3 ?k4 ?k5 ?kA ?kF ?kK ?k6 ?k7 ?k8 ?k9 ?kB ?_ ?c2 ?c3 ?c4 ?c5; (case kA => exact rfl); (case kF => exact rfl); (case kK => assumption); (case k1 => k_asm); (case k2 => k_asm); (case k3 => k_asm); (case k4 => k_asm); (case k5 => k_asm); (case k6 => k_is); (case k7 => k_is); (case k8 => show dp < 1000; omega); (case k9 => exact binds_K (by k_in) rfl (by k_is) rfl rfl rfl); (case c5 => decide); (case kB => exact locs rfl); (case c2 => exact rfl); (case c3 => exact rfl); (case c4 => exact rfl); k_whole; intro g' L' h' FG' F' N' B' X' T'; (try dsimp only); (try k_lift B'); (try k_fold))
  k_steps
  refine am_up (dp := 400) (un := 100) (type0 (X'.keeps (by assumption : Fr g' L' h' _).keep) ((by assumption : News g' L' h' news) _ hx).1 fun t₁ => ?_) (by show dp + 1 ≤ 400; omega) (by show un + 3 ≤ 100; omega)
  k_steps
  refine am_up (dp := 400) (un := 100) (isub0 (X'.keeps (by assumption : Fr g' L' h' _).keep) fun t₂ => ?_) (by show dp + 1 ≤ 400; omega) (by show un + 3 ≤ 100; omega)
  k_steps
  refine getMethod_tgi (by assumption) X' ?_
  k_steps
  refine item_pair (X'.keeps (by assumption : Fr g' L' h' _).keep) ((by assumption : News g' L' h' news) _ hx).1 (by first | exact .inl ⟨rfl, rfl⟩ | exact .inr ⟨rfl, rfl⟩) ?_
  refine leaveK_ (by assumption) (by assumption) fun F₆ N₆ => ?_
  exact hq _ _ F₆ N₆
theorem p_ga (P : Params) : findIn (hd.heap_39 P) (.ref 203) "__getattribute__" = some (some (.builtin "tuple.__getattribute__")) := by kernel_rfl
end Mine
end

section -- N2
open PySem PySem.W PySem.W.X PyProof.Rows PySem.Calls
set_option Elab.async false
set_option maxRecDepth 100000
set_option maxHeartbeats 1000000
namespace Mine
theorem p_gk (P : Params) : findIn (hd.heap_39 P) (.ref 203) "__getattr__" = some none := by kernel_rfl
theorem p_name (P : Params) : findIn (hd.heap_39 P) (.ref 203) "name" = some (some (.ref 172)) := by kernel_rfl
theorem p_value (P : Params) : findIn (hd.heap_39 P) (.ref 203) "value" = some (some (.ref 175)) := by kernel_rfl
theorem p_nameG (P : Params) : specialIn (hd.heap_39 P) (.ref 172) "__get__" = some (some (.ref 61)) := by kernel_rfl
theorem p_valueG (P : Params) : specialIn (hd.heap_39 P) (.ref 175) "__get__" = some (some (.ref 61)) := by kernel_rfl
theorem p_nameT (P : Params) : takesIn (hd.heap_39 P) (.ref 172) = some true := by kernel_rfl
theorem p_valueT (P : Params) : takesIn (hd.heap_39 P) (.ref 175) = some true := by kernel_rfl
theorem p_cls (P : Params) : (clsIn (hd.heap_39 P) 203).isSome = true := by kernel_rfl
theorem p_subO (P : Params) : mroIn (hd.heap_39 P) 203 (.type "tuple") = some true := by kernel_rfl
theorem bind_tga (o : Value) : bindSpecial (.builtin "tuple.__getattribute__") o = pure (.builtin "tuple.__getattribute__", [o]) := by
  have e : typeOf (.builtin "tuple.__getattribute__") = pure (.type "wrapper_descriptor") := by show builtinType _ = _; rw [builtinType_eq_fast]; kernel_rfl
  unfold bindSpecial
  rw [e]
  rfl
theorem kind_tga : builtinKind "tuple.__getattribute__" = some .slot := by decide +kernel
theorem split_tga : splitId "tuple.__getattribute__" = some ("tuple", "__getattribute__") := by decide +kernel
theorem plain_tga : plainId "tuple.__getattribute__" = true := by decide +kernel
theorem entry_tga : entryFor table "tuple.__getattribute__" = some Builtin.«object.__getattribute__» :=
  entryFor_alias (id' := "object.__getattribute__") (by kernel_rfl) (by first | rfl | decide +kernel | (unfold String.splitOn; simp +decide [String.splitOnAux])) (by decide +kernel) (by kernel_rfl)
theorem args_tga (a b : Value) : argsOk "tuple.__getattribute__" ⟨[a, b], []⟩ := by unfold argsOk; kernel_rfl
theorem getAttr_pair {w : World} {A : Around} {E : Value → Shared → Prop} {s : Shared} {x dx : Addr} {va vb g a : Value} {name : Str} {expr : Bool} {od : Obj} {Q : Value → Shared → Prop} (X : (hd.heap_39 w.params).In s.heap) (I : W.InstAt s.heap x (pairObj dx va vb) 203 (some od))
    (hf : findObj (hd.heap_39 w.params) 203 (some od) name = some (.bind g a))
    (h : wpAny (model Pr w) A.in1 (call g [a, .ref x, .ref 203]) (fun v s' => wpAny (model Pr w) A (handedOut v) Q E s') (fun _ _ => False) { s with toks := s.toks + 1 }) :
    wpAny (model Pr w) A (getAttr (.ref x) name expr) Q E s := by
  obtain ⟨hh, gg, d, t, os⟩ := s
  unfold getAttr getAttrBy
  refine wpAny_bind (wpAny_mkText (wpAny_holding (wpAny_bind (I.type.at (wpAny_bind ((looks_findIn X (p_ga _)).at ?_))))))
  show wpAny _ _ (getAttrByItsOwn (.ref x) (.str name t) (.ref 203) (.builtin "tuple.__getattribute__") true expr) _ _ _
  unfold getAttrByItsOwn hookBefore callGetattribute boundAndCalled
  refine wpAny_bind ?_
  show wpAny _ _ (typeLookup (.ref 203) "__getattr__") _ _ _
  refine (looks_findIn X (p_gk _)).at ?_
  refine wpAny_bind (wpAny_attempt (wpAny_holding ?_))
  have hO : (expr && onTheHeap (.builtin "tuple.__getattribute__")) = false := by cases expr <;> rfl
  rw [hO, if_neg Bool.false_ne_true, bind_tga]
  refine wpAny_bind (wpAny_pure ?_)
  have sub : Looks (model Pr w) hh (isInstance (.ref x) (.type "tuple")) true := I.type.andThen (looks_mroIn X (p_subO _))
  refine wpAny_call (codeAny_call_builtin plain_tga entry_tga (@check_slot (model Pr w) _ _ _ "tuple.__getattribute__" "tuple" "__getattribute__" (.ref x) [.str name t] [] _ kind_tga split_tga sub (args_tga _ _) ?_))
  have L1 := looks_find (M := model Pr w) X I hf
  show wpAny _ _ (typeOf (.ref x) >>= _) _ _ _
  refine wpAny_bind (I.type.at (wpAny_bind (L1.at ?_)))
  dsimp only
  show wpAny _ _ (holding [a] (call g [a, .ref x, .ref 203]) >>= ret) _ _ _
  exact wpAny_bind (wpAny_holding (wpAny_mono h (fun v s' z => wpAny_pure z) fun _ _ z => z.elim))
theorem attr_name {w : World} {dp un : Nat} {cn : Str} {cs : Scope} {a : Addr} {ccd : Value} {cl : List (Str × Addr)} {outer : List Env} {A₀ : Around} {base h₀ : Heap} {L : Addr} {m mg mb : Str → Option Value} {s : Shared} {Q E : Value → Shared → Prop} {news : List (Addr × Obj)} {p : Program} {loose : List Str} {mean : ExcName → Option Value} {x dx : Addr} {xa : Str} {ta : Tok} {vb : Value} {od : Obj} {expr : Bool}
    (B : Below A₀ base outer h₀) (F : Fr h₀ L s.heap m) (X : (Mine.hd.heap_39 w.params).In h₀) (N : News h₀ L s.heap news) (T : Top p loose mean mg mb h₀) (hk : cs.kind = .function)
    (hdp : dp + 12 ≤ 400) (hun : un + 60 ≤ 100) (hx : (x, pairObj dx (.str xa ta) vb) ∈ news) (hdx : (dx, od) ∈ news)
    (hq : ∀ (h' : Heap) (tk' : Nat), Fr h₀ L h' m → News h₀ L h' news → Q (.str xa ta) { s with heap := h', toks := tk' }) :
    wpAny (model Challenge.rw_in0191_01.row.prog w) (ktrTop dp un (some []) cn cs L a ccd cl outer) (getAttr (.ref x) "name" expr) Q E s := by
  have I : W.InstAt s.heap x (pairObj dx (.str xa ta) vb) 203 (some od) := ⟨(N _ hx).1, rfl, rfl, (N _ hdx).1⟩
  refine getAttr_pair (X.keeps F.keep) I (findObj_data (p_cls _) (p_name _) (p_nameG _) (p_nameT _)) ?_
  refine get_name (dp := dp) (un := un + 1) (s := { s with toks := s.toks + 1 }) B F X N T hk (by omega) (by omega) hx fun h' tk' F' N' => ?_
  rw [handedOut_of (by rfl)]
  exact wpAny_pure (hq h' tk' F' N')
theorem attr_value {w : World} {dp un : Nat} {cn : Str} {cs : Scope} {a : Addr} {ccd : Value} {cl : List (Str × Addr)} {outer : List Env} {A₀ : Around} {base h₀ : Heap} {L : Addr} {m mg mb : Str → Option Value} {s : Shared} {Q E : Value → Shared → Prop} {news : List (Addr × Obj)} {p : Program} {loose : List Str} {mean : ExcName → Option Value} {x dx : Addr} {xb : Str} {tb : Tok} {va : Value} {od : Obj} {expr : Bool}
    (B : Below A₀ base outer h₀) (F : Fr h₀ L s.heap m) (X : (Mine.hd.heap_39 w.params).In h₀) (N : News h₀ L s.heap news) (T : Top p loose mean mg mb h₀) (hk : cs.kind = .function)
    (hdp : dp + 12 ≤ 400) (hun : un + 60 ≤ 100) (hx : (x, pairObj dx va (.str xb tb)) ∈ news) (hdx : (dx, od) ∈ news)
    (hq : ∀ (h' : Heap) (tk' : Nat), Fr h₀ L h' m → News h₀ L h' news → Q (.str xb tb) { s with heap := h', toks := tk' }) :
    wpAny (model Challenge.rw_in0191_01.row.prog w) (ktrTop dp un (some []) cn cs L a ccd cl outer) (getAttr (.ref x) "value" expr) Q E s := by
  have I : W.InstAt s.heap x (pairObj dx va (.str xb tb)) 203 (some od) := ⟨(N _ hx).1, rfl, rfl, (N _ hdx).1⟩
  refine getAttr_pair (X.keeps F.keep) I (findObj_data (p_cls _) (p_value _) (p_valueG _) (p_valueT _)) ?_
  refine get_value (dp := dp) (un := un + 1) (s := { s with toks := s.toks + 1 }) B F X N T hk (by omega) (by omega) hx fun h' tk' F' N' => ?_
  rw [handedOut_of (by rfl)]
  exact wpAny_pure (hq h' tk' F' N')
end Mine
end

section -- Q1
open PySem PySem.W PySem.W.X PyProof.Rows PySem.Calls PyProof.Rows.LCg
set_option Elab.async false
set_option maxRecDepth 100000
set_option maxHeartbeats 1000000
namespace Mine
section
variable {prog : Program} {w : World} {A : Around} {E : Value → Shared → Prop} {s : Shared} {h₀ : Heap} {L : Addr} {m : Str → Option Value} {env : Env} {n : Nat} {kp : List Addr}
  {P Md : Addr → Nat → Value → Heap → Prop} {St : Addr → Nat → Heap → Prop} {target iter elt : Expr} {scope : Scope} {cl : List (Str × Addr)} {pos : Pos} {Q : Value → Shared → Prop}
/-- a list comprehension of one clause over any iterator, by an invariant -/
theorem comp_any (Inv : Nat → List Value → List (Addr × Obj) → Prop) (Bd : Nat → (Str → Option Value) → Prop)
    (hclos : closureFor scope env = pure cl) (hcell : ∀ y ∈ scope.names, y.2 ≠ .cell) (hkind : scope.kind = .function) (hnames : ∀ y ∈ scope.names, y.2 = .local → scope.names.lookup y.1 = some .local) (hsz : n ≤ sizeLine)
    (src : ∀ R : Value → Shared → Prop, (∀ I h tk news, KTurns prog w A target I (I :: kp) [I] n (P I) (Md I) (St I) → St I 0 h → (∃ o, h.get? I = some o) → (∀ b ∈ kp, b ≠ I ∧ b < h.objs.size) → Fr h₀ L h m → News h₀ L h news → (∀ p ∈ news, p.1 ≠ I) → h₀.get? I = none → L ≠ I → Inv 0 [] news → R (.ref I) { s with heap := h, toks := tk }) →
      wpAny (model prog w) A (eval iter env) (fun xv s₁ => wpAny (model prog w) A (pyIter xv) R E s₁) E s)
    (self : ∀ I i (s₁ : Shared) (R E' : Value → Shared → Prop), St I i s₁.heap → R (.ref I) s₁ → wpAny (model prog w) A (pyIter (.ref I)) R E' s₁)
    (live : ∀ I i h, St I i h → ∃ o, h.get? I = some o)
    (keep : ∀ b ∈ kp, ∃ o, ∀ i ys nw h, Inv i ys nw → Fr h₀ L h m → News h₀ L h nw → h.get? b = some o)
    (asg : ∀ I i v (s₁ : Shared) C m₁ (R : Unit → Shared → Prop) (E' : Value → Shared → Prop), i < n → P I i v s₁.heap → s₁.heap.Ns C m₁ → (∀ h' tk m₂, h'.Ns C m₂ → Bd i m₂ → (∀ c o, c ≠ C → s₁.heap.get? c = some o → h'.get? c = some o) → R () { s₁ with heap := h', toks := tk }) →
      wpAny (model prog w) A (assign target (compEnvC scope cl C env) v) R E' s₁)
    (step : ∀ I oI C oC D m₂ ys news h tk i (E' : Value → Shared → Prop), i < n → Inv i ys news → NsObj oC m₂ → Bd i m₂ → Fr h₀ L h m → News h₀ L h ((I, oI) :: (C, oC) :: (D, lst ys) :: news) → Off3 I C D news → ((@Ne Nat I C) ∧ (@Ne Nat I D) ∧ (@Ne Nat C D)) →
      wpAny (model prog w) A (eval elt (compEnvC scope cl C env)) (CompEnd h₀ L m { s with heap := h, toks := tk } I oI C oC D (lst ys) (fun _ => True) (fun y news' => Inv (i + 1) (ys ++ [y]) news')) E' { s with heap := h, toks := tk })
    (fin : ∀ D ys h tk news, Inv n ys news → Fr h₀ L h m → News h₀ L h ((D, lst ys) :: news) → (∀ p ∈ news, p.1 ≠ D) → Q (.ref D) { s with heap := h, toks := tk })
    (hs : ∀ x, foldedSetIterable iter env x = pure x := by intro _; rfl) :
    wpAny (model prog w) A (eval (.ListComp elt [⟨target, iter, [], 0⟩] scope pos) env) Q E s := by
  rw [eval_ListComp]
  refine wpAny_comprehension_free (use := none) rfl hs hclos hkind hnames (wpAny_mono (src _ fun I h tk news W hst₀ hIo hkp F N off hI₀ hIL hInv => ?_) (fun xv s₁ h₁ => h₁) fun _ _ e => e)
  refine wpAny_newObj_type (wpAny_newFunctionEnv hcell (by intro y hy; simp at hy) (fun h₁ hns₁ hsb₁ => ?_) hkind)
  dsimp only at hns₁ hsb₁ ⊢
  generalize hH2 : h.push { cls := .type "list", dict := none, data := .seq ([] : List Value).toArray } = H2 at hns₁ hsb₁ ⊢
  have hC : H2.objs.size = h.objs.size + 1 := by rw [← hH2, Heap.size_push]
  have hDC : h.objs.size ≠ H2.objs.size := by rw [hC]; exact Nat.ne_of_lt (Nat.lt_succ_self _)
  have below : ∀ b, b < h.objs.size → b ≠ H2.objs.size ∧ b ≠ h.objs.size := fun b hb => ⟨by rw [hC]; exact Nat.ne_of_lt (Nat.lt_succ_of_lt hb), Nat.ne_of_lt hb⟩
  have hIlt : I < h.objs.size := by obtain ⟨o, e⟩ := hIo; exact Heap.lt_size e
  have old : ∀ b o, h.get? b = some o → h₁.get? b = some o := fun b o e => hsb₁.extBut b o (below b (Heap.lt_size e)).1 (Heap.get?_push_of_some _ (hH2 ▸ Heap.get?_push_of_some _ e))
  have hacc : h₁.get? h.objs.size = some (lst []) := hsb₁.extBut _ _ hDC (Heap.get?_push_of_some _ (hH2 ▸ Heap.get?_push_size _ rfl))
  have hst₁ : St I 0 h₁ := W.frame _ _ _ hst₀ fun b _ o e => old b o e
  have fresh₀ : ∀ a, h.objs.size ≤ a → h₀.get? a = none := fun a ha => by
    cases e : h₀.get? a with
    | none => rfl
    | some o' => exact absurd (Heap.lt_size (F.keep a o' e)) (Nat.not_lt.mpr ha)
  have hD₀ : h₀.get? h.objs.size = none := fresh₀ _ (Nat.le_refl _)
  have hC₀ : h₀.get? H2.objs.size = none := fresh₀ _ (by rw [hC]; exact Nat.le_succ _)
  have hLlt : L < h.objs.size := F.ns.lt
  have hDL : h.objs.size ≠ L := Ne.symm (below L hLlt).2
  have hCL : H2.objs.size ≠ L := Ne.symm (below L hLlt).1
  have hCI : I ≠ H2.objs.size := (below I hIlt).1
  have hDI : I ≠ h.objs.size := (below I hIlt).2
  have off₀ : Off3 I H2.objs.size h.objs.size news := Off3.of fun p hp => ⟨off p hp, (below _ (Heap.lt_size (N p hp).1)).1, (below _ (Heap.lt_size (N p hp).1)).2⟩
  have loop : ∀ s₃ : Shared, s₃ = { s with heap := h₁, toks := tk + ([] : List (Str × Value)).length } →
      codeAny (model prog w) A (.compLoop (.ListComp elt [⟨target, iter, [], 0⟩] scope pos) 0 (.ref I) (.ref h.objs.size) (compEnvC scope cl H2.objs.size env))
        (compPost (model prog w) A E none Q (.ref h.objs.size) H2.objs.size) s₃ := by
    rintro s₃ rfl
    refine kcp_loop
      (fun k s' => ∃ h' tk i ys m' news', s' = { s with heap := h', toks := tk } ∧ i ≤ n ∧ k = n + 1 - i ∧ ys.length = i ∧ St I i h' ∧ Fr h₀ L h' m ∧ h'.Ns H2.objs.size m' ∧
        News h₀ L h' ((h.objs.size, lst ys) :: news') ∧ Off3 I H2.objs.size h.objs.size news' ∧ Inv i ys news') ?_ (n + 1)
      ⟨h₁, _, 0, [], _, news, rfl, Nat.zero_le _, rfl, rfl, hst₁, F.keeps old, hns₁, fun p hp => ?_, off₀, hInv⟩
    · rintro k s' ⟨h', tk, i, ys, m', news', rfl, hi, rfl, hyl, hst', F', hn', N', off', hInv'⟩
      have off3 := off'.mem
      by_cases hlt : i < n
      · refine W.item i _ _ _ hlt hst' fun v h₂ tk₂ hMd hk₂ => ?_
        refine W.go i v _ _ _ hMd fun h₃ hP hst₃ hk₃ => ?_
        have up₃ : ∀ c o, c ≠ I → h'.get? c = some o → h₃.get? c = some o := fun c o hc e => hk₃ c o (by simpa using hc) (hk₂ c o (by simpa using hc) e)
        refine asg I i v _ H2.objs.size m' _ _ hlt hP (hn'.at' fun o e => up₃ _ o (Ne.symm hCI) e) fun h₄ tk₄ m₂ hn₄ hbd hs₄ => ?_
        have up : ∀ c o, c ≠ I → c ≠ H2.objs.size → h'.get? c = some o → h₄.get? c = some o := fun c o h1 h2 e => hs₄ c o h2 (up₃ c o h1 e)
        have hst₄ : St I (i + 1) h₄ := W.frame _ _ _ hst₃ fun b hb o e => hs₄ b o (by
          rcases List.mem_cons.mp hb with rfl | hb
          · exact hCI
          · exact (below b (hkp b hb).2).1) e
        obtain ⟨oI, heI⟩ := live _ _ _ hst₄
        obtain ⟨oC, heC, hoC⟩ := ns_obj hn₄
        have F₄ : Fr h₀ L h₄ m := ⟨F'.ns.at' fun o e => up _ o hIL (Ne.symm hCL) e, fun c o e => up c o (fun q => by rw [q, hI₀] at e; cases e) (fun q => by rw [q, hC₀] at e; cases e) (F'.keep c o e), F'.above⟩
        have N₄ : News h₀ L h₄ ((I, oI) :: (H2.objs.size, oC) :: (h.objs.size, lst ys) :: news') := fun q hq => by
          rcases List.mem_cons.mp hq with rfl | hq
          · exact ⟨heI, Ne.symm hIL, hI₀⟩
          · rcases List.mem_cons.mp hq with rfl | hq
            · exact ⟨heC, hCL, hC₀⟩
            · have z := N' q hq
              refine ⟨up _ _ ?_ ?_ z.1, z.2⟩
              · rcases List.mem_cons.mp hq with rfl | hq
                · exact Ne.symm hDI
                · exact (off3 q hq).1
              · rcases List.mem_cons.mp hq with rfl | hq
                · exact hDC
                · exact (off3 q hq).2.1
        refine wpAny_mono (step I oI H2.objs.size oC h.objs.size m₂ ys news' h₄ tk₄ i _ hlt hInv' hoC hbd F₄ N₄ off' ⟨hCI, hDI, Ne.symm hDC⟩) (fun y s₅ h₅ => ?_) fun _ _ e => e
        obtain ⟨h₅, tk₅, news₅, rfl, F₅, N₅, off₅, -, hInv₅⟩ := h₅
        have zI := (N₅ (I, oI) List.mem_cons_self).1
        have zC := (N₅ (H2.objs.size, oC) (List.mem_cons_of_mem _ List.mem_cons_self)).1
        have zD := (N₅ (h.objs.size, lst ys) (List.mem_cons_of_mem _ (List.mem_cons_of_mem _ List.mem_cons_self))).1
        have N₅' : News h₀ L h₅ news₅ := fun q hq => N₅ q (List.mem_cons_of_mem _ (List.mem_cons_of_mem _ (List.mem_cons_of_mem _ hq)))
        have N₄' : News h₀ L h₄ news' := fun q hq => N₄ q (List.mem_cons_of_mem _ (List.mem_cons_of_mem _ (List.mem_cons_of_mem _ hq)))
        have hst₅ : St I (i + 1) h₅ := W.frame _ _ _ hst₄ fun b hb o e => by
          rcases List.mem_cons.mp hb with rfl | hb
          · rw [heI] at e; cases e; exact zI
          · obtain ⟨ob, hob⟩ := keep b hb
            rw [hob _ _ _ _ hInv' F₄ N₄'] at e; cases e
            exact hob _ _ _ _ hInv₅ F₅ N₅'
        refine append_at (hsz := by show ys.toArray.size ≤ sizeLine; rw [List.size_toArray, hyl]; exact Nat.le_trans hi hsz) zD fun h₆ hs₆ hD₆ => ?_
        have off5 := off₅.mem
        refine ⟨n + 1 - (i + 1), by omega, h₆, tk₅, i + 1, ys ++ [y], _, news₅, rfl, hlt, rfl, by rw [List.length_append, List.length_singleton, hyl], W.frame _ _ _ hst₅ fun b hb o e => hs₆.extBut b o (by
          rcases List.mem_cons.mp hb with rfl | hb
          · exact hDI
          · exact (below b (hkp b hb).2).2) e, F₅.change hs₆ hDL hD₀,
          (hoC.ns zC).sameBut hs₆ (Ne.symm hDC), fun q hq => ?_, off₅, hInv₅⟩
        rcases List.mem_cons.mp hq with rfl | hq
        · exact ⟨hD₆.trans (congrArg some (lst_snoc ys y)), hDL, hD₀⟩
        · exact ⟨hs₆.extBut _ _ (off5 q hq).2.2 (N₅' q hq).1, (N₅' q hq).2⟩
      · have hin : i = n := Nat.le_antisymm hi (Nat.not_lt.mp hlt)
        subst hin
        refine W.done _ _ _ hst' fun h₂ tk₂ hk₂ => ?_
        have F₂ := fr_but F' hk₂ hIL hI₀
        have N₂ := news_but N' hk₂ fun p hp => by
          rcases List.mem_cons.mp hp with rfl | hp
          · exact Ne.symm hDI
          · exact (off3 p hp).1
        refine ⟨_, hn'.at' fun o e => hk₂ _ o (by simpa using Ne.symm hCI) e, fun h'' hs'' => ?_⟩
        refine fin _ ys h'' tk₂ news' hInv' (F₂.change hs'' hCL hC₀) (fun p hp => ?_) (fun p hp => (off3 p hp).2.2)
        refine ⟨hs''.extBut _ _ ?_ (N₂ p hp).1, (N₂ p hp).2⟩
        rcases List.mem_cons.mp hp with rfl | hp
        · exact hDC
        · exact (off3 p hp).2.1
    · rcases List.mem_cons.mp hp with rfl | hp
      · exact ⟨hacc, hDL, hD₀⟩
      · exact ⟨old _ _ (N p hp).1, (N p hp).2⟩
  exact codeAny_compStart_list (loop _ rfl) (self I 0 _ _ _ hst₁ (loop _ rfl))
end
end Mine
end

section -- Q2
open PySem PySem.W PySem.W.X PyProof.Rows PySem.Calls PyProof.Rows.LCg
set_option Elab.async false
set_option maxRecDepth 100000
set_option maxHeartbeats 1000000
namespace Mine
section
variable {prog : Program} {w : World} {A : Around} {E : Value → Shared → Prop} {s : Shared} {h₀ : Heap} {L : Addr} {m : Str → Option Value} {env : Env} {n : Nat}
  {iter elt : Expr} {scope : Scope} {cl : List (Str × Addr)} {pos : Pos} {Q : Value → Shared → Prop} {x : Str} {px : Pos} {news : List (Addr × Obj)}
theorem walks_ex {τ : Type} {I : Addr} {fp wr : List Addr} {P : Nat → Value → Prop} {St : τ → Nat → Heap → Prop} (z : τ) (W : ∀ t, Walks prog w A I fp wr n P (St t)) : Walks prog w A I fp wr n P (fun i h => ∃ t, St t i h) where
  sub := (W z).sub
  frame := fun i h h' ⟨t, st⟩ hk => ⟨t, (W t).frame i h h' st hk⟩
  item := fun i s Q E hi ⟨t, st⟩ hQ => (W t).item i s Q E hi st fun v h' tk hP hS hk => hQ v h' tk hP ⟨t, hS⟩ hk
  done := fun s Q E ⟨t, st⟩ hQ => (W t).done s Q E st hQ
  self := fun i s Q E ⟨t, st⟩ hQ => (W t).self i s Q E st hQ
theorem asg_name {v : Value} {C : Addr} {m₁ : Str → Option Value} {R : Unit → Shared → Prop} {E' : Value → Shared → Prop} (hkind : scope.kind = .function) (hx : scope.names.lookup x = some .local) (hn : s.heap.Ns C m₁)
    (h : ∀ h' tk m₂, h'.Ns C m₂ → m₂ x = some v → (∀ c o, c ≠ C → s.heap.get? c = some o → h'.get? c = some o) → R () { s with heap := h', toks := tk }) :
    wpAny (model prog w) A (assign (.Name x px) (compEnvC scope cl C env) v) R E' s :=
  wpAny_assign_Name (wpAny_storeName_local (lookup_relabel_local hx) hn (fun h₂ hn₂ hs₂ => h h₂ _ _ hn₂ (by simp) fun c o hc e => hs₂.extBut c o hc e) (by simp [compEnvC, relabel, hkind]))
/-- over a range that goes up by ones -/
theorem comp_range {a b : Int} (Inv : Nat → List Value → List (Addr × Obj) → Prop) (hh : A.handled = none)
    (hclos : closureFor scope env = pure cl) (hcell : ∀ y ∈ scope.names, y.2 ≠ .cell) (hkind : scope.kind = .function) (hnames : ∀ y ∈ scope.names, y.2 = .local → scope.names.lookup y.1 = some .local) (hx : scope.names.lookup x = some .local) (hsz : n ≤ sizeLine)
    (hsm : Builtin.Range.small a b 1 = true) (hn : Builtin.Range.rangeSize a b 1 = ((n : Nat) : Int))
    (he : ∀ R : Value → Shared → Prop, (∀ r h tk t u v, IsRange h r a b 1 t u v → Fr h₀ L h m → News h₀ L h news → R (.ref r) { s with heap := h, toks := tk }) → wpAny (model prog w) A (eval iter env) R E s)
    (h0 : Inv 0 [] news)
    (step : ∀ I oI C oC D m₂ ys news h tk i t (E' : Value → Shared → Prop), i < n → Inv i ys news → NsObj oC m₂ → m₂ x = some (.int (a + (i : Int)) t) → Fr h₀ L h m → News h₀ L h ((I, oI) :: (C, oC) :: (D, lst ys) :: news) → Off3 I C D news → ((@Ne Nat I C) ∧ (@Ne Nat I D) ∧ (@Ne Nat C D)) →
      wpAny (model prog w) A (eval elt (compEnvC scope cl C env)) (CompEnd h₀ L m { s with heap := h, toks := tk } I oI C oC D (lst ys) (fun _ => True) (fun y news' => Inv (i + 1) (ys ++ [y]) news')) E' { s with heap := h, toks := tk })
    (fin : ∀ D ys h tk news, Inv n ys news → Fr h₀ L h m → News h₀ L h ((D, lst ys) :: news) → (∀ p ∈ news, p.1 ≠ D) → Q (.ref D) { s with heap := h, toks := tk })
    (hs : ∀ x, foldedSetIterable iter env x = pure x := by intro _; rfl) :
    wpAny (model prog w) A (eval (.ListComp elt [⟨.Name x px, iter, [], 0⟩] scope pos) env) Q E s := by
  refine comp_any (kp := []) (P := fun _ i v _ => ∃ t, v = .int (a + (i : Int)) t) (Md := fun I i v h => (∃ t, v = .int (a + (i : Int)) t) ∧ IsRangeIter h I (a + ((i + 1 : Nat)) * 1) ((n : Int) - (i + 1 : Nat)) 1)
    (St := fun I i h => IsRangeIter h I (a + (i : Nat) * 1) ((n : Int) - (i : Nat)) 1) Inv (fun i m₂ => ∃ t, m₂ x = some (.int (a + (i : Int)) t)) hclos hcell hkind hnames hsz ?src ?self ?live ?keep ?asg ?step fin hs
  case src =>
    intro R hR
    refine he _ fun r h tk t u v hr F N => ?_
    refine wpAny_pyIter_range hr hsm ?_
    have W := range_walks (prog := prog) (w := w) (I := h.objs.size) hh a n
    refine hR _ _ _ news (KTurns.ofWalks W fun i v s Q E st h => wpAny_pure h) ?_ ⟨_, Heap.get?_push_size _ rfl⟩ (fun b hb => nomatch hb) (F.push _) (N.grown fun _ _ e => Heap.get?_push_of_some _ e) (fun p hp => Nat.ne_of_lt (Heap.lt_size (N p hp).1)) (next_is_new F) (Nat.ne_of_lt F.ns.lt) h0
    show IsRangeIter _ _ _ _ _
    rw [hn]; simpa using Heap.get?_push_size _ rfl
  case self => exact fun I i s₁ R E' st h => (range_walks (I := I) hh a n).self i s₁ R E' st h
  case live => exact fun I i h st => ⟨_, st⟩
  case keep => exact fun b hb => nomatch hb
  case asg =>
    rintro I i _ s₁ C m₁ R E' hi ⟨t, rfl⟩ hn hR
    exact asg_name hkind hx hn fun h' tk m₂ h1 h2 h3 => hR h' tk m₂ h1 ⟨t, h2⟩ h3
  case step =>
    rintro I oI C oC D m₂ ys news h tk i E' hi hI hC ⟨t, ht⟩ F N off ne
    exact step I oI C oC D m₂ ys news h tk i t E' hi hI hC ht F N off ne
/-- over the signs of an ASCII text -/
theorem comp_str {txt : Str} (Inv : Nat → List Value → List (Addr × Obj) → Prop) (hh : A.handled = none) (ha : txt.cps.all (· < 128) = true)
    (hclos : closureFor scope env = pure cl) (hcell : ∀ y ∈ scope.names, y.2 ≠ .cell) (hkind : scope.kind = .function) (hnames : ∀ y ∈ scope.names, y.2 = .local → scope.names.lookup y.1 = some .local) (hx : scope.names.lookup x = some .local) (hsz : txt.cps.size ≤ sizeLine)
    (F : Fr h₀ L s.heap m) (N : News h₀ L s.heap news)
    (he : ∀ R : Value → Shared → Prop, (∀ t tk, R (.str txt t) { s with toks := tk }) → wpAny (model prog w) A (eval iter env) R E s)
    (h0 : Inv 0 [] news)
    (step : ∀ I oI C oC D m₂ ys news h tk i c t (E' : Value → Shared → Prop), txt.cps[i]? = some c → Inv i ys news → NsObj oC m₂ → m₂ x = some (.str ⟨#[c]⟩ t) → Fr h₀ L h m → News h₀ L h ((I, oI) :: (C, oC) :: (D, lst ys) :: news) → Off3 I C D news → ((@Ne Nat I C) ∧ (@Ne Nat I D) ∧ (@Ne Nat C D)) →
      wpAny (model prog w) A (eval elt (compEnvC scope cl C env)) (CompEnd h₀ L m { s with heap := h, toks := tk } I oI C oC D (lst ys) (fun _ => True) (fun y news' => Inv (i + 1) (ys ++ [y]) news')) E' { s with heap := h, toks := tk })
    (fin : ∀ D ys h tk news, Inv txt.cps.size ys news → Fr h₀ L h m → News h₀ L h ((D, lst ys) :: news) → (∀ p ∈ news, p.1 ≠ D) → Q (.ref D) { s with heap := h, toks := tk })
    (hs : ∀ x, foldedSetIterable iter env x = pure x := by intro _; rfl) :
    wpAny (model prog w) A (eval (.ListComp elt [⟨.Name x px, iter, [], 0⟩] scope pos) env) Q E s := by
  have W : ∀ I, Walks prog w A I [I] [I] txt.cps.size (SignAt txt) (fun i h => ∃ t, h.IsStrIter I "str_ascii_iterator" txt t i) := fun I => walks_ex 0 fun t => Walks.strAscii hh I txt t
  refine comp_any (kp := []) (P := fun _ i v _ => SignAt txt i v) (Md := fun I i v h => SignAt txt i v ∧ ∃ t, h.IsStrIter I "str_ascii_iterator" txt t (i + 1))
    (St := fun I i h => ∃ t, h.IsStrIter I "str_ascii_iterator" txt t i) Inv (fun i m₂ => ∃ c t, txt.cps[i]? = some c ∧ m₂ x = some (.str ⟨#[c]⟩ t)) hclos hcell hkind hnames hsz ?src ?self ?live ?keep ?asg ?step fin hs
  case src =>
    intro R hR
    refine he _ fun t tk => ?_
    refine wpAny_pyIter_ascii ha ?_
    exact hR _ _ _ news (KTurns.ofWalks (W _) fun i v s Q E st h => wpAny_pure h) ⟨t, _, Heap.get?_push_size _ rfl, rfl, rfl⟩ ⟨_, Heap.get?_push_size _ rfl⟩ (fun b hb => nomatch hb) (F.push _) (N.grown fun _ _ e => Heap.get?_push_of_some _ e) (fun p hp => Nat.ne_of_lt (Heap.lt_size (N p hp).1)) (next_is_new F) (Nat.ne_of_lt F.ns.lt) h0
  case self => exact fun I i s₁ R E' st h => (W I).self i s₁ R E' st h
  case live => exact fun I i h ⟨t, o, e, _⟩ => ⟨o, e⟩
  case keep => exact fun b hb => nomatch hb
  case asg =>
    rintro I i _ s₁ C m₁ R E' hi ⟨c, t, hc, rfl⟩ hn hR
    exact asg_name hkind hx hn fun h' tk m₂ h1 h2 h3 => hR h' tk m₂ h1 ⟨c, t, hc, h2⟩ h3
  case step =>
    rintro I oI C oC D m₂ ys news h tk i E' hi hI hC ⟨c, t, hc, ht⟩ F N off ne
    exact step I oI C oC D m₂ ys news h tk i c t E' hc hI hC ht F N off ne
end
end Mine
end

section -- Q3
open PySem PySem.W PySem.W.X PyProof.Rows PySem.Calls
set_option Elab.async false
set_option maxRecDepth 100000
set_option maxHeartbeats 1000000
namespace Mine
theorem f_items (P : Params) : findIn (hd.heap_39 P) (.ref 108) "items" = some (some (.builtin "dict.items")) := by kernel_rfl
theorem f_itemsT (P : Params) : typeIn (hd.heap_39 P) (.builtin "dict.items") = some (.type "method_descriptor") := by kernel_rfl
theorem kind_di : builtinKind "dict.items" = some .method := by decide +kernel
theorem split_di : splitId "dict.items" = some ("dict", "items") := by decide +kernel
theorem plain_di : plainId "dict.items" = true := by decide +kernel
section
variable {w : World} {A : Around} {E : Value → Shared → Prop} {s : Shared} {x dx : Addr} {es : Array DictEntry} {ep : Nat} {od : Obj}
/-- .items() of a book: a view onto it -/
theorem items_call {Q : Value → Shared → Prop} (X : (hd.heap_39 w.params).In s.heap) (I : W.InstAt s.heap x (fdd dx es ep) 108 (some od)) (hm : (x == sysModules) = false)
    (h : Q (.ref s.heap.objs.size) { s with heap := s.heap.push { cls := .type "dict_items", data := .fields #[.ref x] } }) :
    wpAny (model Pr w) A (call (.builtin "dict.items") [.ref x]) Q E s := by
  have sub : Looks (model Pr w) s.heap (isInstance (.ref x) (.type "dict")) true := I.type.andThen (looks_mroIn X (f_subDict _))
  have t1 := type_fdd (M := model Pr w) I.1
  have t2 := inst_fdd (M := model Pr w) X I.1 (f_subOD _)
  refine wpAny_call (codeAny_call_builtin plain_di PySem.F.entry_dict_items (@check_meth (model Pr w) _ _ s "dict.items" "dict" "items" (.ref x) [] [] _ kind_di split_di sub (PySem.F.args_dict_items_1 _) ?_))
  unfold Builtin.«dict.items»
  refine wpAny_bind ?_
  unfold Builtin.Dict.noArgs Builtin.Dict.notOrdered
  refine wpAny_bind ?_
  rw [if_pos (by decide)]
  refine wpAny_bind (t1.here ?_)
  rw [if_pos (by rfl)]
  refine wpAny_bind (t2.here ?_)
  refine wpAny_pure ?_
  show wpAny _ _ (pure x) _ _ _
  refine wpAny_pure ?_
  show wpAny _ _ (Builtin.Dict.showsAll x >>= _) _ _ s
  unfold Builtin.Dict.showsAll
  rw [if_neg (by rw [hm]; exact Bool.false_ne_true)]
  refine wpAny_bind (wpAny_pure ?_)
  refine wpAny_bind (wpAny_newObj_type (wpAny_pure ?_))
  exact h
end
/-- an object that holds these entries -/
def EntAt (h : Heap) (d : Addr) (es : Array DictEntry) (ep : Nat) : Prop := ∃ o, h.get? d = some o ∧ o.data = .dict es ep
section
variable {prog : Program} {w : World} {A : Around} {E : Value → Shared → Prop} {s : Shared} {es : Array DictEntry} {ep : Nat}
theorem items_iter {v d : Addr} {Q : Value → Shared → Prop} (hv : s.heap.IsItemsView v d) (hd : EntAt s.heap d es ep)
    (hQ : Q (.ref s.heap.objs.size) { s with heap := s.heap.push { cls := .type "dict_itemiterator", data := .fields #[.none, .bool false, .ref d, .int 0 0, .int es.size 0, .int ep 0, .none, .none] } }) :
    wpAny (model prog w) A (pyIter (.ref v)) Q E s := by
  obtain ⟨ov, hov, hcv, hdv⟩ := id hv
  obtain ⟨o, ho, hdat⟩ := hd
  refine wpAny_pyIter_slot hv.typeIs PySem.F.slot_dict_items_iter (wpAny_call_entry PySem.F.slot_dict_items_iter hv.typeIs PySem.F.entry_dict_items_iter ?_ (PySem.F.args_dict_items_iter_1 _))
  unfold Builtin.«dict_items.__iter__»
  refine wpAny_bind (wpAny_pure ?_)
  refine wpAny_bind ?_
  unfold Builtin.Dict_items.dictOf
  refine wpAny_bind (wpAny_field hov hdv (x := .ref d) rfl (wpAny_pure ?_))
  refine wpAny_bind ?_
  unfold Builtin.Dict_items.newIterator
  refine wpAny_bind (wpAny_dictEntries ho hdat ?_)
  refine wpAny_bind (wpAny_dictEpoch ho hdat ?_)
  have hown : Builtin.Dict_items.ownsTuple "dict_itemiterator" = true := by decide
  simp only [hown, if_true]
  refine wpAny_newObj_type (wpAny_pure ⟨_, rfl, "dict_itemiterator", _, ⟨_, Heap.get?_push_size _ rfl, rfl⟩, PySem.F.slot_dict_itemiterator_next.lookup, ?_⟩)
    (by simp only [sizeOk, Builtin.Dict_items.ownedTupleFields, List.size_toArray, List.length_append, List.length_cons, List.length_nil, sizeLine_eq]; omega)
  simpa [rawInt, Builtin.Dict_items.ownedTupleFields] using hQ
theorem items_next {it d : Addr} {i : Nat} {e : DictEntry} {ok ov : Value} {Q : Option Value → Shared → Prop} (hit : IsItemIter s.heap it d i es.size ep ok ov) (hd : EntAt s.heap d es ep) (hx : es[i]? = some e)
    (hQ : ∀ h', IsItemIterOut h' it d (i + 1) es.size ep e.key e.val s.heap.objs.size → h'.get? s.heap.objs.size = some { cls := .type "tuple", data := .seq #[e.key, e.val] } →
      (∀ b o, b ≠ it → s.heap.get? b = some o → h'.get? b = some o) → Q (some (.ref s.heap.objs.size)) { s with heap := h' }) :
    wpAny (model prog w) A (pyNext (.ref it)) Q E s := by
  obtain ⟨hp, g, dr, tk, os⟩ := s
  obtain ⟨od, hod, hdd⟩ := id hd
  have hT : Shared.TypeIs ⟨hp, g, dr, tk, os⟩ (.ref it) "dict_itemiterator" := ⟨_, hit, rfl⟩
  unfold pyNext
  refine wpAny_bind (wpAny_attempt (wpAny_callSpecial?_slot (name := Str.ofString "__next__") hT PySem.F.slot_dict_itemiterator_next
    (wpAny_call_entry PySem.F.slot_dict_itemiterator_next hT PySem.F.entry_dict_itemiterator_next ?_ (PySem.F.args_dict_itemiterator_next_1 _))))
  refine wpAny_bind (wpAny_pure ?_)
  refine wpAny_bind ?_
  refine wpAny_bind ?_
  first | refine wpAny_bind (wpAny_typeNameOfWhole_itemiter hT (wpAny_pure ?_)) | refine wpAny_bind (wpAny_typeNameOf_itemiter hT (wpAny_pure ?_))
  refine wpAny_bind (wpAny_fieldsOf hit rfl ?_)
  have hown : Builtin.Dict_items.ownsTuple "dict_itemiterator" = true := by decide
  simp only [hown, if_true]
  show wpAny _ _ (if (Value.ref d == Value.none) = true then _ else _) _ _ _
  rw [if_neg (show ¬ ((Value.ref d == Value.none) = true) from Bool.false_ne_true)]
  refine wpAny_bind (wpAny_pure ?_)
  refine wpAny_bind (wpAny_dictEntries hod hdd ?_)
  rw [if_neg (by simp)]
  refine wpAny_bind (wpAny_pure ?_)
  refine wpAny_bind (wpAny_dictEpoch hod hdd ?_)
  rw [if_neg (by simp)]
  refine wpAny_pure ?_
  simp only [show ¬ ((i : Int) < 0) from by omega, if_false, Int.toNat_natCast, hx]
  refine wpAny_bind ?_
  first | refine wpAny_bind (wpAny_typeNameOfWhole_itemiter hT (wpAny_pure ?_)) | refine wpAny_bind (wpAny_typeNameOf_itemiter hT (wpAny_pure ?_))
  refine wpAny_bind (wpAny_isOneOf_itemiter hT ?_)
  show wpAny _ _ (setField (.ref it) 3 (rawInt ((i : Int) + 1)) >>= _) _ _ ⟨hp, g, dr, tk, os⟩
  refine wpAny_bind (wpAny_setField_rec hit (by simp) fun h₁ he₁ hs₁ => ?_)
  replace hs₁ : Heap.SameBut it hp h₁ := hs₁
  replace he₁ : IsItemIter h₁ it d (i + 1) es.size ep ok ov := by
    have e : ((i + 1 : Nat) : Int) = (i : Int) + 1 := by omega
    unfold IsItemIter; rw [e]; simpa [rawInt] using he₁
  have hT₁ : Shared.TypeIs ⟨h₁, g, dr, tk, os⟩ (.ref it) "dict_itemiterator" := ⟨_, he₁, rfl⟩
  refine wpAny_bind (wpAny_holding ?_)
  refine wpAny_bind (wpAny_isOneOf_itemiter hT₁ ?_)
  refine wpAny_bind (wpAny_isOneOf_itemiter hT₁ ?_)
  show wpAny _ _ (Builtin.Dict_items.pairFromOwner (.ref it) 6 e.key e.val) _ _ ⟨h₁, g, dr, tk, os⟩
  unfold Builtin.Dict_items.pairFromOwner
  refine wpAny_bind (wpAny_newTuple ?_)
  have he₂ : IsItemIter (h₁.push { cls := .type "tuple", data := .seq #[e.key, e.val] }) it d (i + 1) es.size ep ok ov := Heap.get?_push_of_some _ he₁
  generalize hh₂ : h₁.push { cls := .type "tuple", data := .seq #[e.key, e.val] } = h₂ at he₂
  have hz₁ : h₁.objs.size = hp.objs.size := hs₁.1
  have hil : it < hp.objs.size := Heap.lt_size hit
  have ht₂ : h₂.get? hp.objs.size = some { cls := .type "tuple", data := .seq #[e.key, e.val] } := by rw [← hh₂, ← hz₁]; exact Heap.get?_push_size _ rfl
  have hk₂ : ∀ b o, b ≠ it → hp.get? b = some o → h₂.get? b = some o := fun b o hb q => by rw [← hh₂]; exact Heap.get?_push_of_some _ (hs₁.extBut b o hb q)
  show wpAny _ _ (Builtin.Dict_items.ownedTupleIsFree (.ref it) >>= _) _ _ ⟨h₂, g, dr, tk, os⟩
  rw [hz₁]
  clear hh₂ he₁ hs₁ hT₁ hz₁ h₁
  refine wpAny_bind ?_
  unfold Builtin.Dict_items.ownedTupleIsFree
  refine wpAny_bind (wpAny_field he₂ rfl (x := .none) rfl (wpAny_pure ?_))
  simp only [if_true]
  refine wpAny_bind (wpAny_field he₂ rfl (x := ok) rfl ?_)
  refine wpAny_bind (wpAny_field he₂ rfl (x := ov) rfl ?_)
  refine wpAny_bind (wpAny_setField_rec he₂ (by simp) fun h₃ he₃ hs₃ => ?_)
  replace hs₃ : Heap.SameBut it h₂ h₃ := hs₃
  replace he₃ : IsItemIter h₃ it d (i + 1) es.size ep e.key ov := he₃
  refine wpAny_bind (wpAny_setField_rec he₃ (by simp) fun h₄ he₄ hs₄ => ?_)
  replace hs₄ : Heap.SameBut it h₃ h₄ := hs₄
  replace he₄ : IsItemIter h₄ it d (i + 1) es.size ep e.key e.val := he₄
  refine wpAny_bind (wpAny_setField_rec he₄ (by simp) fun h₅ he₅ hs₅ => ?_)
  replace hs₅ : Heap.SameBut it h₄ h₅ := hs₅
  replace he₅ : IsItemIterOut h₅ it d (i + 1) es.size ep e.key e.val hp.objs.size := he₅
  refine wpAny_bind (wpAny_setField_rec he₅ (by simp) fun h₆ he₆ hs₆ => ?_)
  replace hs₆ : Heap.SameBut it h₅ h₆ := hs₆
  replace he₆ : IsItemIterOut h₆ it d (i + 1) es.size ep e.key e.val hp.objs.size := he₆
  have hn := Nat.ne_of_gt hil
  refine wpAny_bind (wpAny_letGo (wpAny_pure (wpAny_pure ⟨_, rfl, wpAny_pure (hQ h₆ he₆ ?_ ?_)⟩)))
  · exact hs₆.extBut _ _ hn (hs₅.extBut _ _ hn (hs₄.extBut _ _ hn (hs₃.extBut _ _ hn ht₂)))
  · exact fun b o hb q => hs₆.extBut b o hb (hs₅.extBut b o hb (hs₄.extBut b o hb (hs₃.extBut b o hb (hk₂ b o hb q))))
theorem items_end {it d : Addr} {ok ov : Value} {Q : Option Value → Shared → Prop} (hh : A.handled = none) (hit : IsItemIter s.heap it d es.size es.size ep ok ov) (hd : EntAt s.heap d es ep)
    (hQ : ∀ h', Heap.ExtBut it s.heap h' → Q none { s with heap := h' }) : wpAny (model prog w) A (pyNext (.ref it)) Q E s := by
  obtain ⟨od, hod, hdd⟩ := id hd
  have hT : s.TypeIs (.ref it) "dict_itemiterator" := ⟨_, hit, rfl⟩
  unfold pyNext
  refine wpAny_bind (wpAny_attempt (wpAny_callSpecial?_slot (name := Str.ofString "__next__") hT PySem.F.slot_dict_itemiterator_next
    (wpAny_call_entry PySem.F.slot_dict_itemiterator_next hT PySem.F.entry_dict_itemiterator_next ?_ (PySem.F.args_dict_itemiterator_next_1 _))))
  refine wpAny_bind (wpAny_pure ?_)
  refine wpAny_bind ?_
  refine wpAny_bind ?_
  first | refine wpAny_bind (wpAny_typeNameOfWhole_itemiter hT (wpAny_pure ?_)) | refine wpAny_bind (wpAny_typeNameOf_itemiter hT (wpAny_pure ?_))
  refine wpAny_bind (wpAny_fieldsOf hit rfl ?_)
  have hown : Builtin.Dict_items.ownsTuple "dict_itemiterator" = true := by decide
  simp only [hown, if_true]
  show wpAny _ _ (if (Value.ref d == Value.none) = true then _ else _) _ _ s
  rw [if_neg (show ¬ ((Value.ref d == Value.none) = true) from Bool.false_ne_true)]
  refine wpAny_bind (wpAny_pure ?_)
  refine wpAny_bind (wpAny_dictEntries hod hdd ?_)
  rw [if_neg (by simp)]
  refine wpAny_bind (wpAny_pure ?_)
  refine wpAny_bind (wpAny_dictEpoch hod hdd ?_)
  rw [if_neg (by simp)]
  refine wpAny_pure ?_
  simp only [show ¬ ((es.size : Int) < 0) from by omega, if_false, Int.toNat_natCast, Array.getElem?_eq_none (Nat.le_refl _)]
  refine wpAny_bind ?_
  first | refine wpAny_bind (wpAny_typeNameOfWhole_itemiter hT (wpAny_pure ?_)) | refine wpAny_bind (wpAny_typeNameOf_itemiter hT (wpAny_pure ?_))
  show wpAny _ _ (setField (.ref it) 2 .none >>= _) _ _ s
  refine wpAny_bind (wpAny_setField hit rfl (by simp) ?_)
  show wpAny _ _ (newExc (.type "StopIteration") [] >>= _) _ _ _
  refine wpAny_bind ?_
  simp only [newExc, newTuple]
  refine wpAny_bind (wpAny_newObj_type ?_ (by size_fits))
  refine wpAny_bind (m := firstArgMember _ _) (wpAny_of_eq (a := Value.none) (by first | rfl | (simp only [firstArgMember]; rfl)) ?_)
  refine wpAny_newObj_type ?_ (by size_fits)
  simp only [raiseNew]
  refine wpAny_bind (wpAny_handled ?_)
  rw [show A.in1.handled = none from hh]
  refine wpAny_bind (wpAny_pure (wpAny_throw ?_))
  refine wpAny_bind (wpAny_isInstance (T := "StopIteration") (b := true) ⟨_, Heap.get?_push_size _ rfl, rfl⟩ isSubtype_stop ?_)
  exact wpAny_pure (hQ _ (((Heap.SameBut.update ..).extBut.push _).push _))
theorem EntAt.at' {h h' : Heap} {d : Addr} (x : EntAt h d es ep) (k : ∀ o, h.get? d = some o → h'.get? d = some o) : EntAt h' d es ep := let ⟨o, e, r⟩ := x; ⟨o, k o e, r⟩
/-- the turns over the items of any object that holds entries -/
theorem items_turns {elts : List Expr} {kk : Nat} {pos : Pos} (hh : A.handled = none) (I d : Addr) (hne : d ≠ I) :
    KTurns prog w A (.Tuple elts kk pos) I (I :: [d]) [I] es.size
      (fun i v h => ∃ T e, v = .ref T ∧ es[i]? = some e ∧ h.IsTuple T #[e.key, e.val])
      (fun i v h => ∃ T e ok ov, v = .ref T ∧ es[i]? = some e ∧ h.IsTuple T #[e.key, e.val] ∧ IsItemIterOut h I d (i + 1) es.size ep ok ov T ∧ EntAt h d es ep ∧ T ≠ I)
      (fun i h => (∃ ok ov, IsItemIter h I d i es.size ep ok ov) ∧ EntAt h d es ep) where
  sub := fun b hb => by simp at hb; simp [hb]
  frame := fun i h h' st hk => by
    obtain ⟨⟨ok, ov, he⟩, hm⟩ := st
    exact ⟨⟨ok, ov, hk I (by simp) _ he⟩, hm.at' fun o e => hk d (by simp) o e⟩
  item := fun i s Q E hi st hQ => by
    obtain ⟨⟨ok, ov, he⟩, hm⟩ := st
    have hx : es[i]? = some es[i] := Array.getElem?_eq_getElem hi
    refine items_next he hm hx fun h' ho hT hk => ?_
    exact hQ (.ref s.heap.objs.size) h' s.toks ⟨s.heap.objs.size, _, _, _, rfl, hx, ⟨_, hT, rfl, _, rfl⟩, ho, hm.at' (fun o e => hk d o hne e), Nat.ne_of_gt (Heap.lt_size he)⟩ fun b o hb e => hk b o (fun h => hb (by simp [h])) e
  go := fun i v s Q E hm hQ => by
    obtain ⟨T, e, ok, ov, rfl, hx, hT, ho, hd, hTI⟩ := hm
    refine wpAny_letOwnedTupleGo_items ho fun h' he hs => ?_
    exact hQ h' ⟨T, e, rfl, hx, hT.at fun o q => hs.extBut T o hTI q⟩ ⟨⟨ok, ov, he⟩, hd.at' fun o q => hs.extBut d o hne q⟩ fun b o hb q => hs.extBut b o (fun h => hb (by simp [h])) q
  done := fun s Q E st hQ => by
    obtain ⟨⟨ok, ov, he⟩, hm⟩ := st
    exact items_end hh he hm fun h' hx => hQ h' s.toks fun b o hb e => hx b o (fun h => hb (by simp [h])) e
end
end Mine
end

section -- Q4
open PySem PySem.W PySem.W.X PyProof.Rows PySem.Calls PyProof.Rows.LCg
set_option Elab.async false
set_option maxRecDepth 100000
set_option maxHeartbeats 1000000
namespace Mine
section
variable {prog : Program} {w : World} {A : Around} {E : Value → Shared → Prop} {s : Shared} {h₀ : Heap} {L : Addr} {m : Str → Option Value} {env : Env}
  {iter elt : Expr} {scope : Scope} {cl : List (Str × Addr)} {pos : Pos} {Q : Value → Shared → Prop} {a b : Str} {pa pb tp : Pos} {kk : Nat} {news : List (Addr × Obj)} {x dx : Addr} {es : Array DictEntry} {ep : Nat}
/-- over the items of a book -/
theorem comp_items (Inv : Nat → List Value → List (Addr × Obj) → Prop) (hh : A.handled = none)
    (hclos : closureFor scope env = pure cl) (hcell : ∀ y ∈ scope.names, y.2 ≠ .cell) (hkind : scope.kind = .function) (hnames : ∀ y ∈ scope.names, y.2 = .local → scope.names.lookup y.1 = some .local)
    (hxa : scope.names.lookup a = some .local) (hxb : scope.names.lookup b = some .local) (hab : ¬ a = b) (hsz : es.size ≤ sizeLine)
    (keep : ∀ i ys nw, Inv i ys nw → (x, fdd dx es ep) ∈ nw)
    (he : ∀ R : Value → Shared → Prop, (∀ v h tk, h.IsItemsView v x → Fr h₀ L h m → News h₀ L h news → R (.ref v) { s with heap := h, toks := tk }) → wpAny (model prog w) A (eval iter env) R E s)
    (h0 : Inv 0 [] news)
    (step : ∀ I oI C oC D m₂ ys news h tk i e (E' : Value → Shared → Prop), es[i]? = some e → Inv i ys news → NsObj oC m₂ → m₂ a = some e.key → m₂ b = some e.val → Fr h₀ L h m → News h₀ L h ((I, oI) :: (C, oC) :: (D, lst ys) :: news) → Off3 I C D news → ((@Ne Nat I C) ∧ (@Ne Nat I D) ∧ (@Ne Nat C D)) →
      wpAny (model prog w) A (eval elt (compEnvC scope cl C env)) (CompEnd h₀ L m { s with heap := h, toks := tk } I oI C oC D (lst ys) (fun _ => True) (fun y news' => Inv (i + 1) (ys ++ [y]) news')) E' { s with heap := h, toks := tk })
    (fin : ∀ D ys h tk news, Inv es.size ys news → Fr h₀ L h m → News h₀ L h ((D, lst ys) :: news) → (∀ p ∈ news, p.1 ≠ D) → Q (.ref D) { s with heap := h, toks := tk })
    (hs : ∀ x, foldedSetIterable iter env x = pure x := by intro _; rfl) :
    wpAny (model prog w) A (eval (.ListComp elt [⟨.Tuple [.Name a pa, .Name b pb] kk tp, iter, [], 0⟩] scope pos) env) Q E s := by
  refine comp_any (kp := [x]) (P := fun _ i v h => ∃ T e, v = .ref T ∧ es[i]? = some e ∧ h.IsTuple T #[e.key, e.val])
    (Md := fun I i v h => ∃ T e ok ov, v = .ref T ∧ es[i]? = some e ∧ h.IsTuple T #[e.key, e.val] ∧ IsItemIterOut h I x (i + 1) es.size ep ok ov T ∧ EntAt h x es ep ∧ T ≠ I)
    (St := fun I i h => (∃ ok ov, IsItemIter h I x i es.size ep ok ov) ∧ EntAt h x es ep) Inv (fun i m₂ => ∃ e, es[i]? = some e ∧ m₂ a = some e.key ∧ m₂ b = some e.val) hclos hcell hkind hnames hsz ?src ?self ?live ?keep ?asg ?step fin hs
  case src =>
    intro R hR
    refine he _ fun v h tk hv F N => ?_
    have hx := (N _ (keep _ _ _ h0)).1
    have hlt : x < h.objs.size := Heap.lt_size hx
    refine items_iter hv ⟨_, hx, rfl⟩ ?_
    refine hR _ _ _ news (items_turns hh _ _ (Nat.ne_of_lt hlt)) ⟨⟨_, _, Heap.get?_push_size _ rfl⟩, _, Heap.get?_push_of_some _ hx, rfl⟩ ⟨_, Heap.get?_push_size _ rfl⟩ (fun b hb => ?_) (F.push _) (N.grown fun _ _ e => Heap.get?_push_of_some _ e) (fun p hp => Nat.ne_of_lt (Heap.lt_size (N p hp).1)) (next_is_new F) (Nat.ne_of_lt F.ns.lt) h0
    rw [List.mem_singleton.mp hb]
    refine ⟨Nat.ne_of_lt hlt, ?_⟩
    show x < (h.push _).objs.size
    rw [Heap.size_push]; exact Nat.lt_succ_of_lt hlt
  case self => exact fun I i s₁ R E' st h => let ⟨⟨ok, ov, q⟩, _⟩ := st; kcp_self q h
  case live => exact fun I i h st => let ⟨⟨ok, ov, q⟩, _⟩ := st; ⟨_, q⟩
  case keep => exact fun b hb => ⟨fdd dx es ep, fun i ys nw h hI F N => by rw [List.mem_singleton.mp hb]; exact (N _ (keep _ _ _ hI)).1⟩
  case asg =>
    rintro I i _ s₁ C m₁ R E' hi ⟨T, e, rfl, he, hT⟩ hn hR
    exact kcp_assign (env := compEnvC scope cl C env) hh hT (lookup_relabel_local hxa) (lookup_relabel_local hxb) (by simp [compEnvC, relabel, hkind]) hn fun h' tk hn' hk => hR h' tk _ hn' ⟨e, he, by simp [hab], by simp⟩ hk
  case step =>
    rintro I oI C oC D m₂ ys news h tk i E' hi hI hC ⟨e, he, h1, h2⟩ F N off ne
    exact step I oI C oC D m₂ ys news h tk i e E' he hI hC h1 h2 F N off ne
end
section
variable {w : World} {dp un : Nat} {cn : Str} {cs : Scope} {a : Addr} {ccd : Value} {cl : List (Str × Addr)} {outer : List Env} {A₀ : Around} {base h₀ : Heap} {L : Addr} {m mg mb : Str → Option Value} {s : Shared} {Q E : Value → Shared → Prop} {n nw : List (Addr × Obj)} {p : Program} {loose : List Str} {mean : ExcName → Option Value}
variable {κ : Type} [DecidableEq κ] {knd : PySem.KeyKind Pr w κ} {k : κ} {key : Value} {x dx : Addr} {ks : List (κ × Addr)} {value slice : Expr} {rows : List (κ × List Dat)}
/-- a frozen book is asked -/
theorem ask_book (B : Below A₀ base outer h₀) (F : Fr h₀ L s.heap m) (X : (hd.heap_39 w.params).In h₀) (N : News h₀ L s.heap n) (T : Top p loose mean mg mb h₀) (hk : cs.kind = .function)
    (hdp : dp + 2 ≤ 400) (hun : un + 21 ≤ 100) (b : Book knd n x dx ks true) (hkey : knd.is k key = true) (r : RowsL nw ks rows) (hsm : ks.length < 1000)
    (hq : ∀ l pre h' t', Fr h₀ L h' m → News h₀ L h' (pre ++ n) → (∀ q ∈ pre, ∀ z ∈ n, q.1 ≠ z.1) → DatIn (pre ++ nw) (.ref l) (.list ((bfind rows k).getD [])) → Q (.ref l) { s with heap := h', toks := t' })
    (hs : subscripted slice false (.ref x) key = operate [.ref x, key] (getItem (.ref x) key) := by with_unfolding_all rfl) :
    wpAny (model Challenge.rw_in0191_01.row.prog w) (ktrTop dp un (some []) cn cs L a ccd cl outer) (subscriptTail value slice (.ref x) key) Q E s := by
  obtain ⟨f1, f2⟩ := rows_find (k := k) r
  refine sub_book B F X N T hk hdp hun b hkey (fun l hl t' => ?_) (fun hn hf l n' h' t' F' N' _ _ _ _ => ?_) (fun hn hf l h' t' F' N' hfr => ?_) hsm hs
  · obtain ⟨_, vs, j, ds, hm, hd, hr⟩ := f2 l hl
    refine hq l [] s.heap t' F N (fun q hq => nomatch hq) ?_
    rw [hr]
    exact .list hm (hd.mono fun q hq => tups_sub q hq)
  · cases hf
  · refine hq l [(l, W.listOf #[] 0)] h' t' F' N' (fun q hq z hz => ?_) ?_
    · rw [List.mem_singleton.mp hq]; exact hfr z hz
    · rw [f1 hn]
      exact .list (vs := []) (.head _) .nil
end
/-- the rows as data -/
def tRow (q : Int × List Dat) : Dat := .list [.int q.1, .list q.2]
def fRow (q : Str × List Dat) : Dat := .list [.str q.1, .list q.2]
def askT (st : PS) (i : Nat) : Dat := .list ((bfind st.types (4096 * (i : Int))).getD [])
def askF (st : PS) (x : Str) : Dat := .list ((bfind st.firsts x).getD [])
def signsTxt : Str := "pcdb-ls?"
def signAt (i : Nat) : Str := ⟨#[signsTxt.cps.getD i 0]⟩
def askedL (st : PS) : List Dat := (List.range 16).map (askT st) ++ (List.range 8).map fun i => askF st (signAt i)
def resDat (st : PS) : Dat := .tuple [.list (askedL st), .list (st.types.map tRow), .list (st.firsts.map fRow)]
end Mine
end

section -- Q5
open PySem PySem.W PySem.W.X PyProof.Rows PySem.Calls PyProof.Rows.LCg
set_option Elab.async false
set_option maxRecDepth 100000
set_option maxHeartbeats 1000000
namespace Mine
section
variable {κ : Type} [DecidableEq κ] {w : World} {knd : PySem.KeyKind Pr w κ}
theorem bookL_get : ∀ {es : List DictEntry} {ks : List (κ × Addr)} {i : Nat} {e : DictEntry}, BookL knd es ks → es[i]? = some e → ∃ p : κ × Addr, ks[i]? = some p ∧ knd.is p.1 e.key = true ∧ e.val = .ref p.2
  | [], [], _, _, _, h => by simp at h
  | [], _ :: _, _, _, h, _ => h.elim
  | _ :: _, [], _, _, h, _ => h.elim
  | e :: r, p :: q, 0, _, h, he => by
    simp at he; subst he
    exact ⟨p, rfl, h.1.1, h.1.2.2⟩
  | e :: r, p :: q, i + 1, e', h, he => by
    obtain ⟨z, a, b⟩ := bookL_get (i := i) h.2 (by simpa using he)
    exact ⟨z, by simpa using a, b⟩
theorem rowsL_get {n : List (Addr × Obj)} : ∀ {ks : List (κ × Addr)} {rows : List (κ × List Dat)} {i : Nat} {p : κ × Addr}, RowsL n ks rows → ks[i]? = some p → ∃ q : κ × List Dat, rows[i]? = some q ∧ p.1 = q.1 ∧ DatIn n (.ref p.2) (.list q.2)
  | [], [], _, _, _, h => by simp at h
  | [], _ :: _, _, _, h, _ => h.elim
  | _ :: _, [], _, _, h, _ => h.elim
  | p :: r, q :: r', 0, _, h, hp => by
    simp at hp; subst hp
    obtain ⟨e, vs, j, hm, hd⟩ := h.1
    exact ⟨q, rfl, e, .list hm (hd.mono fun q hq => tups_sub q hq)⟩
  | p :: r, q :: r', i + 1, p', h, hp => by
    obtain ⟨z, a, b⟩ := rowsL_get (i := i) h.2 (by simpa using hp)
    exact ⟨z, by simpa using a, b⟩
theorem rowsL_len {n : List (Addr × Obj)} : ∀ {ks : List (κ × Addr)} {rows : List (κ × List Dat)}, RowsL n ks rows → ks.length = rows.length
  | [], [], _ => rfl
  | [], _ :: _, h => h.elim
  | _ :: _, [], h => h.elim
  | _ :: r, _ :: r', h => by simp [rowsL_len h.2]
/-- what the items of a book hand out -/
theorem book_item {n : List (Addr × Obj)} {es : Array DictEntry} {ks : List (κ × Addr)} {rows : List (κ × List Dat)} {i : Nat} {e : DictEntry} (b : BookOf knd es ks) (r : RowsL n ks rows) (h : es[i]? = some e) :
    ∃ (q : κ × List Dat) (l : Addr), rows[i]? = some q ∧ knd.is q.1 e.key = true ∧ e.val = .ref l ∧ DatIn n (.ref l) (.list q.2) := by
  obtain ⟨p, h1, h2, h3⟩ := bookL_get (i := i) b (by simpa using h)
  obtain ⟨q, g1, g2, g3⟩ := rowsL_get r h1
  exact ⟨q, p.2, g1, g2 ▸ h2, h3, g3⟩
theorem book_size {n : List (Addr × Obj)} {es : Array DictEntry} {ks : List (κ × Addr)} {rows : List (κ × List Dat)} (b : BookOf knd es ks) (r : RowsL n ks rows) : es.size = ks.length ∧ es.size = rows.length := by
  have z := bookL_len b
  rw [Array.length_toList] at z
  exact ⟨z, z.trans (rowsL_len r)⟩
end
theorem take_succ {α : Type} {l : List α} {i : Nat} {x : α} (h : l[i]? = some x) : l.take (i + 1) = l.take i ++ [x] := by rw [List.take_add_one, h]; rfl
theorem shadow_items {od : Obj} (h : od = dictOf [] 0 ∨ ∃ hh tf f₀, od = frz hh tf f₀) : shadowIn (some od) "items" = some false := by
  rcases h with rfl | ⟨_, _, _, rfl⟩
  · rfl
  · rfl
/-- one turn's end of a comprehension: what it made goes ahead of the ledger -/
theorem comp_turn {h₀ : Heap} {L I C D : Addr} {m : Str → Option Value} {s₁ : Shared} {oI oC oD : Obj} {S : List (Addr × Obj) → Prop} {rest : Value → List (Addr × Obj) → Prop} {y : Value} {h' : Heap} {tk : Nat} {all pre nw : List (Addr × Obj)}
    (F : Fr h₀ L h' m) (N : News h₀ L h' all) (mI : (I, oI) ∈ all) (mC : (C, oC) ∈ all) (mD : (D, oD) ∈ all) (mp : ∀ p ∈ pre, p ∈ all) (mn : ∀ p ∈ nw, p ∈ all) (off : Off3 I C D nw) (hfr : ∀ p ∈ pre, p.1 ≠ I ∧ p.1 ≠ C ∧ p.1 ≠ D) (hS : S (pre ++ nw)) (r : rest y (pre ++ nw)) :
    CompEnd h₀ L m s₁ I oI C oC D oD S rest y { s₁ with heap := h', toks := tk } :=
  CompEnd.intro F N (pre ++ nw) (fun p hp => by
    rcases List.mem_cons.mp hp with rfl | hp
    · exact mI
    rcases List.mem_cons.mp hp with rfl | hp
    · exact mC
    rcases List.mem_cons.mp hp with rfl | hp
    · exact mD
    rcases List.mem_append.mp hp with hp | hp
    · exact mp p hp
    · exact mn p hp) (Off3.of fun p hp => by
    rcases List.mem_append.mp hp with hp | hp
    · exact hfr p hp
    · exact off.mem p hp) hS r
end Mine
end

section -- L1
open PySem PySem.W PySem.W.X PyProof.Rows PySem.Calls PyProof.Rows.LCg
set_option Elab.async false
set_option maxRecDepth 100000
set_option maxHeartbeats 1000000
namespace Mine
theorem fm_len (x : Int) : (fmText x).length = 10 := by
  unfold fmText
  rw [KT.join_ones _ (picks_one x 0 table_one), picks_len]
  rfl
theorem name_len : ∀ i : Nat, i < 30 → (nameOf (i : Int)).length ≤ 7 := by decide +kernel
theorem f_freeze (P : Params) : findIn (hd.heap_39 P) (.ref 108) "freeze" = some (some (.ref 105)) := by kernel_rfl
theorem f_freezeT (P : Params) : typeIn (hd.heap_39 P) (.ref 105) = some (.type "function") := by kernel_rfl
theorem shadow_own {od : Obj} (h : od = dictOf [] 0 ∨ ∃ hh tf f₀, od = frz hh tf f₀) : shadowIn (some od) "freeze" = some false := by
  rcases h with rfl | ⟨_, _, _, rfl⟩
  · rfl
  · rfl
theorem itself_keep (f : Value) : keeperOf (.ref 105) = keeperOf (.ref 105) := rfl
section
variable {M : Model} {A : Around} {E : Value → Shared → Prop} {s : Shared} {h₀ : Heap} {L a : Addr} {m : Str → Option Value} {cn : Str} {cs : Scope} {ccd : Value} {cl : List (Str × Addr)}
  {x : Str} {v : Value} {Q : Unit → Shared → Prop} {news : List (Addr × Obj)} {c : Addr} {o : Obj} {v₀ : Option Value}
theorem store_cell (F : Fr h₀ L s.heap m) (N : News h₀ L s.heap news) (hc : cl.lookup x = some c) (hm : (c, o) ∈ news) (hd : o.data = .cell v₀)
    (h : ∀ h' o', Fr h₀ L h' m → News h₀ L h' ((c, o') :: offL c news) → o'.data = .cell (some v) → Q () { s with heap := h' })
    (hk : cs.kind = .function := by rfl) (hx : (envX cn cs L a ccd cl).kindOf x = some .cell := by rfl) : wpAny M A (storeName (envX cn cs L a ccd cl) x v) Q E s :=
  storeX_C F (news_offL N hm) hc (.head offL_ne) hd (fun h' o' F' N' d' => h h' o' F' N' d') hk hx
end
theorem run_walk : ∀ {w : World} {dp un : Nat} {cn : Str} {cs : Scope} {a : Addr} {ccd : Value} {cl : List (Str × Addr)} {outer : List Env} {A₀ : Around} {base h₀ : Heap} {L : Addr} {m mg mb : Str → Option Value} {s : Shared} {Q E : Value → Shared → Prop} {news : List (Addr × Obj)} {p : Program} {loose : List Str} {mean : ExcName → Option Value} {lot : Addr} {ws : List Value} {ns : List Int},
    Below A₀ base outer h₀ → Fr h₀ L s.heap m → (Mine.hd.heap_39 w.params).In h₀ → News h₀ L s.heap news → Top p loose mean mg mb h₀ → cs.kind = .function →
    dp + 50 ≤ 400 → un + 90 ≤ 100 → (lot, W.listOf ws.toArray 0) ∈ news → (100, tabObj #[]) ∈ news → CodeHd h₀ 104 100 → IntsAre ws ns → (∀ n ∈ ns, 0 ≤ n ∧ n < 73728) → ns.length ≤ 30 → (psAt ns ns.length).tg = false → (psAt ns ns.length).fg = false →
    (∀ (v : Value) (h' : Heap) (tk' : Nat) (n' : List (Addr × Obj)), Fr h₀ L h' m → News h₀ L h' n' → (∀ q ∈ news, q.1 ≠ 100 → q ∈ n') → DatIn n' v (resDat (psAt ns ns.length)) → TabOk w.params n' → Q v { s with heap := h', toks := tk' }) →
    wpAny (model Challenge.rw_in0191_01.row.prog w) (ktrTop dp un (some []) cn cs L a ccd cl outer) (call (.ref 279) [.ref lot]) Q E s := by
  k_fill
  intro w dp un cn cs a ccd cl outer A₀ base h₀ L m mg mb s Q E news p loose mean lot ws ns B F X N T hk hdp hun hlot h100 codeHd hws hns hlen htg hfg hq
  refine wpAny_call ?_
  k_dflt (refine' code_defC ?k1 ?k2 ?k3 ?k4 ?k5 ?kA ?kF ?kK ?k6 ?k7 ?k8 ?k9 ?kB ?kD ?_ ?c2 ?c3 ?c4; (case kA => exact rfl); (case kF => exact rfl); (case kK => assumption); (case k1 => k_asm); (case k2 => k_asm); (case k3 => k_asm); (case k4 => k_asm); (case k5 => k_asm); (case k6 => k_is); (case k7 => k_is); (case k8 => show dp < 1000; omega); (case k9 => exact BindsTo.of_eq rfl); (case kB => exact rfl); (case kD => decide +kernel); (case c2 => exact rfl); (case c3 => exact rfl); (case c4 => exact rfl); k_whole; intro g' L' h' tk' cells' FG' F' N' Y' B' X' T' l1; k_cells Y'; (try simp only [List.cons_append, List.nil_append] at N'); (try dsimp only))
  rename_i oS oT dS dT
  iterate 9 walk1
  refine fdd_make (dp := dp + 1) (un := un + 3) X' F' N' (by omega) (by omega) fun x1 d1 h₂ t₂ F₂ N₂ hlt1 hx1 hd1 => ?_
  refine store_cell (s := Shared.mk h₂ _ _ _ _) F₂ N₂ rfl (.tail _ (.tail _ (.tail _ (.head _)))) dT fun h₃ oT' F₃ N₃ dT' => ?_
  iterate 10 walk1
  refine fdd_make (dp := dp + 1) (un := un + 3) (s := Shared.mk h₃ _ _ _ _) X' F₃ N₃ (by omega) (by omega) fun x2 d2 h₄ t₄ F₄ N₄ hlt2 hx2 hd2 => ?_
  have mS : (L' + 1 + 1, oS) ∈ (x2, fdd d2 #[] 0) :: (d2, dictOf [] 0) :: (L' + 1, oT') :: offL (L' + 1) ((x1, fdd d1 #[] 0) :: (d1, dictOf [] 0) :: (L' + 1 + 1, oS) :: (L' + 1, oT) :: news) :=
    .tail _ (.tail _ (.tail _ (List.mem_filter.mpr ⟨.tail _ (.tail _ (.head _)), decide_eq_true (Nat.succ_ne_self (L' + 1))⟩)))
  refine store_cell (s := Shared.mk h₄ _ _ _ _) F₄ N₄ rfl mS dS fun h₅ oS' F₅ N₅ dS' => ?_
  have hLp : ∀ q ∈ news, q.1 ≠ (L' + 1 : Addr) := fun q hq => Nat.ne_of_lt (Nat.lt_succ_of_lt (l1 q hq))
  have hLq : ∀ q ∈ news, q.1 ≠ (L' + 1 + 1 : Addr) := fun q hq => Nat.ne_of_lt (Nat.lt_succ_of_lt (Nat.lt_succ_of_lt (l1 q hq)))
  have mOld : ∀ q ∈ news, q ∈ (L' + 1, oT') :: offL (L' + 1) ((x1, fdd d1 #[] 0) :: (d1, dictOf [] 0) :: (L' + 1 + 1, oS) :: (L' + 1, oT) :: news) := fun q hq =>
    .tail _ (List.mem_filter.mpr ⟨.tail _ (.tail _ (.tail _ (.tail _ hq))), decide_eq_true (hLp q hq)⟩)
  have mX1 : (x1, fdd d1 #[] 0) ∈ (L' + 1, oT') :: offL (L' + 1) ((x1, fdd d1 #[] 0) :: (d1, dictOf [] 0) :: (L' + 1 + 1, oS) :: (L' + 1, oT) :: news) :=
    .tail _ (List.mem_filter.mpr ⟨.head _, decide_eq_true (hx1 (L' + 1, oT) (.tail _ (.head _)))⟩)
  have mD1 : (d1, dictOf [] 0) ∈ (L' + 1, oT') :: offL (L' + 1) ((x1, fdd d1 #[] 0) :: (d1, dictOf [] 0) :: (L' + 1 + 1, oS) :: (L' + 1, oT) :: news) :=
    .tail _ (List.mem_filter.mpr ⟨.tail _ (.head _), decide_eq_true (hd1 (L' + 1, oT) (.tail _ (.head _)))⟩)
  have hX1 : ∀ q ∈ news, q.1 ≠ x1 := fun q hq => (hx1 q (.tail _ (.tail _ hq))).symm
  have hD1 : ∀ q ∈ news, q.1 ≠ d1 := fun q hq => (hd1 q (.tail _ (.tail _ hq))).symm
  have hX2 : ∀ q ∈ news, q.1 ≠ x2 := fun q hq => (hx2 q (mOld q hq)).symm
  have hD2 : ∀ q ∈ news, q.1 ≠ d2 := fun q hq => (hd2 q (mOld q hq)).symm
  have hx12 : x1 ≠ x2 := (hx2 _ mX1).symm
  have hd12 : d1 ≠ d2 := (hd2 _ mD1).symm
  refine wpAny_execs_cons ?_
  have J0 : RunSt w news (L' + 1) (L' + 1 + 1) x1 d1 x2 d2 (psAt ns 0) 0 ((L' + 1 + 1, oS') :: offL (L' + 1 + 1) ((x2, fdd d2 #[] 0) :: (d2, dictOf [] 0) :: (L' + 1, oT') :: offL (L' + 1) ((x1, fdd d1 #[] 0) :: (d1, dictOf [] 0) :: (L' + 1 + 1, oS) :: (L' + 1, oT) :: news))) := by
    have nS : ∀ {q : Addr × Obj}, q.1 ≠ (L' + 1 + 1 : Addr) → q ∈ (x2, fdd d2 #[] 0) :: (d2, dictOf [] 0) :: (L' + 1, oT') :: offL (L' + 1) ((x1, fdd d1 #[] 0) :: (d1, dictOf [] 0) :: (L' + 1 + 1, oS) :: (L' + 1, oT) :: news) → q ∈ (L' + 1 + 1, oS') :: offL (L' + 1 + 1) ((x2, fdd d2 #[] 0) :: (d2, dictOf [] 0) :: (L' + 1, oT') :: offL (L' + 1) ((x1, fdd d1 #[] 0) :: (d1, dictOf [] 0) :: (L' + 1 + 1, oS) :: (L' + 1, oT) :: news)) := fun h hq => .tail _ (List.mem_filter.mpr ⟨hq, decide_eq_true h⟩)
    have sx1 : x1 ≠ (L' + 1 + 1 : Addr) := hx1 (L' + 1 + 1, oS) (.head _)
    have sd1 : d1 ≠ (L' + 1 + 1 : Addr) := hd1 (L' + 1 + 1, oS) (.head _)
    have mS' : (L' + 1 + 1, oS) ∈ (L' + 1, oT') :: offL (L' + 1) ((x1, fdd d1 #[] 0) :: (d1, dictOf [] 0) :: (L' + 1 + 1, oS) :: (L' + 1, oT) :: news) :=
      .tail _ (List.mem_filter.mpr ⟨.tail _ (.tail _ (.head _)), decide_eq_true (Nat.succ_ne_self (L' + 1))⟩)
    have sx2 : x2 ≠ (L' + 1 + 1 : Addr) := hx2 _ mS'
    have sd2 : d2 ≠ (L' + 1 + 1 : Addr) := hd2 _ mS'
    have zero : ∀ {d : Addr} {o : Obj} {h : Heap} {n : List (Addr × Obj)}, News g' L' h n → (d, o) ∈ n → d ≠ 0 := fun {d o h n} Nn hm e => by
      obtain ⟨ob, es, ep, hb, _⟩ := T'.b
      have z := (Nn _ hm).2.2
      rw [show ((d, o) : Addr × Obj).1 = builtinsNs from e, hb] at z
      cases z
    have two : ∀ {x d : Addr}, d < x → d ≠ 0 → (x == sysModules) = false := fun {x d} h h0 => by
      have h1 : x ≠ sysModules := fun e => by
        have e2 : x = 1 := e
        rw [e2] at h
        exact h0 (Nat.lt_one_iff.mp h)
      simpa using h1
    refine ⟨⟨oT', nS (Nat.ne_of_lt (Nat.lt_succ_self (L' + 1))) (.tail _ (.tail _ (.head _))), dT'⟩, ⟨oS', .head _, dS'⟩, ⟨[], [], ⟨⟨_, _, nS sx1 (.tail _ (.tail _ mX1)), trivial⟩, .inr ⟨rfl, nS sd1 (.tail _ (.tail _ mD1))⟩, two hlt1 (zero N₂ (.tail _ (.head _))), Nat.zero_le _⟩, ⟨⟨_, _, nS sx2 (.head _), trivial⟩, .inr ⟨rfl, nS sd2 (.tail _ (.head _))⟩, two hlt2 (zero N₄ (.tail _ (.head _))), Nat.zero_le _⟩, trivial, trivial, List.nodup_nil, Nat.zero_le _, Nat.zero_le _, fun z hz => (nomatch hz)⟩, .inl (nS (hLq _ h100) (.tail _ (.tail _ (mOld _ h100)))), fun q hq _ => nS (hLq q hq) (.tail _ (.tail _ (mOld q hq))), hx12, hd12⟩
  refine forEnum (l := lot) (items := ws.toArray) (St := fun it i h => h.IsListIter it lot i ∧ h.IsList lot ws.toArray)
    (fun i m₁ n₁ => RunSt w news (L' + 1) (L' + 1 + 1) x1 d1 x2 d2 (psAt ns i) i n₁)
    (fun it hne => Draws.list rfl it lot hne ws.toArray) F₅ N₅ J0 ?keep ?hl ?step ?last ?he
  case keep =>
    intro i m₁ n₁ h o J F₆ N₆ ho
    have hl100 : lot ≠ 100 := news_neC N hlot h100 (by intro e; cases e)
    have z1 := (N₅ _ (J0.old _ hlot hl100)).1
    have z2 := Option.some.inj (ho.symm.trans z1)
    rw [z2]; exact (N₆ _ (J.old _ hlot hl100)).1
  case hl => exact ⟨_, (N₅ _ (J0.old _ hlot (news_neC N hlot h100 (by intro e; cases e)))).1⟩
  case he =>
    intro R hR
    have hl5 := (N₅ _ (J0.old _ hlot (news_neC N hlot h100 (by intro e; cases e)))).1
    have hlt5 := Heap.lt_size hl5
    iterate 6 walk1
    refine call_enumerate_list ⟨_, hl5, rfl, 0, rfl⟩ fun h₆ hE hI hsz hk6 => ?_
    refine hR _ _ h₆ _ hE ⟨hI, ⟨_, hk6 _ _ hl5, rfl, 0, rfl⟩⟩ (Nat.ne_of_lt hlt5) (Nat.succ_ne_self _) (Heap.get?_none_of_le (Nat.le_succ _)) (Heap.get?_none_of_le (Nat.le_refl _)) hk6
  case last =>
    rintro m₁ n₁ h₆ tk₆ J F₆ N₆
    have hsz : ws.toArray.size = ns.length := by rw [List.size_toArray]; exact hws.length
    rw [hsz] at J
    clear F₅ N₅ F₄ N₄ F₃ N₃ F₂ N₂ 
    obtain ⟨oT₁, hcT, hdT⟩ := J.cT
    obtain ⟨oS₁, hcS, hdS⟩ := J.cS
    obtain ⟨ks1, ks2, RK, hl1, hl2⟩ := J.toK
    have bT : Book (PySem.intKind Pr w) n₁ x1 d1 ks1 true := by have z := RK.b1; rw [htg] at z; exact z
    have bS : Book (PySem.strKind Pr w) n₁ x2 d2 ks2 true := by have z := RK.b2; rw [hfg] at z; exact z
    refine wpAny_execs_nil ?_
    dsimp only
    iterate 3 walk1
    refine comp_range (h₀ := g') (L := L') (m := m₁) (n := 16) (a := 0) (b := 16) (news := n₁) (fun i ys nw => (∀ q ∈ n₁, q ∈ nw) ∧ DatAll nw ys ((List.range i).map (askT (psAt ns ns.length)))) rfl (by with_unfolding_all rfl) (by decide) (by rfl) (by decide) (by rfl) (by rw [sizeLine_eq]; decide) (by decide) (by rfl) ?he1 ⟨fun q h => h, .nil⟩ ?step1 ?fin1
    case he1 =>
      intro R hR
      iterate 6 walk1
      iterate 3 (try walk1)
      exact hR _ _ _ _ _ _ (by assumption) (by assumption) (by assumption)
    case step1 =>
      rintro I oI C oC D m₂ ys nw h tk i t E' hi ⟨hsub, hdat⟩ hC hx F N off ne
      have N2 : News g' L' h ((L' + 1, oT₁) :: (I, oI) :: (C, oC) :: (D, LCg.lst ys) :: nw) := cb_drop N fun q hq => by
        rcases List.mem_cons.mp hq with rfl | hq
        · exact .tail _ (.tail _ (.tail _ (hsub _ hcT)))
        · exact hq
      clear N
      iterate 6 walk1
      refine ask_book (dp := dp + 1) (un := un + 3) (k := 4096 * (i : Int)) (rows := (psAt ns ns.length).types) (nw := nw) B' F X' N2 T' rfl (by omega) (by omega) (bT.keep (fun q hq _ => .tail _ (.tail _ (.tail _ (.tail _ (hsub q hq))))) (fun q hq _ _ => .tail _ (.tail _ (.tail _ (.tail _ (hsub q hq))))) (fun q hq _ _ => .tail _ (.tail _ (.tail _ (.tail _ (hsub q hq)))))) (by rw [Int.zero_add]; exact intKind_is _ _ _ _) (rows_mono hsub RK.r1) (by omega) fun l pre h' t' F' N' hfr hd => ?_
      refine LCg.CompEnd.intro F' N' (pre ++ nw) (fun p hp => ?_) (LCg.Off3.of fun p hp => ?_) trivial ⟨fun q hq => List.mem_append_right _ (hsub q hq), ?_⟩
      · rcases List.mem_cons.mp hp with rfl | hp
        · exact List.mem_append_right _ (.tail _ (.head _))
        rcases List.mem_cons.mp hp with rfl | hp
        · exact List.mem_append_right _ (.tail _ (.tail _ (.head _)))
        rcases List.mem_cons.mp hp with rfl | hp
        · exact List.mem_append_right _ (.tail _ (.tail _ (.tail _ (.head _))))
        rcases List.mem_append.mp hp with hp | hp
        · exact List.mem_append_left _ hp
        · exact List.mem_append_right _ (.tail _ (.tail _ (.tail _ (.tail _ hp))))
      · rcases List.mem_append.mp hp with hp | hp
        · exact ⟨hfr p hp _ (.tail _ (.head _)), hfr p hp _ (.tail _ (.tail _ (.head _))), hfr p hp _ (.tail _ (.tail _ (.tail _ (.head _))))⟩
        · exact off.mem p hp
      · rw [List.range_succ, List.map_append]
        exact (hdat.mono fun q hq => List.mem_append_right _ hq).append (.one hd)
    case fin1 =>
      rintro D1 ys1 h₇ tk₇ nw1 ⟨hsub1, hdat1⟩ F₇ N₇ hD1
      dsimp only
      refine comp_str (h₀ := g') (L := L') (m := m₁) (txt := signsTxt) (news := (D1, LCg.lst ys1) :: nw1) (fun i ys nw => (∀ q ∈ (D1, LCg.lst ys1) :: nw1, q ∈ nw) ∧ DatAll nw ys ((List.range i).map fun i => askF (psAt ns ns.length) (signAt i))) rfl (by decide +kernel) (by with_unfolding_all rfl) (by decide) (by rfl) (by decide) (by rfl) (by rw [sizeLine_eq]; decide +kernel) F₇ N₇ ?he2 ⟨fun q h => h, .nil⟩ ?step2 ?fin2
      case he2 =>
        intro R hR
        walk1
        exact hR _ _
      case step2 =>
        rintro I oI C oC D m₂ ys nw h tk i c t E' hc ⟨hsub, hdat⟩ hC hx F N off ne
        have N2 : News g' L' h ((L' + 1 + 1, oS₁) :: (I, oI) :: (C, oC) :: (D, LCg.lst ys) :: nw) := cb_drop N fun q hq => by
          rcases List.mem_cons.mp hq with rfl | hq
          · exact .tail _ (.tail _ (.tail _ (hsub _ (.tail _ (hsub1 _ hcS)))))
          · exact hq
        clear N
        iterate 3 walk1
        have hcc : signAt i = ⟨#[c]⟩ := by unfold signAt; rw [Array.getD_eq_getD_getElem?, hc]; rfl
        refine ask_book (dp := dp + 1) (un := un + 3) (k := (⟨#[c]⟩ : Str)) (rows := (psAt ns ns.length).firsts) (nw := nw) B' F X' N2 T' rfl (by omega) (by omega) (bS.keep (fun q hq _ => .tail _ (.tail _ (.tail _ (.tail _ (hsub q (.tail _ (hsub1 q hq))))))) (fun q hq _ _ => .tail _ (.tail _ (.tail _ (.tail _ (hsub q (.tail _ (hsub1 q hq))))))) (fun q hq _ _ => .tail _ (.tail _ (.tail _ (.tail _ (hsub q (.tail _ (hsub1 q hq)))))))) (strKind_is _ _ _ _) (rows_mono (fun q hq => hsub q (.tail _ (hsub1 q hq))) RK.r2) (by omega) fun l pre h' t' F' N' hfr hd => ?_
        refine LCg.CompEnd.intro F' N' (pre ++ nw) (fun p hp => ?_) (LCg.Off3.of fun p hp => ?_) trivial ⟨fun q hq => List.mem_append_right _ (hsub q hq), ?_⟩
        · rcases List.mem_cons.mp hp with rfl | hp
          · exact List.mem_append_right _ (.tail _ (.head _))
          rcases List.mem_cons.mp hp with rfl | hp
          · exact List.mem_append_right _ (.tail _ (.tail _ (.head _)))
          rcases List.mem_cons.mp hp with rfl | hp
          · exact List.mem_append_right _ (.tail _ (.tail _ (.tail _ (.head _))))
          rcases List.mem_append.mp hp with hp | hp
          · exact List.mem_append_left _ hp
          · exact List.mem_append_right _ (.tail _ (.tail _ (.tail _ (.tail _ hp))))
        · rcases List.mem_append.mp hp with hp | hp
          · exact ⟨hfr p hp _ (.tail _ (.head _)), hfr p hp _ (.tail _ (.tail _ (.head _))), hfr p hp _ (.tail _ (.tail _ (.tail _ (.head _))))⟩
          · exact off.mem p hp
        · rw [List.range_succ, List.map_append]
          refine (hdat.mono fun q hq => List.mem_append_right _ hq).append (.one ?_)
          show DatIn _ _ (askF _ (signAt i))
          rw [hcc]
          exact hd
      case fin2 =>
        rintro D2 ys2 h₈ tk₈ nw2 ⟨hsub2, hdat2⟩ F₈ N₈ hD2
        have z1 : ys1.length = 16 := by rw [hdat1.length]; rfl
        have z2 : ys2.length = 8 := by rw [hdat2.length, List.length_map, List.length_range]; decide +kernel
        refine add_lists F₈ N₈ (vs := ys1) (ws := ys2) ⟨_, (N₈ _ (.tail _ (hsub2 _ (.head _)))).1, rfl, _, rfl⟩ ⟨_, (N₈ _ (.head _)).1, rfl, _, rfl⟩ (fun h₉ F₉ N₉ => ?_) (by rw [z1, z2, sizeLine_eq]; omega)
        dsimp only at N₉ ⊢
        generalize h₈.objs.size = D3 at N₉ ⊢
        have sub3 : ∀ q ∈ n₁, q ∈ (D3, ({ cls := Value.type "list", data := Data.seq (ys1 ++ ys2).toArray } : Obj)) :: (D2, LCg.lst ys2) :: nw2 := fun q hq => .tail _ (.tail _ (hsub2 _ (.tail _ (hsub1 q hq))))
        have dat3 : DatIn ((D3, ({ cls := Value.type "list", data := Data.seq (ys1 ++ ys2).toArray } : Obj)) :: (D2, LCg.lst ys2) :: nw2) (.ref D3) (.list (askedL (psAt ns ns.length))) := by
          refine DatIn.list (vs := ys1 ++ ys2) (n := 0) (.head _) ((hdat1.mono fun q hq => .tail _ (.tail _ (hsub2 _ (.tail _ hq)))).append ?_)
          have e8 : signsTxt.cps.size = 8 := by decide +kernel
          rw [e8] at hdat2
          exact hdat2.mono fun q hq => .tail _ (.tail _ hq)
        generalize (D3, ({ cls := Value.type "list", data := Data.seq (ys1 ++ ys2).toArray } : Obj)) :: (D2, LCg.lst ys2) :: nw2 = n3 at N₉ sub3 dat3
        obtain ⟨esT, epT, hxT, hbT⟩ := bT.at_
        obtain ⟨odT, hdmT, hodT⟩ := own_data bT.own
        obtain ⟨esS, epS, hxS, hbS⟩ := bS.at_
        obtain ⟨odS, hdmS, hodS⟩ := own_data bS.own
        iterate 8 walk1
        rename_i h₁₀ F₁₀ N₁₀
        generalize hm₂ : (fun y => if y = Str.ofString "asked" then some (Value.ref D3) else m₁ y) = m₂ at F₁₀
        refine comp_items (h₀ := g') (L := L') (m := m₂) (x := x1) (dx := d1) (es := esT) (ep := epT) (news := n3) (fun i ys nw => (∀ q ∈ n3, q ∈ nw) ∧ DatAll nw ys (((psAt ns ns.length).types.take i).map tRow)) rfl (by with_unfolding_all rfl) (by decide) (by rfl) (by decide) (by rfl) (by rfl) (by decide) (by rw [(book_size hbT RK.r1).1, sizeLine_eq]; omega) (fun i ys nw h => h.1 _ (sub3 _ hxT)) ?he3 ⟨fun q h => h, .nil⟩ ?step3 ?fin3
        case he3 =>
          intro R hR
          have N₁₁ : News g' L' h₁₀ ((L' + 1, oT₁) :: n3) := cb_drop N₁₀ fun q hq => by
            rcases List.mem_cons.mp hq with rfl | hq
            · exact sub3 _ hcT
            · exact hq
          iterate 2 walk1
          refine method_book (f := .builtin "dict.items") (X'.keeps F₁₀.keep) (inst_news N₁₀ (sub3 _ hxT) (sub3 _ hdmT)) (f_items _) (by rw [f_itemsT]; decide +kernel) (shadow_items hodT) ?_
          iterate 4 (try walk1)
          refine items_call (X'.keeps F₁₀.keep) (inst_news N₁₀ (sub3 _ hxT) (sub3 _ hdmT)) bT.ne ?_
          exact hR _ _ _ ⟨_, Heap.get?_push_size _ rfl, rfl, rfl⟩ (F₁₀.push _) (N₁₀.grown fun _ _ e => Heap.get?_push_of_some _ e)
        case step3 => 
          rintro I oI C oC D m₄ ys nw h tk i e E' he ⟨hsub, hdat⟩ hC h1 h2 F N off ne
          obtain ⟨q, l, g1, g2, g3, g4⟩ := book_item hbT RK.r1 he
          obtain ⟨t, g5⟩ := Value.isInt_shape g2
          rw [g5] at h1
          rw [g3] at h2
          iterate 7 walk1
          rename_i l' h' F' N' l1
          refine comp_turn (pre := [(l', W.listOf #[Value.int q.1 t, Value.ref l] 0)]) F' N' (.tail _ (.head _)) (.tail _ (.tail _ (.head _))) (.tail _ (.tail _ (.tail _ (.head _)))) (fun p hp => by rw [List.mem_singleton.mp hp]; exact .head _) (fun p hp => .tail _ (.tail _ (.tail _ (.tail _ hp)))) off (fun p hp => ?_) trivial ⟨fun q hq => .tail _ (hsub q hq), ?_⟩
          · rw [List.mem_singleton.mp hp]; exact ⟨Nat.ne_of_gt l1.1, Nat.ne_of_gt l1.2.1, Nat.ne_of_gt l1.2.2.1⟩
          · rw [take_succ g1, List.map_append]
            refine (hdat.mono fun q hq => .tail _ hq).append (.one ?_)
            exact .list (vs := [.int q.1 t, .ref l]) (n := 0) (.head _) (.cons (.int _ _) (.one (g4.mono fun q hq => .tail _ (hsub _ (sub3 q hq)))))
        case fin3 =>
          rintro D4 ys4 h₁₁ tk₁₁ nw4 ⟨hsub4, hdat4⟩ F₁₁ N₁₁ hD4
          dsimp only
          rw [(book_size hbT RK.r1).2, List.take_length] at hdat4
          clear N₁₀ F₁₀
          have sub5 : ∀ q ∈ n₁, q ∈ (D4, LCg.lst ys4) :: nw4 := fun q hq => .tail _ (hsub4 _ (sub3 q hq))
          have dat4 : DatIn ((D4, LCg.lst ys4) :: nw4) (.ref D4) (.list ((psAt ns ns.length).types.map tRow)) := .list (.head _) (hdat4.mono fun q hq => .tail _ hq)
          have dat3' : DatIn ((D4, LCg.lst ys4) :: nw4) (.ref D3) (.list (askedL (psAt ns ns.length))) := dat3.mono fun q hq => .tail _ (hsub4 _ hq)
          generalize (D4, LCg.lst ys4) :: nw4 = n5 at N₁₁ sub5 dat4 dat3'
          iterate 1 walk1
          refine comp_items (h₀ := g') (L := L') (m := m₂) (x := x2) (dx := d2) (es := esS) (ep := epS) (news := n5) (fun i ys nw => (∀ q ∈ n5, q ∈ nw) ∧ DatAll nw ys (((psAt ns ns.length).firsts.take i).map fRow)) rfl (by with_unfolding_all rfl) (by decide) (by rfl) (by decide) (by rfl) (by rfl) (by decide) (by rw [(book_size hbS RK.r2).1, sizeLine_eq]; omega) (fun i ys nw h => h.1 _ (sub5 _ hxS)) ?he5 ⟨fun q h => h, .nil⟩ ?step5 ?fin5
          case he5 =>
            intro R hR
            have N₁₂ : News g' L' h₁₁ ((L' + 1 + 1, oS₁) :: n5) := cb_drop N₁₁ fun q hq => by
              rcases List.mem_cons.mp hq with rfl | hq
              · exact sub5 _ hcS
              · exact hq
            iterate 2 walk1
            refine method_book (f := .builtin "dict.items") (X'.keeps F₁₁.keep) (inst_news N₁₁ (sub5 _ hxS) (sub5 _ hdmS)) (f_items _) (by rw [f_itemsT]; decide +kernel) (shadow_items hodS) ?_
            iterate 4 (try walk1)
            refine items_call (X'.keeps F₁₁.keep) (inst_news N₁₁ (sub5 _ hxS) (sub5 _ hdmS)) bS.ne ?_
            exact hR _ _ _ ⟨_, Heap.get?_push_size _ rfl, rfl, rfl⟩ (F₁₁.push _) (N₁₁.grown fun _ _ e => Heap.get?_push_of_some _ e)
          case step5 => 
            rintro I oI C oC D m₄ ys nw h tk i e E' he ⟨hsub, hdat⟩ hC h1 h2 F N off ne
            obtain ⟨q, l, g1, g2, g3, g4⟩ := book_item hbS RK.r2 he
            obtain ⟨t, g5⟩ := Value.isStrOf_shape g2
            rw [g5] at h1
            rw [g3] at h2
            iterate 7 walk1
            rename_i l' h' F' N' l1
            refine comp_turn (pre := [(l', W.listOf #[Value.str q.1 t, Value.ref l] 0)]) F' N' (.tail _ (.head _)) (.tail _ (.tail _ (.head _))) (.tail _ (.tail _ (.tail _ (.head _)))) (fun p hp => by rw [List.mem_singleton.mp hp]; exact .head _) (fun p hp => .tail _ (.tail _ (.tail _ (.tail _ hp)))) off (fun p hp => ?_) trivial ⟨fun q hq => .tail _ (hsub q hq), ?_⟩
            · rw [List.mem_singleton.mp hp]; exact ⟨Nat.ne_of_gt l1.1, Nat.ne_of_gt l1.2.1, Nat.ne_of_gt l1.2.2.1⟩
            · rw [take_succ g1, List.map_append]
              refine (hdat.mono fun q hq => .tail _ hq).append (.one ?_)
              exact .list (vs := [.str q.1 t, .ref l]) (n := 0) (.head _) (.cons (.str _ _) (.one (g4.mono fun q hq => .tail _ (hsub _ (sub5 q hq)))))
          case fin5 =>
            rintro D6 ys6 h₁₂ tk₁₂ nw6 ⟨hsub6, hdat6⟩ F₁₂ N₁₂ hD6
            dsimp only
            rw [(book_size hbS RK.r2).2, List.take_length] at hdat6
            clear N₁₁ F₁₁
            iterate 3 walk1
            rename_i D7 h₁₃ F₁₃ N₁₃ l₁₃ F₁₄ N₁₄ T₁₄ X₁₄
            refine hq _ _ _ _ F₁₄ N₁₄ (fun q hq h => .tail _ (.tail _ (hsub6 _ (sub5 _ (RK.old q hq h))))) ?_ (tab_keep RK.tab (fun q hq _ => .tail _ (.tail _ (hsub6 _ (sub5 _ hq)))) fun q hq _ _ => .tail _ (.tail _ (hsub6 _ (sub5 _ hq))))
            have up6 : ∀ q ∈ n5, q ∈ (D7, ({ cls := Value.type "tuple", data := Data.seq #[Value.ref D3, Value.ref D4, Value.ref D6] } : Obj)) :: (D6, LCg.lst ys6) :: nw6 := fun q hq => .tail _ (.tail _ (hsub6 q hq))
            exact .tuple (vs := [.ref D3, .ref D4, .ref D6]) (n := 0) (.head _) (.cons (dat3'.mono up6) (.cons (dat4.mono up6) (.one (.list (.tail _ (.head _)) (hdat6.mono fun q hq => .tail _ (.tail _ hq))))))
  case step =>
    rintro e it i Ta t v m₁ n₁ h₆ tk₆ oe oi hv J hTa F₆ N₆ off hoe ⟨olde, hEn⟩ hIt
    obtain ⟨n, u, hn, rfl⟩ : ∃ n u, ns[i]? = some n ∧ v = .int n u := by
      obtain ⟨n, u, h1, h2⟩ := hws.at i v (by simpa using hv)
      first | exact ⟨n, u, h1, h2⟩ | exact ⟨n, u, h2, h1⟩
    obtain ⟨hn0, hn1⟩ := hns n (List.mem_of_getElem? hn)
    refine assign2 rfl F₆ N₆ hTa fun h₇ tk₇ F₇ N₇ => ?_
    have hold : ∀ q ∈ news, q.1 ≠ e ∧ q.1 ≠ it := fun q hq => by
      by_cases h : q.1 = 100
      · obtain ⟨o, ho, _⟩ := tab_at J.tab
        rw [h]; exact off _ ho
      · exact off q (J.old q hq h)
    have ke : ItKind oe := by
      have z : _ = oe := Option.some.inj (hEn.symm.trans (N₆ _ (.head _)).1)
      rw [← z]
      exact it_fields rfl rfl (fun q t => by intro e; cases e) (by decide) (by decide) (by decide)
    have ki : ItKind oi := by
      obtain ⟨o, ho, hc, hd⟩ := hIt.1
      have z : o = oi := Option.some.inj (ho.symm.trans (N₆ _ (.tail _ (.head _))).1)
      rw [← z]
      exact it_fields hc hd (fun q t => by intro e; cases e) (by decide) (by decide) (by decide)
    clear F₆ N₆ F₅ N₅ F₄ N₄ F₃ N₃ F₂ N₂
    obtain ⟨oT₁, hcT, hdT⟩ := J.cT
    obtain ⟨oS₁, hcS, hdS⟩ := J.cS
    have N₈ : News g' L' h₇ ((L' + 1, oT₁) :: (L' + 1 + 1, oS₁) :: (e, oe) :: (it, oi) :: n₁) := cb_drop N₇ fun p hp => by
      rcases List.mem_cons.mp hp with rfl | hp
      · exact .tail _ (.tail _ hcT)
      rcases List.mem_cons.mp hp with rfl | hp
      · exact .tail _ (.tail _ hcS)
      · exact hp
    clear N₇
    iterate 11 walk1
    · iterate 5 walk1
      obtain ⟨ks1, ks2, b1, b2, r1, r2, nd, hl1, hl2⟩ := J.ks
      obtain ⟨es1, ep1, hx1m, hb1⟩ := b1.at_
      obtain ⟨od1, hd1m, hod1⟩ := own_data b1.own
      have up : ∀ q ∈ n₁, q ∈ (L' + 1, oT₁) :: (L' + 1 + 1, oS₁) :: (e, oe) :: (it, oi) :: n₁ := fun q hq => .tail _ (.tail _ (.tail _ (.tail _ hq)))
      refine method_book (f := .ref 105) (X'.keeps F₇.keep) (inst_news N₈ (up _ hx1m) (up _ hd1m)) (f_freeze _) (by rw [f_freezeT]; decide +kernel) (shadow_own hod1) ?_
      walk1
      refine freeze_run B' F₇ X' N₈ T' rfl (up _ hx1m) (up _ hd1m) hod1 (tab_keep J.tab (fun q hq _ => up q hq) fun q hq _ _ => up q hq) (by show dp + 1 + 1 ≤ 400; omega) (by show un + 3 + 20 ≤ 100; omega) (codeHd.keeps FG'.keep) fun n₂ h₈ t₈ F₈ N₉ Z => ?_
      iterate 2 (first | (with_reducible refine wpAny_execs_nil ?_) | walk1 | (dsimp only; walk1))
      obtain ⟨o100, h100', _, _⟩ := tab_at J.tab
      have R2 := ((J.sub (fun q hq _ => up q hq)).freeze1 N₈ Z (fun q hq _ => hD1 q hq)).up (Nat.le_succ i)
      have est : psAt ns (i + 1) = { psAt ns i with tg := false } := by
        rw [psAt_succ hn]; unfold pstep; rw [if_pos (by assumption)]
      rw [← est] at R2
      exact run_over R2 F₈ N₉ (Z.rest _ (.tail _ (.tail _ (.head _))) (off _ hd1m).1.symm (off _ h100').1.symm) (Z.rest _ (.tail _ (.tail _ (.tail _ (.head _)))) (off _ hd1m).2.symm (off _ h100').2.symm) ke ki hold
    · iterate 12 walk1
      · iterate 5 walk1
        obtain ⟨ks1, ks2, b1, b2, r1, r2, nd, hl1, hl2⟩ := J.ks
        obtain ⟨es1, ep1, hx1m, hb1⟩ := b2.at_
        obtain ⟨od1, hd1m, hod1⟩ := own_data b2.own
        have up : ∀ q ∈ n₁, q ∈ (L' + 1, oT₁) :: (L' + 1 + 1, oS₁) :: (e, oe) :: (it, oi) :: n₁ := fun q hq => .tail _ (.tail _ (.tail _ (.tail _ hq)))
        refine method_book (f := .ref 105) (X'.keeps F₇.keep) (inst_news N₈ (up _ hx1m) (up _ hd1m)) (f_freeze _) (by rw [f_freezeT]; decide +kernel) (shadow_own hod1) ?_
        walk1
        refine freeze_run B' F₇ X' N₈ T' rfl (up _ hx1m) (up _ hd1m) hod1 (tab_keep J.tab (fun q hq _ => up q hq) fun q hq _ _ => up q hq) (by show dp + 1 + 1 ≤ 400; omega) (by show un + 3 + 20 ≤ 100; omega) (codeHd.keeps FG'.keep) fun n₂ h₈ t₈ F₈ N₉ Z => ?_
        iterate 3 (first | (with_reducible refine wpAny_execs_nil ?_) | walk1 | (dsimp only; walk1))
        obtain ⟨o100, h100', _, _⟩ := tab_at J.tab
        have R2 := ((J.sub (fun q hq _ => up q hq)).freeze2 N₈ Z (fun q hq _ => hD2 q hq)).up (Nat.le_succ i)
        have est : psAt ns (i + 1) = { psAt ns i with fg := false } := by
          rw [psAt_succ hn]; unfold pstep; rw [if_neg (by assumption), if_pos (by assumption)]
        rw [← est] at R2
        exact run_over R2 F₈ N₉ (Z.rest _ (.tail _ (.tail _ (.head _))) (off _ hd1m).1.symm (off _ h100').1.symm) (Z.rest _ (.tail _ (.tail _ (.tail _ (.head _)))) (off _ hd1m).2.symm (off _ h100').2.symm) ke ki hold
      · have c16 : n.fmod 18 ≠ 16 := by assumption
        have c17 : n.fmod 18 ≠ 17 := by assumption
        have hi30 : i < 30 := Nat.lt_of_lt_of_le (List.getElem?_eq_some_iff.mp hn).1 hlen
        have hnl := name_len i hi30
        iterate 33 walk1
        have hfl := fm_len (n.fmod 18 * 4096 + n.fdiv 18)
        refine filemode_walk B' (by assumption) X' (by assumption) T' rfl (by show dp + 1 + 10 ≤ 400; omega) (by show un + 3 + 50 ≤ 100; omega) fun h₉ tk₉ t₉ F₉ N₉ => ?_
        iterate 9 walk1
        refine name_walk B' (by assumption) X' (by assumption) T' rfl (by show dp + 1 + 1 ≤ 400; omega) (by show un + 3 + 8 ≤ 100; omega) (by omega) (by omega) fun t₁₀ h₁₀ tk₁₀ F₁₀ N₁₀ => ?_
        iterate 4 walk1
        have k16 : 0 ≤ n.fmod 18 ∧ n.fmod 18 < 16 ∧ 0 ≤ n.fdiv 18 ∧ n.fdiv 18 < 4096 := by
          have e1 : n.fmod 18 = n % 18 := Int.fmod_eq_emod_of_nonneg _ (by decide)
          have e2 : n.fdiv 18 = n / 18 := Int.fdiv_eq_ediv_of_nonneg _ (by decide)
          rw [e1] at c16 c17
          rw [e1, e2]
          omega
        obtain ⟨y, z, sp1, sp2, sp3⟩ := split_law k16.1 k16.2.1 k16.2.2.1 k16.2.2.2 hi30
        have ey : PySem.Txt.strip y = sigOf (n.fmod 18) (n.fdiv 18) := sp2.trans (fm_law k16.1 k16.2.1 k16.2.2.1 k16.2.2.2)
        have ez : PySem.Txt.strip z = nameOf (i : Int) := sp3
        have hsl : (sigOf (n.fmod 18) (n.fdiv 18)).length = 10 := by rw [← fm_law k16.1 k16.2.1 k16.2.2.1 k16.2.2.2]; exact hfl
        have z3 : (Str.ofString " = ").length = 3 := by decide
        refine call_meth (by assumption) (.head _) (parse_code B' (by assumption) X' (by assumption) T' rfl (by show dp + 1 + 20 ≤ 400; omega) (by show un + 3 + 70 ≤ 100; omega) (by simp only [PySem.Str.length_append]; omega) sp1 fun pr dpr t₁₁ t₁₂ h₁₁ tk₁₁ F₁₁ N₁₁ => ?_)
        rw [ey, ez] at N₁₁
        dsimp only
        iterate 14 (try walk1)
        refine s_ifmt B' (by assumption) X' (by assumption) T' rfl (by show dp + 1 + 1 ≤ 400; omega) (by show un + 3 + 8 ≤ 100; omega) fun t₁₃ h₁₃ tk₁₃ F₁₃ N₁₃ => ?_
        rw [fmt_law k16.1 k16.2.1 k16.2.2.1 k16.2.2.2]
        obtain ⟨ks1, ks2, RK, hl1, hl2⟩ := J.toK
        have RK13 := RK.mono (n' := (pr, pairObj dpr (Value.str (sigOf (n.fmod 18) (n.fdiv 18)) t₁₁) (Value.str (nameOf (i : Int)) t₁₂)) :: (dpr, { cls := Value.type "dict", data := Data.dict #[] }) :: (L' + 1, oT₁) :: (L' + 1 + 1, oS₁) :: (e, oe) :: (it, oi) :: n₁) fun q hq => .tail _ (.tail _ (.tail _ (.tail _ (.tail _ (.tail _ hq)))))
        have N13 := cb_drop (news := (pr, pairObj dpr (Value.str (sigOf (n.fmod 18) (n.fdiv 18)) t₁₁) (Value.str (nameOf (i : Int)) t₁₂)) :: (dpr, { cls := Value.type "dict", data := Data.dict #[] }) :: (L' + 1, oT₁) :: (L' + 1 + 1, oS₁) :: (e, oe) :: (it, oi) :: n₁) N₁₃ fun q hq => by
          rcases List.mem_cons.mp hq with rfl | hq
          · exact .head _
          rcases List.mem_cons.mp hq with rfl | hq
          · exact .tail _ (.head _)
          · exact .tail _ (.tail _ (.tail _ hq))
        clear N₁₃
        obtain ⟨esA, epA, hx1m, _⟩ := RK13.b1.at_
        have nk : ∀ {q : Addr × Obj}, q ∈ (pr, pairObj dpr (Value.str (sigOf (n.fmod 18) (n.fdiv 18)) t₁₁) (Value.str (nameOf (i : Int)) t₁₂)) :: (dpr, { cls := Value.type "dict", data := Data.dict #[] }) :: (L' + 1, oT₁) :: (L' + 1 + 1, oS₁) :: (e, oe) :: (it, oi) :: n₁ → q.2.cls ≠ .ref 108 → q.1 ≠ x1 := fun hq h => news_neC N13 hq hx1m h
        refine sub_run1 (k := 4096 * n.fmod 18) B' F₁₃ X' N13 T' rfl (by show dp + 1 + 2 ≤ 400; omega) (by show un + 3 + 21 ≤ 100; omega) RK13 (intKind_is _ _ _ _) (by omega) (fun q hq _ => hX1 q hq) fun l n₁₄ h₁₄ t₁₄ F₁₄ N₁₄ P₁₄ kb₁₄ hol₁₄ => ?_
        obtain ⟨pl1, pl2⟩ := psAt_len i (Nat.le_of_lt (List.getElem?_eq_some_iff.mp hn).1)
        obtain ⟨vsA, mA, hmA, hvA⟩ := P₁₄.at_ pl1
        have N14 : News g' L' h₁₄ ((l, W.listOf vsA.toArray mA) :: (pr, pairObj dpr (Value.str (sigOf (n.fmod 18) (n.fdiv 18)) t₁₁) (Value.str (nameOf (i : Int)) t₁₂)) :: (dpr, { cls := Value.type "dict", data := Data.dict #[] }) :: (L' + 1, oT₁) :: (L' + 1 + 1, oS₁) :: (e, oe) :: (it, oi) :: n₁₄) := cb_drop N₁₄ fun q hq => by
          rcases List.mem_cons.mp hq with rfl | hq
          · exact hmA
          rcases List.mem_cons.mp hq with rfl | hq
          · exact kb₁₄ _ (.head _) (nk (.head _) (by intro e; cases e))
          rcases List.mem_cons.mp hq with rfl | hq
          · exact kb₁₄ _ (.tail _ (.head _)) (nk (.tail _ (.head _)) (by intro e; cases e))
          rcases List.mem_cons.mp hq with rfl | hq
          · exact kb₁₄ _ (.tail _ (.tail _ (.head _))) (hard_ne N13 (.tail _ (.tail _ (.head _))) hx1m (.inr (.inl ⟨_, hdT⟩)) (hard_fdd _ _ _))
          rcases List.mem_cons.mp hq with rfl | hq
          · exact kb₁₄ _ (.tail _ (.tail _ (.tail _ (.head _)))) (hard_ne N13 (.tail _ (.tail _ (.tail _ (.head _)))) hx1m (.inr (.inl ⟨_, hdS⟩)) (hard_fdd _ _ _))
          rcases List.mem_cons.mp hq with rfl | hq
          · exact kb₁₄ _ (.tail _ (.tail _ (.tail _ (.tail _ (.head _))))) (nk (.tail _ (.tail _ (.tail _ (.tail _ (.head _))))) ke.2.1)
          rcases List.mem_cons.mp hq with rfl | hq
          · exact kb₁₄ _ (.tail _ (.tail _ (.tail _ (.tail _ (.tail _ (.head _)))))) (nk (.tail _ (.tail _ (.tail _ (.tail _ (.tail _ (.head _)))))) ki.2.1)
          · exact hq
        iterate 7 walk1
        refine attr_name B' (by assumption) X' N14 T' rfl (by show dp + 1 + 12 ≤ 400; omega) (by show un + 3 + 60 ≤ 100; omega) (.tail _ (.head _)) (.tail _ (.tail _ (.head _))) fun h₁₅ tk₁₅ F₁₅ N₁₅ => ?_
        iterate 3 walk1
        refine attr_value B' (by assumption) X' N₁₅ T' rfl (by show dp + 1 + 12 ≤ 400; omega) (by show un + 3 + 60 ≤ 100; omega) (.tail _ (.head _)) (.tail _ (.tail _ (.head _))) fun h₁₆ tk₁₆ F₁₆ N₁₆ => ?_
        iterate 8 walk1
        refine s_imode B' (by assumption) X' (by assumption) T' rfl (by show dp + 1 + 1 ≤ 400; omega) (by show un + 3 + 8 ≤ 100; omega) fun t₁₇ h₁₇ tk₁₇ F₁₇ N₁₇ => ?_
        rw [mode_law k16.1 k16.2.1 k16.2.2.1 k16.2.2.2]
        iterate 3 walk1
        rename_i Dt h₁₈ F₁₈ N₁₈ lt₁₈
        refine append_any F₁₈ N₁₈ (.tail _ (.head _)) (by rw [List.size_toArray, sizeLine_eq]; omega) fun h₁₉ F₁₉ N₁₉ => ?_
        obtain ⟨ks1', hl1', RK19⟩ := (P₁₄.mono (n' := (Dt, ({ cls := .type "tuple", data := .seq #[.str (sigOf (n.fmod 18) (n.fdiv 18)) t₁₁, .str (nameOf (i : Int)) t₁₂, .int (n.fdiv 18) t₁₇] } : Obj)) :: (l, W.listOf vsA.toArray mA) :: (pr, pairObj dpr (Value.str (sigOf (n.fmod 18) (n.fdiv 18)) t₁₁) (Value.str (nameOf (i : Int)) t₁₂)) :: (dpr, { cls := Value.type "dict", data := Data.dict #[] }) :: (L' + 1, oT₁) :: (L' + 1 + 1, oS₁) :: (e, oe) :: (it, oi) :: n₁₄) fun q hq => .tail _ (.tail _ (.tail _ (.tail _ (.tail _ (.tail _ (.tail _ (.tail _ hq)))))))).done (m' := mA + 1) (v := .ref Dt) (d := recOf n i) N₁₈ (.tail _ (.head _)) (by
            exact .tuple (vs := [.str _ _, .str _ _, .int _ _]) (List.mem_filter.mpr ⟨.head _, rfl⟩) (.cons (.str _ _) (.cons (.str _ _) (.cons (.int _ _) .nil)))) hol₁₄
        have N20 : News g' L' h₁₉ ((pr, pairObj dpr (Value.str (sigOf (n.fmod 18) (n.fdiv 18)) t₁₁) (Value.str (nameOf (i : Int)) t₁₂)) :: (dpr, { cls := Value.type "dict", data := Data.dict #[] }) :: (L' + 1, oT₁) :: (L' + 1 + 1, oS₁) :: (e, oe) :: (it, oi) :: (l, W.listOf (vsA.toArray.push (.ref Dt)) (mA + 1)) :: offL l ((Dt, ({ cls := .type "tuple", data := .seq #[.str (sigOf (n.fmod 18) (n.fdiv 18)) t₁₁, .str (nameOf (i : Int)) t₁₂, .int (n.fdiv 18) t₁₇] } : Obj)) :: (l, W.listOf vsA.toArray mA) :: (pr, pairObj dpr (Value.str (sigOf (n.fmod 18) (n.fdiv 18)) t₁₁) (Value.str (nameOf (i : Int)) t₁₂)) :: (dpr, { cls := Value.type "dict", data := Data.dict #[] }) :: (L' + 1, oT₁) :: (L' + 1 + 1, oS₁) :: (e, oe) :: (it, oi) :: n₁₄)) := cb_drop N₁₉ fun q hq => by
          have hl₁₈ := (List.Mem.tail (Dt, ({ cls := .type "tuple", data := .seq #[.str (sigOf (n.fmod 18) (n.fdiv 18)) t₁₁, .str (nameOf (i : Int)) t₁₂, .int (n.fdiv 18) t₁₇] } : Obj)) (List.Mem.head (a := (l, W.listOf vsA.toArray mA)) ((pr, pairObj dpr (Value.str (sigOf (n.fmod 18) (n.fdiv 18)) t₁₁) (Value.str (nameOf (i : Int)) t₁₂)) :: (dpr, { cls := Value.type "dict", data := Data.dict #[] }) :: (L' + 1, oT₁) :: (L' + 1 + 1, oS₁) :: (e, oe) :: (it, oi) :: n₁₄)))
          rcases List.mem_cons.mp hq with rfl | hq
          · exact .tail _ (List.mem_filter.mpr ⟨.tail _ (.tail _ (.head _)), decide_eq_true (news_neC N₁₈ (.tail _ (.tail _ (.head _))) hl₁₈ (by intro e; cases e))⟩)
          rcases List.mem_cons.mp hq with rfl | hq
          · exact .tail _ (List.mem_filter.mpr ⟨.tail _ (.tail _ (.tail _ (.head _))), decide_eq_true (news_neC N₁₈ (.tail _ (.tail _ (.tail _ (.head _)))) hl₁₈ (cls_ne (by decide)))⟩)
          rcases List.mem_cons.mp hq with rfl | hq
          · exact .tail _ (List.mem_filter.mpr ⟨.tail _ (.tail _ (.tail _ (.tail _ (.head _)))), decide_eq_true (hard_ne N₁₈ (.tail _ (.tail _ (.tail _ (.tail _ (.head _))))) hl₁₈ (.inr (.inl ⟨_, hdT⟩)) (hard_list _ _))⟩)
          rcases List.mem_cons.mp hq with rfl | hq
          · exact .tail _ (List.mem_filter.mpr ⟨.tail _ (.tail _ (.tail _ (.tail _ (.tail _ (.head _))))), decide_eq_true (hard_ne N₁₈ (.tail _ (.tail _ (.tail _ (.tail _ (.tail _ (.head _)))))) hl₁₈ (.inr (.inl ⟨_, hdS⟩)) (hard_list _ _))⟩)
          rcases List.mem_cons.mp hq with rfl | hq
          · exact .tail _ (List.mem_filter.mpr ⟨.tail _ (.tail _ (.tail _ (.tail _ (.tail _ (.tail _ (.head _)))))), decide_eq_true (news_neC N₁₈ (.tail _ (.tail _ (.tail _ (.tail _ (.tail _ (.tail _ (.head _))))))) hl₁₈ ke.2.2.2.1)⟩)
          rcases List.mem_cons.mp hq with rfl | hq
          · exact .tail _ (List.mem_filter.mpr ⟨.tail _ (.tail _ (.tail _ (.tail _ (.tail _ (.tail _ (.tail _ (.head _))))))), decide_eq_true (news_neC N₁₈ (.tail _ (.tail _ (.tail _ (.tail _ (.tail _ (.tail _ (.tail _ (.head _)))))))) hl₁₈ ki.2.2.2.1)⟩)
          · exact hq
        clear N₁₉ N₁₈
        dsimp only
        iterate 8 walk1
        refine attr_name B' (by assumption) X' N20 T' rfl (by show dp + 1 + 12 ≤ 400; omega) (by show un + 3 + 60 ≤ 100; omega) (.head _) (.tail _ (.head _)) fun h₂₁ tk₂₁ F₂₁ N₂₁ => ?_
        iterate 5 walk1
        refine slice_strN_ns_len (hsz := by rw [hsl, sizeLine_eq]; omega) F₂₁ N₂₁ (fun h₂₂ t₂₂ k₂₂ F₂₂ N₂₂ _ => ?_)
        rw [slice_law k16.1 k16.2.1 k16.2.2.1 k16.2.2.2]
        have RK22 := RK19.mono (n' := (pr, pairObj dpr (Value.str (sigOf (n.fmod 18) (n.fdiv 18)) t₁₁) (Value.str (nameOf (i : Int)) t₁₂)) :: (dpr, { cls := Value.type "dict", data := Data.dict #[] }) :: (L' + 1, oT₁) :: (L' + 1 + 1, oS₁) :: (e, oe) :: (it, oi) :: (l, W.listOf (vsA.toArray.push (.ref Dt)) (mA + 1)) :: offL l ((Dt, ({ cls := .type "tuple", data := .seq #[.str (sigOf (n.fmod 18) (n.fdiv 18)) t₁₁, .str (nameOf (i : Int)) t₁₂, .int (n.fdiv 18) t₁₇] } : Obj)) :: (l, W.listOf vsA.toArray mA) :: (pr, pairObj dpr (Value.str (sigOf (n.fmod 18) (n.fdiv 18)) t₁₁) (Value.str (nameOf (i : Int)) t₁₂)) :: (dpr, { cls := Value.type "dict", data := Data.dict #[] }) :: (L' + 1, oT₁) :: (L' + 1 + 1, oS₁) :: (e, oe) :: (it, oi) :: n₁₄)) fun q hq => .tail _ (.tail _ (.tail _ (.tail _ (.tail _ (.tail _ hq)))))
        obtain ⟨esB, epB, hx2m, _⟩ := RK22.b2.at_
        refine sub_run2 (k := kCh (n.fmod 18)) B' F₂₂ X' N₂₂ T' rfl (by show dp + 1 + 2 ≤ 400; omega) (by show un + 3 + 21 ≤ 100; omega) RK22 (strKind_is _ _ _ _) (by omega) (fun q hq _ => hX2 q hq) fun l2 n₂₃ h₂₃ t₂₃ F₂₃ N₂₃ P₂₃ kb₂₃ hol₂₃ => ?_
        obtain ⟨vsB, mB, hmB, hvB⟩ := P₂₃.at_ pl2
        have N24 : News g' L' h₂₃ ((l2, W.listOf vsB.toArray mB) :: (pr, pairObj dpr (Value.str (sigOf (n.fmod 18) (n.fdiv 18)) t₁₁) (Value.str (nameOf (i : Int)) t₁₂)) :: (dpr, { cls := Value.type "dict", data := Data.dict #[] }) :: (e, oe) :: (it, oi) :: n₂₃) := cb_drop N₂₃ fun q hq => by
          rcases List.mem_cons.mp hq with rfl | hq
          · exact hmB
          rcases List.mem_cons.mp hq with rfl | hq
          · exact kb₂₃ _ (.head _) (news_neC N₂₂ (.head _) hx2m (by intro e; cases e))
          rcases List.mem_cons.mp hq with rfl | hq
          · exact kb₂₃ _ (.tail _ (.head _)) (news_neC N₂₂ (.tail _ (.head _)) hx2m (by intro e; cases e))
          rcases List.mem_cons.mp hq with rfl | hq
          · exact kb₂₃ _ (.tail _ (.tail _ (.tail _ (.tail _ (.head _))))) (news_neC N₂₂ (.tail _ (.tail _ (.tail _ (.tail _ (.head _))))) hx2m ke.2.1)
          rcases List.mem_cons.mp hq with rfl | hq
          · exact kb₂₃ _ (.tail _ (.tail _ (.tail _ (.tail _ (.tail _ (.head _)))))) (news_neC N₂₂ (.tail _ (.tail _ (.tail _ (.tail _ (.tail _ (.head _)))))) hx2m ki.2.1)
          · exact hq
        iterate 5 walk1
        refine attr_value B' (by assumption) X' N24 T' rfl (by show dp + 1 + 12 ≤ 400; omega) (by show un + 3 + 60 ≤ 100; omega) (.tail _ (.head _)) (.tail _ (.tail _ (.head _))) fun h₂₅ tk₂₅ F₂₅ N₂₅ => ?_
        iterate 1 walk1
        refine append_any F₂₅ N₂₅ (.head _) (by rw [List.size_toArray, sizeLine_eq]; omega) fun h₂₆ F₂₆ N₂₆ => ?_
        obtain ⟨ks2', hl2', RK26⟩ := (P₂₃.mono (n' := (l2, W.listOf vsB.toArray mB) :: (pr, pairObj dpr (Value.str (sigOf (n.fmod 18) (n.fdiv 18)) t₁₁) (Value.str (nameOf (i : Int)) t₁₂)) :: (dpr, { cls := Value.type "dict", data := Data.dict #[] }) :: (e, oe) :: (it, oi) :: n₂₃) fun q hq => .tail _ (.tail _ (.tail _ (.tail _ (.tail _ hq))))).done (m' := mB + 1) (v := .str (nameOf (i : Int)) t₁₂) (d := .str (nameOf (i : Int))) N₂₅ (.head _) (.str _ _) hol₂₃
        have est : psAt ns (i + 1) = { psAt ns i with types := bput (psAt ns i).types (4096 * n.fmod 18) (recOf n i) (psAt ns i).tg, firsts := bput (psAt ns i).firsts (kCh (n.fmod 18)) (.str (nameOf (i : Int))) (psAt ns i).fg } := by
          rw [psAt_succ hn]; unfold pstep; rw [if_neg c16, if_neg c17]
        have R27 := RK26.toSt (i := i + 1) (by omega) (by omega)
        dsimp only at R27
        rw [← est] at R27
        iterate 4 (try (dsimp only; with_reducible refine wpAny_execs_nil ?_))
        try dsimp only
        refine run_over R27 F₂₆ N₂₆ (.tail _ (List.mem_filter.mpr ⟨.tail _ (.tail _ (.tail _ (.head _))), decide_eq_true (news_neC N₂₅ (.tail _ (.tail _ (.tail _ (.head _)))) (.head _) ke.2.2.2.1)⟩)) (.tail _ (List.mem_filter.mpr ⟨.tail _ (.tail _ (.tail _ (.tail _ (.head _)))), decide_eq_true (news_neC N₂₅ (.tail _ (.tail _ (.tail _ (.tail _ (.head _))))) (.head _) ki.2.2.2.1)⟩)) ke ki hold
end Mine
end

section -- E3
open PySem PySem.W PySem.W.X PyProof.Rows PySem.Calls
set_option Elab.async false
set_option maxRecDepth 100000
set_option maxHeartbeats 1000000
namespace Mine
section
variable {w : World} {prog : Program} {A : Around} {E : Value → Shared → Prop} {s : Shared} {env : Env} {h₀ : Heap} {target iter : Expr} {body orelse : List Stmt} {pos : Pos} {Q : Flow → Shared → Prop}
/-- a for over a list that keeps still while the loop runs -/
theorem forList {l : Addr} {items : Array Value} {lo : Obj} {k : Nat} {m : Str → Option Value} {news : List (Addr × Obj)} (J : Nat → (Str → Option Value) → List (Addr × Obj) → Prop)
    (hh : A.handled = none) (F : Fr h₀ env.locals s.heap m) (N : News h₀ env.locals s.heap news) (hlo : lo.cls = .type "list" ∧ lo.data = .seq items k) (hl : s.heap.get? l = some lo) (h0 : J 0 m news)
    (keep : ∀ i m₁ news₁ h, J i m₁ news₁ → Fr h₀ env.locals h m₁ → News h₀ env.locals h news₁ → h.get? l = some lo)
    (step : ∀ I i v m₁ news₁ h tk o, items[i]? = some v → J i m₁ news₁ → Fr h₀ env.locals h m₁ → News h₀ env.locals h ((I, o) :: news₁) → (∀ p ∈ news₁, p.1 ≠ I) → o.cls = .type "list_iterator" →
      wpAny (model prog w) A (assign target env v) (fun _ s₂ => wpAny (model prog w) A (execs body env) (TurnOver h₀ env.locals I o (J (i + 1)) s Q) E s₂) E { s with heap := h, toks := tk })
    (last : ∀ m₁ news₁ h tk, J items.size m₁ news₁ → Fr h₀ env.locals h m₁ → News h₀ env.locals h news₁ → wpAny (model prog w) A (execs orelse env) Q E { s with heap := h, toks := tk })
    (he : ∀ R : Value → Shared → Prop, R (.ref l) s → wpAny (model prog w) A (eval iter env) R E s)
    (hs : ∀ x, foldedSetIterable iter env x = pure x := by intro _; rfl)
    (hE : PassesOwn (model prog w) A env E := by passes_own) :
    wpAny (model prog w) A (exec (.For target iter body orelse pos) env) Q E s := by
  refine wpAny_For (he _ ?_) hs
  have isL : ∀ {h : Heap}, h.get? l = some lo → h.IsList l items := fun e => ⟨lo, e, hlo.1, k, hlo.2⟩
  refine wpAny_pyIter_list (isL hl) ?_
  have hItNew : h₀.get? s.heap.objs.size = none := next_is_new F
  have hLI : env.locals ≠ s.heap.objs.size := Nat.ne_of_lt F.ns.lt
  refine codeAny_forLoop_any
    (fun k s' => ∃ h' tk m' news' i o, s' = { s with heap := h', toks := tk } ∧ h'.get? s.heap.objs.size = some o ∧ h'.IsListIter s.heap.objs.size l i ∧ Fr h₀ env.locals h' m' ∧ News h₀ env.locals h' news' ∧ (∀ p ∈ news', p.1 ≠ s.heap.objs.size) ∧ J i m' news' ∧ i ≤ items.size ∧ k = items.size + 1 - i) ?_ (items.size + 1)
    ⟨_, s.toks, m, news, 0, _, rfl, Heap.get?_push_size _ rfl, ⟨_, Heap.get?_push_size _ rfl, rfl, rfl⟩, F.push _, fun p hp => ⟨Heap.get?_push_of_some _ (N p hp).1, (N p hp).2⟩, fun p hp => Nat.ne_of_lt (Heap.lt_size (N p hp).1), h0, Nat.zero_le _, rfl⟩
  rintro k s' ⟨h', tk, m', news', i, o, rfl, ho, hit, F', N', off, hJ, hi, rfl⟩
  have hT' := isL (keep i m' news' h' hJ F' N')
  by_cases hlt : i < items.size
  · refine wpAny_pyNext_list_item hit hT' (Array.getElem?_eq_getElem hlt) fun h₁ hit₁ hsb => ?_
    refine letGo_listiter hit₁ ?_
    have F₁ : Fr h₀ env.locals h₁ m' := F'.change hsb hLI.symm hItNew
    have N₁ : News h₀ env.locals h₁ news' := fun p hp => ⟨(hsb.2 p.1 (off p hp)).trans (N' p hp).1, (N' p hp).2⟩
    obtain ⟨o₁, ho₁, hc₁, _⟩ := id hit₁
    have N₂ : News h₀ env.locals h₁ ((s.heap.objs.size, o₁) :: news') := fun p hp => by
      rcases List.mem_cons.mp hp with rfl | hp
      · exact ⟨ho₁, hLI.symm, hItNew⟩
      · exact N₁ p hp
    refine wpAny_mono (step _ i _ m' news' h₁ tk o₁ (Array.getElem?_eq_getElem hlt) hJ F₁ N₂ off hc₁) (fun _ s₂ h₂ => wpAny_mono h₂ (fun f s₃ p => ?_) hE) hE
    cases f with
    | ret v => exact p
    | brk => exact p
    | next =>
      obtain ⟨h₃, tk₃, m₃, news₃, e, F₃, N₃, off₃, hJ₃⟩ := p
      refine ⟨items.size + 1 - (i + 1), by omega, h₃, tk₃, m₃, news₃, i + 1, o₁, e, (N₃ _ (.head _)).1, ?_, F₃, fun p hp => N₃ p (.tail _ hp), off₃, hJ₃, hlt, rfl⟩
      obtain ⟨o₂, ho₂, hc₂, hd₂⟩ := id hit₁
      have q : o₂ = o₁ := Option.some.inj (ho₂.symm.trans ho₁)
      exact ⟨o₁, (N₃ _ (.head _)).1, q ▸ hc₂, q ▸ hd₂⟩
    | cont =>
      obtain ⟨h₃, tk₃, m₃, news₃, e, F₃, N₃, off₃, hJ₃⟩ := p
      refine ⟨items.size + 1 - (i + 1), by omega, h₃, tk₃, m₃, news₃, i + 1, o₁, e, (N₃ _ (.head _)).1, ?_, F₃, fun p hp => N₃ p (.tail _ hp), off₃, hJ₃, hlt, rfl⟩
      obtain ⟨o₂, ho₂, hc₂, hd₂⟩ := id hit₁
      have q : o₂ = o₁ := Option.some.inj (ho₂.symm.trans ho₁)
      exact ⟨o₁, (N₃ _ (.head _)).1, q ▸ hc₂, q ▸ hd₂⟩
  · have hin : i = items.size := by omega
    subst hin
    refine wpAny_pyNext_list_end hh hit hT' (Array.getElem?_eq_none (Nat.le_refl _)) fun h₁ hx => ?_
    have F₁ : Fr h₀ env.locals h₁ m' := ⟨F'.ns.at' fun o e => hx _ o hLI e, fun b o e => hx b o (fun q => by rw [q, hItNew] at e; cases e) (F'.keep b o e), F'.above⟩
    have N₁ : News h₀ env.locals h₁ news' := fun p hp => ⟨hx _ _ (off p hp) (N' p hp).1, (N' p hp).2⟩
    exact wpAny_mono (last m' news' h₁ tk hJ F₁ N₁) (fun _ _ z => z) hE
end
end Mine
end

section -- D1
open PySem PySem.W PySem.W.X PyProof.Rows PySem.Calls
set_option Elab.async false
set_option maxRecDepth 100000
set_option maxHeartbeats 1000000
namespace Mine
section
variable {κ : Type} {keyV : κ → Tok → Value} {n n' : List (Addr × Obj)}
/-- rows of the due side: a row is a list of its key and its records; with the places of both -/
def DRowsL (keyV : κ → Tok → Value) (n : List (Addr × Obj)) : List (κ × Addr × Addr) → List (κ × List Dat) → Prop
  | [], [] => True
  | p :: r, q :: r' => (p.1 = q.1 ∧ ∃ (t : Tok) (j j' : Nat) (us : List Value), (p.2.1, W.listOf #[keyV p.1 t, .ref p.2.2] j) ∈ n ∧ (p.2.2, W.listOf us.toArray j') ∈ n ∧ DatAll (tups n) us q.2) ∧ DRowsL keyV n r r'
  | _, _ => False
def adr (es : List (κ × Addr × Addr)) : List Addr := es.flatMap fun p => [p.2.1, p.2.2]
def refs (es : List (κ × Addr × Addr)) : List Value := es.map fun p => .ref p.2.1
theorem mem_adr {es : List (κ × Addr × Addr)} {z : Addr} : z ∈ adr es ↔ ∃ p ∈ es, z = p.2.1 ∨ z = p.2.2 := by
  unfold adr
  rw [List.mem_flatMap]
  constructor
  · rintro ⟨p, hp, h⟩
    refine ⟨p, hp, ?_⟩
    rcases List.mem_cons.mp h with rfl | h
    · exact .inl rfl
    · exact .inr (List.mem_singleton.mp h)
  · rintro ⟨p, hp, h⟩
    refine ⟨p, hp, ?_⟩
    rcases h with rfl | rfl
    · exact .head _
    · exact .tail _ (.head _)
theorem drows_len : ∀ {es : List (κ × Addr × Addr)} {rows : List (κ × List Dat)}, DRowsL keyV n es rows → es.length = rows.length
  | [], [], _ => rfl
  | [], _ :: _, h => h.elim
  | _ :: _, [], h => h.elim
  | _ :: _, _ :: _, h => by simp [drows_len h.2]
theorem drows_get : ∀ {es : List (κ × Addr × Addr)} {rows : List (κ × List Dat)} {i : Nat} {p : κ × Addr × Addr}, DRowsL keyV n es rows → es[i]? = some p →
    ∃ q : κ × List Dat, rows[i]? = some q ∧ p.1 = q.1 ∧ ∃ (t : Tok) (j j' : Nat) (us : List Value), (p.2.1, W.listOf #[keyV p.1 t, .ref p.2.2] j) ∈ n ∧ (p.2.2, W.listOf us.toArray j') ∈ n ∧ DatAll (tups n) us q.2
  | [], [], _, _, _, h => by simp at h
  | [], _ :: _, _, _, h, _ => h.elim
  | _ :: _, [], _, _, h, _ => h.elim
  | p :: r, q :: r', 0, _, h, hp => by simp at hp; subst hp; exact ⟨q, rfl, h.1⟩
  | p :: r, q :: r', i + 1, p', h, hp => by
    obtain ⟨z, a, b⟩ := drows_get (i := i) h.2 (by simpa using hp)
    exact ⟨z, by simpa using a, b⟩
theorem drows_keep (ht : ∀ q ∈ tups n, q ∈ tups n') : ∀ {es : List (κ × Addr × Addr)} {rows : List (κ × List Dat)}, DRowsL keyV n es rows → (∀ q ∈ n, q.1 ∈ adr es → q ∈ n') → DRowsL keyV n' es rows
  | [], [], _, _ => trivial
  | [], _ :: _, h, _ => h.elim
  | _ :: _, [], h, _ => h.elim
  | p :: r, q :: r', ⟨⟨e, t, j, j', us, h1, h2, h3⟩, hr⟩, hk => by
    refine ⟨⟨e, t, j, j', us, hk _ h1 (mem_adr.mpr ⟨p, .head _, .inl rfl⟩), hk _ h2 (mem_adr.mpr ⟨p, .head _, .inr rfl⟩), h3.mono ht⟩, drows_keep ht hr fun z hz hz' => hk z hz ?_⟩
    obtain ⟨p', hp', h⟩ := mem_adr.mp hz'
    exact mem_adr.mpr ⟨p', .tail _ hp', h⟩
/-- a row as it stands is a datum -/
theorem drows_dat {keyD : κ → Dat} (hkd : ∀ (k : κ) (t : Tok) (m : List (Addr × Obj)), DatIn m (keyV k t) (keyD k)) : ∀ {es : List (κ × Addr × Addr)} {rows : List (κ × List Dat)}, DRowsL keyV n es rows → DatAll n (refs es) (rows.map fun q => .list [keyD q.1, .list q.2])
  | [], [], _ => .nil
  | [], _ :: _, h => h.elim
  | _ :: _, [], h => h.elim
  | p :: r, q :: r', ⟨⟨e, t, j, j', us, h1, h2, h3⟩, hr⟩ => .cons (.list (vs := [keyV p.1 t, .ref p.2.2]) h1 (.cons (e ▸ hkd _ _ _) (.one (.list h2 (h3.mono fun q hq => tups_sub q hq))))) (drows_dat hkd hr)
/-- one book of the due side -/
structure DBook (keyV : κ → Tok → Value) (n : List (Addr × Obj)) (T : Addr) (es : List (κ × Addr × Addr)) (rows : List (κ × List Dat)) : Prop where
  at_ : ∃ j, (T, W.listOf (refs es).toArray j) ∈ n
  rows : DRowsL keyV n es rows
  nd : (T :: adr es).Nodup
theorem DBook.keep {T : Addr} {es : List (κ × Addr × Addr)} {rows : List (κ × List Dat)} (b : DBook keyV n T es rows) (ht : ∀ q ∈ tups n, q ∈ tups n') (h : ∀ q ∈ n, q.1 ∈ T :: adr es → q ∈ n') : DBook keyV n' T es rows := by
  obtain ⟨j, h1⟩ := b.at_
  exact ⟨⟨j, h _ h1 (.head _)⟩, drows_keep ht b.rows fun q hq hq' => h q hq (.tail _ hq'), b.nd⟩
theorem DBook.mono {T : Addr} {es : List (κ × Addr × Addr)} {rows : List (κ × List Dat)} (b : DBook keyV n T es rows) (h : ∀ q ∈ n, q ∈ n') : DBook keyV n' T es rows :=
  b.keep (tups_keep fun q hq _ => h q hq) fun q hq _ => h q hq
theorem adr_at : ∀ {es : List (κ × Addr × Addr)} {rows : List (κ × List Dat)}, DRowsL keyV n es rows → ∀ z ∈ adr es, ∃ xs j, (z, W.listOf xs j) ∈ n
  | [], [], _, z, hz => by simp [adr] at hz
  | [], _ :: _, h, _, _ => h.elim
  | _ :: _, [], h, _, _ => h.elim
  | p :: r, q :: r', ⟨⟨e, t, j, j', us, h1, h2, h3⟩, hr⟩, z, hz => by
    obtain ⟨p', hp', h⟩ := mem_adr.mp hz
    rcases List.mem_cons.mp hp' with rfl | hp'
    · rcases h with rfl | rfl
      · exact ⟨_, _, h1⟩
      · exact ⟨_, _, h2⟩
    · exact adr_at hr z (mem_adr.mpr ⟨p', hp', h⟩)
theorem DBook.adrs {T : Addr} {es : List (κ × Addr × Addr)} {rows : List (κ × List Dat)} (b : DBook keyV n T es rows) : ∀ z ∈ T :: adr es, ∃ xs j, (z, W.listOf xs j) ∈ n := fun z hz => by
  rcases List.mem_cons.mp hz with rfl | hz
  · obtain ⟨j, h⟩ := b.at_
    exact ⟨_, _, h⟩
  · exact adr_at b.rows z hz
end
/-- no row under the key among the first i -/
theorem bfind_none_of {κ α : Type} [DecidableEq κ] {k : κ} : ∀ {rows : List (κ × α)}, (∀ (j : Nat) (q : κ × α), rows[j]? = some q → q.1 ≠ k) → bfind rows k = none
  | [], _ => rfl
  | p :: r, h => by
    rw [bfind, if_neg (h 0 p rfl)]
    exact bfind_none_of fun j q hq => h (j + 1) q (by simpa using hq)
theorem bfind_some_of {κ α : Type} [DecidableEq κ] {k : κ} : ∀ {rows : List (κ × α)} {i : Nat} {q : κ × α}, rows[i]? = some q → q.1 = k → (∀ (j : Nat) (q : κ × α), j < i → rows[j]? = some q → q.1 ≠ k) → bfind rows k = some q.2
  | [], _, _, h, _, _ => by simp at h
  | p :: r, 0, q, h, e, _ => by simp at h; subst h; rw [bfind, if_pos e]
  | p :: r, i + 1, q, h, e, hno => by
    rw [bfind, if_neg (hno 0 p (Nat.succ_pos i) rfl)]
    exact bfind_some_of (i := i) (by simpa using h) e fun j q hj hq => hno (j + 1) q (Nat.succ_lt_succ hj) (by simpa using hq)
end Mine
end

section -- D2
open PySem PySem.W PySem.W.X PyProof.Rows PySem.Calls
set_option Elab.async false
set_option maxRecDepth 100000
set_option maxHeartbeats 1000000
namespace Mine
section
local macro_rules | `(tactic| walk_at "eval Name") => `(tactic| (k_here; k_dflt (refine' nameX_L ?F ?v ?_ ?a ?b; (case F => k_asm); (case a => rfl); (case b => rfl); (case v => assumption); k_whole)))
theorem found_int : ∀ {w : World} {dp un : Nat} {cn : Str} {cs : Scope} {a : Addr} {ccd : Value} {cl : List (Str × Addr)} {outer : List Env} {A₀ : Around} {base h₀ : Heap} {L : Addr} {m mg mb : Str → Option Value} {s : Shared} {Q E : Value → Shared → Prop} {news nw : List (Addr × Obj)} {p : Program} {loose : List Str} {mean : ExcName → Option Value} {T₀ : Addr} {es : List (Int × Addr × Addr)} {k : Int} {t : Tok} {rows : List (Int × List Dat)},
    Below A₀ base outer h₀ → Fr h₀ L s.heap m → (Mine.hd.heap_39 w.params).In h₀ → News h₀ L s.heap news → Top p loose mean mg mb h₀ → cs.kind = .function →
    dp + 10 ≤ 400 → un + 50 ≤ 100 → DBook Value.int nw T₀ es rows → (∀ q ∈ nw, q ∈ news) →
    (∀ (l : Addr) (pre : List (Addr × Obj)) (h' : Heap) (tk' : Nat), Fr h₀ L h' m → News h₀ L h' (pre ++ news) → (∀ q ∈ pre, ∀ z ∈ news, q.1 ≠ z.1) → DatIn (pre ++ nw) (.ref l) (.list ((bfind rows k).getD [])) → Q (.ref l) { s with heap := h', toks := tk' }) →
    wpAny (model Challenge.rw_in0191_01.row.prog w) (ktrTop dp un (some []) cn cs L a ccd cl outer) (call (.ref 293) [.ref T₀, .int k t]) Q E s := by
  k_fill
  intro w dp un cn cs a ccd cl outer A₀ base h₀ L m mg mb s Q E news nw p loose mean T₀ es k t rows B F X N T hk hdp hun bk hsub hq
  refine wpAny_call ?_
  k_dflt cell_enter
  rename_i g' L' h' FG' F₁ N₁ B' X' T'
  obtain ⟨n, hx⟩ := bk.at_
  refine wpAny_execs_cons ?_
  refine forList (l := T₀) (items := (refs es).toArray) (lo := W.listOf (refs es).toArray n) (k := n) (fun i m₁ n₁ => m₁ (Str.ofString "key") = some (.int k t) ∧ n₁ = news ∧ ∀ (j : Nat) (q : Int × List Dat), j < i → rows[j]? = some q → q.1 ≠ k) rfl F₁ N₁ ⟨rfl, rfl⟩ (N₁ _ (hsub _ hx)).1 ⟨rfl, rfl, fun j q h _ => absurd h (Nat.not_lt_zero _)⟩ ?keep ?step ?last ?he
  case keep =>
    rintro i m₁ n₁ h ⟨_, rfl, _⟩ F₂ N₂
    exact (N₂ _ (hsub _ hx)).1
  case he =>
    intro R hR
    refine nameX_L F₁ (v := .ref T₀) rfl hR
  case last =>
    rintro m₁ n₁ h tk ⟨hm, rfl, hno⟩ F₂ N₂
    refine wpAny_execs_nil ?_
    dsimp only
    iterate 6 walk1
    rename_i l' h₃ F₃ N₃ l₃ F₄ N₄ T₄ X₄
    have hbn : bfind rows k = none := bfind_none_of fun j q hq' => hno j q (by
      rw [List.size_toArray]
      unfold refs
      rw [List.length_map, drows_len bk.rows]
      exact (List.getElem?_eq_some_iff.mp hq').1) hq'
    refine hq l' [(l', W.listOf #[] 0)] _ _ F₄ N₄ (fun q hq' z hz => ?_) (by rw [hbn]; exact .list (vs := []) (.head _) .nil)
    rw [List.mem_singleton.mp hq']
    exact Nat.ne_of_gt (l₃ z hz)
  case step =>
    rintro I i v m₁ n₁ h tk o hv ⟨hm, rfl, hno⟩ F₂ N₂ off hoc
    obtain ⟨⟨pk, rw', rl⟩, hp, rfl⟩ : ∃ p, es[i]? = some p ∧ v = .ref p.2.1 := by
      unfold refs at hv
      rw [List.getElem?_toArray, List.getElem?_map] at hv
      obtain ⟨p, h1, h2⟩ := Option.map_eq_some_iff.mp hv
      exact ⟨p, h1, h2.symm⟩
    obtain ⟨q, hq1, hqk, tq, j, j', us, hrw, hrl, hd⟩ := drows_get bk.rows hp
    dsimp only at hqk hrw hrl ⊢
    have N₃ : News g' L' h ((rw', W.listOf #[Value.int pk tq, .ref rl] j) :: (I, o) :: n₁) := cb_drop N₂ fun z hz => by
      rcases List.mem_cons.mp hz with rfl | hz
      · exact .tail _ (hsub _ hrw)
      · exact hz
    clear N₂
    iterate 14 walk1
    · rename_i h₃ F₃ N₃ e
      have N₄ : News g' L' h₃ ((rw', W.listOf #[Value.int pk tq, Value.ref rl] j) :: n₁) := cb_drop N₃ fun z hz => by
        rcases List.mem_cons.mp hz with rfl | hz
        · exact .head _
        · exact .tail _ (.tail _ hz)
      iterate 6 walk1
      have N₅ : News g' L' h₃ n₁ := cb_drop N₃ fun z hz => .tail _ (.tail _ hz)
      clear N₃ N₄
      unfold TurnOver
      dsimp only
      walk1
      refine hq rl [] _ _ (by assumption) (by assumption) (fun q hq' => nomatch hq') ?_
      rw [bfind_some_of hq1 (hqk.symm.trans e) hno]
      exact .list hrl (hd.mono fun q hq => tups_sub q hq)
    · rename_i h₃ F₃ N₃ e
      iterate 1 walk1
      iterate 3 (try (dsimp only; with_reducible refine wpAny_execs_nil ?_))
      refine ⟨_, _, _, n₁, rfl, F₃, cb_drop N₃ (fun z hz => .tail _ hz), off, ?_, rfl, fun j' q' hj hq' => ?_⟩
      · exact hm
      · rcases Nat.lt_succ_iff_lt_or_eq.mp hj with hj | rfl
        · exact hno j' q' hj hq'
        · rw [hq1] at hq'; cases hq'; rw [← hqk]; exact e
theorem found_str : ∀ {w : World} {dp un : Nat} {cn : Str} {cs : Scope} {a : Addr} {ccd : Value} {cl : List (Str × Addr)} {outer : List Env} {A₀ : Around} {base h₀ : Heap} {L : Addr} {m mg mb : Str → Option Value} {s : Shared} {Q E : Value → Shared → Prop} {news nw : List (Addr × Obj)} {p : Program} {loose : List Str} {mean : ExcName → Option Value} {T₀ : Addr} {es : List (Str × Addr × Addr)} {k : Str} {t : Tok} {rows : List (Str × List Dat)},
    Below A₀ base outer h₀ → Fr h₀ L s.heap m → (Mine.hd.heap_39 w.params).In h₀ → News h₀ L s.heap news → Top p loose mean mg mb h₀ → cs.kind = .function →
    dp + 10 ≤ 400 → un + 50 ≤ 100 → DBook Value.str nw T₀ es rows → (∀ q ∈ nw, q ∈ news) →
    (∀ (l : Addr) (pre : List (Addr × Obj)) (h' : Heap) (tk' : Nat), Fr h₀ L h' m → News h₀ L h' (pre ++ news) → (∀ q ∈ pre, ∀ z ∈ news, q.1 ≠ z.1) → DatIn (pre ++ nw) (.ref l) (.list ((bfind rows k).getD [])) → Q (.ref l) { s with heap := h', toks := tk' }) →
    wpAny (model Challenge.rw_in0191_01.row.prog w) (ktrTop dp un (some []) cn cs L a ccd cl outer) (call (.ref 293) [.ref T₀, .str k t]) Q E s := by
  k_fill
  intro w dp un cn cs a ccd cl outer A₀ base h₀ L m mg mb s Q E news nw p loose mean T₀ es k t rows B F X N T hk hdp hun bk hsub hq
  refine wpAny_call ?_
  k_dflt cell_enter
  rename_i g' L' h' FG' F₁ N₁ B' X' T'
  obtain ⟨n, hx⟩ := bk.at_
  refine wpAny_execs_cons ?_
  refine forList (l := T₀) (items := (refs es).toArray) (lo := W.listOf (refs es).toArray n) (k := n) (fun i m₁ n₁ => m₁ (Str.ofString "key") = some (.str k t) ∧ n₁ = news ∧ ∀ (j : Nat) (q : Str × List Dat), j < i → rows[j]? = some q → q.1 ≠ k) rfl F₁ N₁ ⟨rfl, rfl⟩ (N₁ _ (hsub _ hx)).1 ⟨rfl, rfl, fun j q h _ => absurd h (Nat.not_lt_zero _)⟩ ?keep ?step ?last ?he
  case keep =>
    rintro i m₁ n₁ h ⟨_, rfl, _⟩ F₂ N₂
    exact (N₂ _ (hsub _ hx)).1
  case he =>
    intro R hR
    refine nameX_L F₁ (v := .ref T₀) rfl hR
  case last =>
    rintro m₁ n₁ h tk ⟨hm, rfl, hno⟩ F₂ N₂
    refine wpAny_execs_nil ?_
    dsimp only
    iterate 6 walk1
    rename_i l' h₃ F₃ N₃ l₃ F₄ N₄ T₄ X₄
    have hbn : bfind rows k = none := bfind_none_of fun j q hq' => hno j q (by
      rw [List.size_toArray]
      unfold refs
      rw [List.length_map, drows_len bk.rows]
      exact (List.getElem?_eq_some_iff.mp hq').1) hq'
    refine hq l' [(l', W.listOf #[] 0)] _ _ F₄ N₄ (fun q hq' z hz => ?_) (by rw [hbn]; exact .list (vs := []) (.head _) .nil)
    rw [List.mem_singleton.mp hq']
    exact Nat.ne_of_gt (l₃ z hz)
  case step =>
    rintro I i v m₁ n₁ h tk o hv ⟨hm, rfl, hno⟩ F₂ N₂ off hoc
    obtain ⟨⟨pk, rw', rl⟩, hp, rfl⟩ : ∃ p, es[i]? = some p ∧ v = .ref p.2.1 := by
      unfold refs at hv
      rw [List.getElem?_toArray, List.getElem?_map] at hv
      obtain ⟨p, h1, h2⟩ := Option.map_eq_some_iff.mp hv
      exact ⟨p, h1, h2.symm⟩
    obtain ⟨q, hq1, hqk, tq, j, j', us, hrw, hrl, hd⟩ := drows_get bk.rows hp
    dsimp only at hqk hrw hrl ⊢
    have N₃ : News g' L' h ((rw', W.listOf #[Value.str pk tq, .ref rl] j) :: (I, o) :: n₁) := cb_drop N₂ fun z hz => by
      rcases List.mem_cons.mp hz with rfl | hz
      · exact .tail _ (hsub _ hrw)
      · exact hz
    clear N₂
    iterate 14 walk1
    · rename_i h₃ F₃ N₃ e
      have N₄ : News g' L' h₃ ((rw', W.listOf #[Value.str pk tq, Value.ref rl] j) :: n₁) := cb_drop N₃ fun z hz => by
        rcases List.mem_cons.mp hz with rfl | hz
        · exact .head _
        · exact .tail _ (.tail _ hz)
      iterate 6 walk1
      have N₅ : News g' L' h₃ n₁ := cb_drop N₃ fun z hz => .tail _ (.tail _ hz)
      clear N₃ N₄
      unfold TurnOver
      dsimp only
      walk1
      refine hq rl [] _ _ (by assumption) (by assumption) (fun q hq' => nomatch hq') ?_
      rw [bfind_some_of hq1 (hqk.symm.trans (eq_of_beq e)) hno]
      exact .list hrl (hd.mono fun q hq => tups_sub q hq)
    · rename_i h₃ F₃ N₃ e
      iterate 1 walk1
      iterate 3 (try (dsimp only; with_reducible refine wpAny_execs_nil ?_))
      refine ⟨_, _, _, n₁, rfl, F₃, cb_drop N₃ (fun z hz => .tail _ hz), off, ?_, rfl, fun j' q' hj hq' => ?_⟩
      · exact hm
      · rcases Nat.lt_succ_iff_lt_or_eq.mp hj with hj | rfl
        · exact hno j' q' hj hq'
        · rw [hq1] at hq'; cases hq'; rw [← hqk]; exact ne_of_beq_false e
end
end Mine
end

section -- D3
open PySem PySem.W PySem.W.X PyProof.Rows PySem.Calls
set_option Elab.async false
set_option maxRecDepth 100000
set_option maxHeartbeats 1000000
namespace Mine
section
variable {κ : Type} {keyV : κ → Tok → Value} {n n' : List (Addr × Obj)}
theorem adr_cons {p : κ × Addr × Addr} {r : List (κ × Addr × Addr)} : adr (p :: r) = p.2.1 :: p.2.2 :: adr r := rfl
theorem drows_push [DecidableEq κ] {k : κ} {rl : Addr} {us : List Value} {v : Value} {d : Dat} {g : Bool} {j2 : Nat} (ht : ∀ q ∈ tups n, q ∈ tups n') (hrl : (rl, W.listOf (us ++ [v]).toArray j2) ∈ n') (keep : ∀ q ∈ n, q.1 ≠ rl → q ∈ n') (uniq : ∀ us' j', (rl, W.listOf us'.toArray j') ∈ n → us' = us) (hd : DatIn (tups n') v d) :
    ∀ {es : List (κ × Addr × Addr)} {rows : List (κ × List Dat)} {i : Nat} {p : κ × Addr × Addr}, DRowsL keyV n es rows → es[i]? = some p → p.1 = k → p.2.2 = rl → (∀ (j : Nat) (q : κ × List Dat), j < i → rows[j]? = some q → q.1 ≠ k) → (adr es).Nodup → DRowsL keyV n' es (bput rows k d g)
  | [], _, _, _, _, h, _, _, _, _ => by simp at h
  | _ :: _, [], _, _, h, _, _, _, _, _ => h.elim
  | p :: r, q :: r', 0, p', ⟨⟨e, t, j, j', us', h1, h2, h3⟩, hr⟩, hp, hk, hz, _, nd => by
    simp at hp; subst hp
    rw [adr_cons, List.nodup_cons, List.nodup_cons] at nd
    rw [bput, if_pos (e ▸ hk)]
    subst hz
    obtain rfl := uniq _ _ h2
    refine ⟨⟨e, t, j, j2, us' ++ [v], keep _ h1 fun x => nd.1 (by rw [show p.2.1 = p.2.2 from x]; exact .head _), hrl, (h3.mono ht).append (.one hd)⟩, drows_keep ht hr fun z hz hz' => keep z hz fun x => nd.2.1 (x ▸ hz')⟩
  | p :: r, q :: r', i + 1, p', ⟨⟨e, t, j, j', us', h1, h2, h3⟩, hr⟩, hp, hk, hz, hno, nd => by
    rw [adr_cons, List.nodup_cons, List.nodup_cons] at nd
    have hp' : r[i]? = some p' := by simpa using hp
    have hin : rl ∈ adr r := mem_adr.mpr ⟨p', List.mem_of_getElem? hp', .inr hz.symm⟩
    rw [bput, if_neg (hno 0 q (Nat.succ_pos i) rfl)]
    refine ⟨⟨e, t, j, j', us', keep _ h1 fun x => nd.1 (.tail _ (by rw [show p.2.1 = rl from x]; exact hin)), keep _ h2 fun x => nd.2.1 (by rw [show p.2.2 = rl from x]; exact hin), h3.mono ht⟩, drows_push ht hrl keep uniq hd hr hp' hk hz (fun j q hj hq => hno (j + 1) q (Nat.succ_lt_succ hj) (by simpa using hq)) nd.2.2⟩
theorem drows_snoc {k : κ} {rw' rl : Addr} {t : Tok} {v : Value} {d : Dat} {j j' : Nat} (h1 : (rw', W.listOf #[keyV k t, .ref rl] j) ∈ n) (h2 : (rl, W.listOf [v].toArray j') ∈ n) (hd : DatIn (tups n) v d) : ∀ {es : List (κ × Addr × Addr)} {rows : List (κ × List Dat)}, DRowsL keyV n es rows → DRowsL keyV n (es ++ [(k, rw', rl)]) (rows ++ [(k, [d])])
  | [], [], _ => ⟨⟨rfl, t, j, j', [v], h1, h2, .one hd⟩, trivial⟩
  | [], _ :: _, h => h.elim
  | _ :: _, [], h => h.elim
  | _ :: _, _ :: _, h => ⟨h.1, drows_snoc h1 h2 hd h.2⟩
theorem adr_snoc {es : List (κ × Addr × Addr)} {p : κ × Addr × Addr} : adr (es ++ [p]) = adr es ++ [p.2.1, p.2.2] := by
  unfold adr
  rw [List.flatMap_append]
  rfl
/-- a record goes behind those of its row -/
theorem DBook.push [DecidableEq κ] {h₀ h : Heap} {L : Addr} {T : Addr} {es : List (κ × Addr × Addr)} {rows : List (κ × List Dat)} {i : Nat} {p : κ × Addr × Addr} {us : List Value} {j j2 : Nat} {v : Value} {d : Dat} {g : Bool} (b : DBook keyV n T es rows) (N : News h₀ L h n) (hp : es[i]? = some p)
    (hno : ∀ (j : Nat) (q : κ × List Dat), j < i → rows[j]? = some q → q.1 ≠ p.1) (hm : (p.2.2, W.listOf us.toArray j) ∈ n) (hd : DatIn (tups n) v d) : DBook keyV ((p.2.2, W.listOf (us.toArray.push v) j2) :: offL p.2.2 n) T es (bput rows p.1 d g) := by
  have keep : ∀ q ∈ n, q.1 ≠ p.2.2 → q ∈ (p.2.2, W.listOf (us.toArray.push v) j2) :: offL p.2.2 n := fun q hq h => .tail _ (List.mem_filter.mpr ⟨hq, decide_eq_true h⟩)
  have ht := tups_keep (hard_of_but N hm (hard_list _ _) (show KeepBut p.2.2 n _ from keep))
  have hin : p.2.2 ∈ adr es := mem_adr.mpr ⟨p, List.mem_of_getElem? hp, .inr rfl⟩
  obtain ⟨j', h1⟩ := b.at_
  have nd := List.nodup_cons.mp b.nd
  refine ⟨⟨j', keep _ h1 fun x => nd.1 (by rw [show T = p.2.2 from x]; exact hin)⟩, ?_, b.nd⟩
  exact drows_push (us := us) (j2 := j2) ht (by rw [← List.push_toArray]; exact .head _) keep (fun us' j' h => list_one N hm h) (hd.mono ht) b.rows hp rfl rfl hno nd.2
/-- a new row -/
theorem DBook.new [DecidableEq κ] {T : Addr} {es : List (κ × Addr × Addr)} {rows : List (κ × List Dat)} {rw' rl : Addr} {t : Tok} {j j' j2 : Nat} {k : κ} {v : Value} {d : Dat} (b : DBook keyV n T es rows) (hT : (T, W.listOf ((refs es).toArray.push (.ref rw')) j2) ∈ n') (h1 : (rw', W.listOf #[keyV k t, .ref rl] j) ∈ n') (h2 : (rl, W.listOf [v].toArray j') ∈ n') (hd : DatIn (tups n') v d)
    (ht : ∀ q ∈ tups n, q ∈ tups n') (keep : ∀ q ∈ n, q.1 ≠ T → q ∈ n') (f1 : ∀ q ∈ n, q.1 ≠ rw') (f2 : ∀ q ∈ n, q.1 ≠ rl) (f3 : rw' ≠ rl) : DBook keyV n' T (es ++ [(k, rw', rl)]) (rows ++ [(k, [d])]) := by
  have nd := List.nodup_cons.mp b.nd
  have ap : ∀ z ∈ T :: adr es, z ≠ rw' ∧ z ≠ rl := fun z hz => by
    obtain ⟨xs, j, h⟩ := b.adrs z hz
    exact ⟨f1 _ h, f2 _ h⟩
  refine ⟨⟨j2, ?_⟩, drows_snoc h1 h2 hd (drows_keep ht b.rows fun q hq hq' => keep q hq fun x => nd.1 (x ▸ hq')), ?_⟩
  · unfold refs at hT ⊢
    rw [List.map_append]
    rw [List.push_toArray] at hT
    exact hT
  · rw [adr_snoc, ← List.cons_append]
    refine List.nodup_append.mpr ⟨b.nd, ?_, fun z hz y hy e => ?_⟩
    · refine List.nodup_cons.mpr ⟨fun h => f3 (List.mem_singleton.mp h), List.nodup_cons.mpr ⟨nofun, List.nodup_nil⟩⟩
    · rcases List.mem_cons.mp hy with h | h
      · exact (ap z hz).1 (e.trans h)
      · exact (ap z hz).2 (e.trans (List.mem_singleton.mp h))
end
end Mine
end

section -- D4
open PySem PySem.W PySem.W.X PyProof.Rows PySem.Calls
set_option Elab.async false
set_option maxRecDepth 100000
set_option maxHeartbeats 300000
namespace Mine
section
local macro_rules | `(tactic| walk_at "eval Name") => `(tactic| (k_here; k_dflt (refine' nameX_L ?F ?v ?_ ?a ?b; (case F => k_asm); (case a => rfl); (case b => rfl); (case v => assumption); k_whole)))
theorem put_int : ∀ {w : World} {dp un : Nat} {cn : Str} {cs : Scope} {a : Addr} {ccd : Value} {cl : List (Str × Addr)} {outer : List Env} {A₀ : Around} {base h₀ : Heap} {L : Addr} {m mg mb : Str → Option Value} {s : Shared} {Q E : Value → Shared → Prop} {news : List (Addr × Obj)} {p : Program} {loose : List Str} {mean : ExcName → Option Value} {T₀ : Addr} {es : List (Int × Addr × Addr)} {k : Int} {t : Tok} {rows : List (Int × List Dat)} {v : Value} {d : Dat} {g : Bool},
    Below A₀ base outer h₀ → Fr h₀ L s.heap m → (Mine.hd.heap_39 w.params).In h₀ → News h₀ L s.heap news → Top p loose mean mg mb h₀ → cs.kind = .function →
    dp + 10 ≤ 400 → un + 50 ≤ 100 → DBook Value.int news T₀ es rows → DatIn (tups news) v d → es.length ≤ 100 → (∀ q ∈ rows, q.2.length ≤ 100) →
    (∀ (h' : Heap) (tk' : Nat) (n' : List (Addr × Obj)) (es' : List (Int × Addr × Addr)), Fr h₀ L h' m → News h₀ L h' n' → DBook Value.int n' T₀ es' (bput rows k d g) → (∀ q ∈ news, q.1 ∉ T₀ :: adr es → q ∈ n') → (∀ z ∈ adr es', z ∈ adr es ∨ ∀ q ∈ news, q.1 ≠ z) → es'.length ≤ es.length + 1 → Q .none { s with heap := h', toks := tk' }) →
    wpAny (model Challenge.rw_in0191_01.row.prog w) (ktrTop dp un (some []) cn cs L a ccd cl outer) (call (.ref 286) [.ref T₀, .int k t, v, .bool g]) Q E s := by
  k_fill
  intro w dp un cn cs a ccd cl outer A₀ base h₀ L m mg mb s Q E news p loose mean T₀ es k t rows v d g B F X N T hk hdp hun bk hvd hel hrl100 hq
  refine wpAny_call ?_
  k_dflt cell_enter
  rename_i g' L' h' FG' F₁ N₁ B' X' T'
  obtain ⟨n, hx⟩ := bk.at_
  refine wpAny_execs_cons ?_
  refine forList (l := T₀) (items := (refs es).toArray) (lo := W.listOf (refs es).toArray n) (k := n) (fun i m₁ n₁ => m₁ (Str.ofString "key") = some (.int k t) ∧ m₁ (Str.ofString "rows") = some (.ref T₀) ∧ m₁ (Str.ofString "record") = some v ∧ m₁ (Str.ofString "grows") = some (.bool g) ∧ n₁ = news ∧ ∀ (j : Nat) (q : Int × List Dat), j < i → rows[j]? = some q → q.1 ≠ k) rfl F₁ N₁ ⟨rfl, rfl⟩ (N₁ _ hx).1 ⟨rfl, rfl, rfl, rfl, rfl, fun j q h _ => absurd h (Nat.not_lt_zero _)⟩ ?keep ?step ?last ?he
  case keep =>
    rintro i m₁ n₁ h ⟨_, _, _, _, rfl, _⟩ F₂ N₂
    exact (N₂ _ hx).1
  case he =>
    intro R hR
    refine nameX_L F₁ (v := .ref T₀) rfl hR
  case last =>
    rintro m₁ n₁ h tk ⟨hm, hmr, hmv, hmg, rfl, hno⟩ F₂ N₂
    have hbn : bfind rows k = none := bfind_none_of fun j q hq' => hno j q (by
      rw [List.size_toArray]
      unfold refs
      rw [List.length_map, drows_len bk.rows]
      exact (List.getElem?_eq_some_iff.mp hq').1) hq'
    refine wpAny_execs_nil ?_
    dsimp only
    cases g with
    | false =>
      iterate 11 walk1
      refine hq _ _ _ es (by assumption) (by assumption) ?_ (fun z hz _ => hz) (fun z hz => .inl hz) (Nat.le_succ _)
      rw [bput_none hbn]
      exact bk
    | true =>
      iterate 15 walk1
      refine nameX_L F₂ (v := .int k t) hm ?_
      iterate 3 walk1
      refine nameX_L F₂ (v := v) hmv ?_
      iterate 2 walk1
      rename_i rl h₃ F₃ N₃ l₃
      have f2 : ∀ q ∈ n₁, q.1 ≠ rl := fun q hq => Nat.ne_of_lt (l₃ q hq)
      iterate 2 walk1
      rename_i rw' h₄ F₄ N₄ l₄
      have f1 : ∀ q ∈ n₁, q.1 ≠ rw' := fun q hq => Nat.ne_of_lt (kst_ltOf l₄.2 q hq)
      have f3 : rw' ≠ rl := Nat.ne_of_gt l₄.1
      iterate 1 walk1
      have mT : (T₀, W.listOf (refs es).toArray n) ∈ (rw', W.listOf #[Value.int k t, Value.ref rl] 0) :: (rl, W.listOf #[v] 0) :: n₁ := .tail _ (.tail _ hx)
      have hT1 : rw' ≠ T₀ := fun x => f1 _ hx x.symm
      have hT2 : rl ≠ T₀ := fun x => f2 _ hx x.symm
      refine append_any F₄ N₄ mT (by unfold refs; rw [List.size_toArray, List.length_map, sizeLine_eq]; omega) fun h₅ F₅ N₅ => ?_
      have b1 : (rw', W.listOf #[Value.int k t, Value.ref rl] 0) ∈ (T₀, W.listOf ((refs es).toArray.push (.ref rw')) (n + 1)) :: offL T₀ ((rw', W.listOf #[Value.int k t, Value.ref rl] 0) :: (rl, W.listOf #[v] 0) :: n₁) := .tail _ (List.mem_filter.mpr ⟨.head _, decide_eq_true hT1⟩)
      have b2 : (rl, W.listOf [v].toArray 0) ∈ (T₀, W.listOf ((refs es).toArray.push (.ref rw')) (n + 1)) :: offL T₀ ((rw', W.listOf #[Value.int k t, Value.ref rl] 0) :: (rl, W.listOf #[v] 0) :: n₁) := .tail _ (List.mem_filter.mpr ⟨.tail _ (.head _), decide_eq_true hT2⟩)
      have keep : ∀ q ∈ n₁, q.1 ≠ T₀ → q ∈ (T₀, W.listOf ((refs es).toArray.push (.ref rw')) (n + 1)) :: offL T₀ ((rw', W.listOf #[Value.int k t, Value.ref rl] 0) :: (rl, W.listOf #[v] 0) :: n₁) := fun q hq h => .tail _ (List.mem_filter.mpr ⟨.tail _ (.tail _ hq), decide_eq_true h⟩)
      have ht := tups_keep (hard_of_but (cb_drop N₄ fun q hq => .tail _ (.tail _ hq)) hx (hard_list _ _) (show KeepBut T₀ n₁ _ from keep))
      have bk' := DBook.new (k := k) (d := d) bk (.head _) b1 b2 (hvd.mono ht) ht keep f1 f2 f3
      clear N₄
      iterate 4 (try walk1)
      iterate 1 (dsimp only; walk1)
      rename_i F₆ N₆ T₆ X₆
      refine hq _ _ _ _ F₆ N₆ (by rw [bput_none hbn]; exact bk') (fun q hq hn => keep q hq fun x => hn (by rw [x]; exact .head _)) (fun z hz => ?_) (by simp)
      rw [adr_snoc] at hz
      rcases List.mem_append.mp hz with hz | hz
      · exact .inl hz
      · rcases List.mem_cons.mp hz with rfl | hz
        · exact .inr f1
        · rw [List.mem_singleton.mp hz]; exact .inr f2
  case step =>
    rintro I i v₀ m₁ n₁ h tk o hv ⟨hm, hmr, hmv, hmg, rfl, hno⟩ F₂ N₂ off hoc
    obtain ⟨⟨pk, rw', rl⟩, hp, rfl⟩ : ∃ p, es[i]? = some p ∧ v₀ = .ref p.2.1 := by
      unfold refs at hv
      rw [List.getElem?_toArray, List.getElem?_map] at hv
      obtain ⟨p, h1, h2⟩ := Option.map_eq_some_iff.mp hv
      exact ⟨p, h1, h2.symm⟩
    obtain ⟨q, hq1, hqk, tq, j, j', us, hrw, hrl, hd⟩ := drows_get bk.rows hp
    dsimp only at hqk hrw hrl ⊢
    have N₃ : News g' L' h ((rw', W.listOf #[Value.int pk tq, Value.ref rl] j) :: (I, o) :: n₁) := cb_drop N₂ fun z hz => by
      rcases List.mem_cons.mp hz with rfl | hz
      · exact .tail _ hrw
      · exact hz
    clear N₂
    iterate 14 walk1
    · rename_i h₃ F₃ N₃ e
      have N₄ : News g' L' h₃ ((rl, W.listOf us.toArray j') :: (rw', W.listOf #[Value.int pk tq, Value.ref rl] j) :: n₁) := cb_drop N₃ fun z hz => by
        rcases List.mem_cons.mp hz with rfl | hz
        · exact .tail _ (.tail _ hrl)
        rcases List.mem_cons.mp hz with rfl | hz
        · exact .head _
        · exact .tail _ (.tail _ hz)
      clear N₃
      iterate 10 walk1
      refine nameX_L F₃ (v := v) hmv ?_
      iterate 1 walk1
      have hul : us.length ≤ 100 := by rw [hd.length]; exact hrl100 q (List.mem_of_getElem? hq1)
      refine append_any F₃ N₄ (.head _) (by rw [List.size_toArray, sizeLine_eq]; omega) fun h₄ F₄ N₅ => ?_
      iterate 3 walk1
      have N₆ : News g' L' h₄ ((rl, W.listOf (us.toArray.push v) (j' + 1)) :: offL rl n₁) := cb_drop N₅ fun z hz => by
        rcases List.mem_cons.mp hz with rfl | hz
        · exact .head _
        · refine .tail _ (List.mem_filter.mpr ⟨.tail _ (.tail _ (List.mem_filter.mp hz).1), (List.mem_filter.mp hz).2⟩)
      have N₂' : News g' L' h₃ n₁ := cb_drop N₄ fun z hz => .tail _ (.tail _ hz)
      have bk' := bk.push (j2 := j' + 1) (g := g) N₂' hp (fun j q hj hq => by show q.1 ≠ pk; rw [e]; exact hno j q hj hq) hrl hvd
      clear N₅ N₄ N₂'
      unfold TurnOver
      dsimp only
      iterate 2 (try walk1)
      rename_i F₅ N₅ T₅ X₅
      refine hq _ _ _ es F₅ N₅ ?_ (fun z hz hn => .tail _ (List.mem_filter.mpr ⟨hz, decide_eq_true fun x => hn (.tail _ (mem_adr.mpr ⟨_, List.mem_of_getElem? hp, .inr x⟩))⟩)) (fun z hz => .inl hz) (Nat.le_succ _)
      rw [← e]
      exact bk'
    · rename_i h₃ F₃ N₃ e
      iterate 1 walk1
      iterate 3 (try (dsimp only; with_reducible refine wpAny_execs_nil ?_))
      refine ⟨_, _, _, n₁, rfl, F₃, cb_drop N₃ (fun z hz => .tail _ hz), off, hm, hmr, hmv, hmg, rfl, fun j' q' hj hq' => ?_⟩
      rcases Nat.lt_succ_iff_lt_or_eq.mp hj with hj | rfl
      · exact hno j' q' hj hq'
      · rw [hq1] at hq'; cases hq'; rw [← hqk]; exact e
theorem put_str : ∀ {w : World} {dp un : Nat} {cn : Str} {cs : Scope} {a : Addr} {ccd : Value} {cl : List (Str × Addr)} {outer : List Env} {A₀ : Around} {base h₀ : Heap} {L : Addr} {m mg mb : Str → Option Value} {s : Shared} {Q E : Value → Shared → Prop} {news : List (Addr × Obj)} {p : Program} {loose : List Str} {mean : ExcName → Option Value} {T₀ : Addr} {es : List (Str × Addr × Addr)} {k : Str} {t : Tok} {rows : List (Str × List Dat)} {v : Value} {d : Dat} {g : Bool},
    Below A₀ base outer h₀ → Fr h₀ L s.heap m → (Mine.hd.heap_39 w.params).In h₀ → News h₀ L s.heap news → Top p loose mean mg mb h₀ → cs.kind = .function →
    dp + 10 ≤ 400 → un + 50 ≤ 100 → DBook Value.str news T₀ es rows → DatIn (tups news) v d → es.length ≤ 100 → (∀ q ∈ rows, q.2.length ≤ 100) →
    (∀ (h' : Heap) (tk' : Nat) (n' : List (Addr × Obj)) (es' : List (Str × Addr × Addr)), Fr h₀ L h' m → News h₀ L h' n' → DBook Value.str n' T₀ es' (bput rows k d g) → (∀ q ∈ news, q.1 ∉ T₀ :: adr es → q ∈ n') → (∀ z ∈ adr es', z ∈ adr es ∨ ∀ q ∈ news, q.1 ≠ z) → es'.length ≤ es.length + 1 → Q .none { s with heap := h', toks := tk' }) →
    wpAny (model Challenge.rw_in0191_01.row.prog w) (ktrTop dp un (some []) cn cs L a ccd cl outer) (call (.ref 286) [.ref T₀, .str k t, v, .bool g]) Q E s := by
  k_fill
  intro w dp un cn cs a ccd cl outer A₀ base h₀ L m mg mb s Q E news p loose mean T₀ es k t rows v d g B F X N T hk hdp hun bk hvd hel hrl100 hq
  refine wpAny_call ?_
  k_dflt cell_enter
  rename_i g' L' h' FG' F₁ N₁ B' X' T'
  obtain ⟨n, hx⟩ := bk.at_
  refine wpAny_execs_cons ?_
  refine forList (l := T₀) (items := (refs es).toArray) (lo := W.listOf (refs es).toArray n) (k := n) (fun i m₁ n₁ => m₁ (Str.ofString "key") = some (.str k t) ∧ m₁ (Str.ofString "rows") = some (.ref T₀) ∧ m₁ (Str.ofString "record") = some v ∧ m₁ (Str.ofString "grows") = some (.bool g) ∧ n₁ = news ∧ ∀ (j : Nat) (q : Str × List Dat), j < i → rows[j]? = some q → q.1 ≠ k) rfl F₁ N₁ ⟨rfl, rfl⟩ (N₁ _ hx).1 ⟨rfl, rfl, rfl, rfl, rfl, fun j q h _ => absurd h (Nat.not_lt_zero _)⟩ ?keep ?step ?last ?he
  case keep =>
    rintro i m₁ n₁ h ⟨_, _, _, _, rfl, _⟩ F₂ N₂
    exact (N₂ _ hx).1
  case he =>
    intro R hR
    refine nameX_L F₁ (v := .ref T₀) rfl hR
  case last =>
    rintro m₁ n₁ h tk ⟨hm, hmr, hmv, hmg, rfl, hno⟩ F₂ N₂
    have hbn : bfind rows k = none := bfind_none_of fun j q hq' => hno j q (by
      rw [List.size_toArray]
      unfold refs
      rw [List.length_map, drows_len bk.rows]
      exact (List.getElem?_eq_some_iff.mp hq').1) hq'
    refine wpAny_execs_nil ?_
    dsimp only
    cases g with
    | false =>
      iterate 11 walk1
      refine hq _ _ _ es (by assumption) (by assumption) ?_ (fun z hz _ => hz) (fun z hz => .inl hz) (Nat.le_succ _)
      rw [bput_none hbn]
      exact bk
    | true =>
      iterate 15 walk1
      refine nameX_L F₂ (v := .str k t) hm ?_
      iterate 3 walk1
      refine nameX_L F₂ (v := v) hmv ?_
      iterate 2 walk1
      rename_i rl h₃ F₃ N₃ l₃
      have f2 : ∀ q ∈ n₁, q.1 ≠ rl := fun q hq => Nat.ne_of_lt (l₃ q hq)
      iterate 2 walk1
      rename_i rw' h₄ F₄ N₄ l₄
      have f1 : ∀ q ∈ n₁, q.1 ≠ rw' := fun q hq => Nat.ne_of_lt (kst_ltOf l₄.2 q hq)
      have f3 : rw' ≠ rl := Nat.ne_of_gt l₄.1
      iterate 1 walk1
      have mT : (T₀, W.listOf (refs es).toArray n) ∈ (rw', W.listOf #[Value.str k t, Value.ref rl] 0) :: (rl, W.listOf #[v] 0) :: n₁ := .tail _ (.tail _ hx)
      have hT1 : rw' ≠ T₀ := fun x => f1 _ hx x.symm
      have hT2 : rl ≠ T₀ := fun x => f2 _ hx x.symm
      refine append_any F₄ N₄ mT (by unfold refs; rw [List.size_toArray, List.length_map, sizeLine_eq]; omega) fun h₅ F₅ N₅ => ?_
      have b1 : (rw', W.listOf #[Value.str k t, Value.ref rl] 0) ∈ (T₀, W.listOf ((refs es).toArray.push (.ref rw')) (n + 1)) :: offL T₀ ((rw', W.listOf #[Value.str k t, Value.ref rl] 0) :: (rl, W.listOf #[v] 0) :: n₁) := .tail _ (List.mem_filter.mpr ⟨.head _, decide_eq_true hT1⟩)
      have b2 : (rl, W.listOf [v].toArray 0) ∈ (T₀, W.listOf ((refs es).toArray.push (.ref rw')) (n + 1)) :: offL T₀ ((rw', W.listOf #[Value.str k t, Value.ref rl] 0) :: (rl, W.listOf #[v] 0) :: n₁) := .tail _ (List.mem_filter.mpr ⟨.tail _ (.head _), decide_eq_true hT2⟩)
      have keep : ∀ q ∈ n₁, q.1 ≠ T₀ → q ∈ (T₀, W.listOf ((refs es).toArray.push (.ref rw')) (n + 1)) :: offL T₀ ((rw', W.listOf #[Value.str k t, Value.ref rl] 0) :: (rl, W.listOf #[v] 0) :: n₁) := fun q hq h => .tail _ (List.mem_filter.mpr ⟨.tail _ (.tail _ hq), decide_eq_true h⟩)
      have ht := tups_keep (hard_of_but (cb_drop N₄ fun q hq => .tail _ (.tail _ hq)) hx (hard_list _ _) (show KeepBut T₀ n₁ _ from keep))
      have bk' := DBook.new (k := k) (d := d) bk (.head _) b1 b2 (hvd.mono ht) ht keep f1 f2 f3
      clear N₄
      iterate 4 (try walk1)
      iterate 1 (dsimp only; walk1)
      rename_i F₆ N₆ T₆ X₆
      refine hq _ _ _ _ F₆ N₆ (by rw [bput_none hbn]; exact bk') (fun q hq hn => keep q hq fun x => hn (by rw [x]; exact .head _)) (fun z hz => ?_) (by simp)
      rw [adr_snoc] at hz
      rcases List.mem_append.mp hz with hz | hz
      · exact .inl hz
      · rcases List.mem_cons.mp hz with rfl | hz
        · exact .inr f1
        · rw [List.mem_singleton.mp hz]; exact .inr f2
  case step =>
    rintro I i v₀ m₁ n₁ h tk o hv ⟨hm, hmr, hmv, hmg, rfl, hno⟩ F₂ N₂ off hoc
    obtain ⟨⟨pk, rw', rl⟩, hp, rfl⟩ : ∃ p, es[i]? = some p ∧ v₀ = .ref p.2.1 := by
      unfold refs at hv
      rw [List.getElem?_toArray, List.getElem?_map] at hv
      obtain ⟨p, h1, h2⟩ := Option.map_eq_some_iff.mp hv
      exact ⟨p, h1, h2.symm⟩
    obtain ⟨q, hq1, hqk, tq, j, j', us, hrw, hrl, hd⟩ := drows_get bk.rows hp
    dsimp only at hqk hrw hrl ⊢
    have N₃ : News g' L' h ((rw', W.listOf #[Value.str pk tq, Value.ref rl] j) :: (I, o) :: n₁) := cb_drop N₂ fun z hz => by
      rcases List.mem_cons.mp hz with rfl | hz
      · exact .tail _ hrw
      · exact hz
    clear N₂
    iterate 14 walk1
    · rename_i h₃ F₃ N₃ e
      have e := eq_of_beq e
      have N₄ : News g' L' h₃ ((rl, W.listOf us.toArray j') :: (rw', W.listOf #[Value.str pk tq, Value.ref rl] j) :: n₁) := cb_drop N₃ fun z hz => by
        rcases List.mem_cons.mp hz with rfl | hz
        · exact .tail _ (.tail _ hrl)
        rcases List.mem_cons.mp hz with rfl | hz
        · exact .head _
        · exact .tail _ (.tail _ hz)
      clear N₃
      iterate 10 walk1
      refine nameX_L F₃ (v := v) hmv ?_
      iterate 1 walk1
      have hul : us.length ≤ 100 := by rw [hd.length]; exact hrl100 q (List.mem_of_getElem? hq1)
      refine append_any F₃ N₄ (.head _) (by rw [List.size_toArray, sizeLine_eq]; omega) fun h₄ F₄ N₅ => ?_
      iterate 3 walk1
      have N₆ : News g' L' h₄ ((rl, W.listOf (us.toArray.push v) (j' + 1)) :: offL rl n₁) := cb_drop N₅ fun z hz => by
        rcases List.mem_cons.mp hz with rfl | hz
        · exact .head _
        · refine .tail _ (List.mem_filter.mpr ⟨.tail _ (.tail _ (List.mem_filter.mp hz).1), (List.mem_filter.mp hz).2⟩)
      have N₂' : News g' L' h₃ n₁ := cb_drop N₄ fun z hz => .tail _ (.tail _ hz)
      have bk' := bk.push (j2 := j' + 1) (g := g) N₂' hp (fun j q hj hq => by show q.1 ≠ pk; rw [e]; exact hno j q hj hq) hrl hvd
      clear N₅ N₄ N₂'
      unfold TurnOver
      dsimp only
      iterate 2 (try walk1)
      rename_i F₅ N₅ T₅ X₅
      refine hq _ _ _ es F₅ N₅ ?_ (fun z hz hn => .tail _ (List.mem_filter.mpr ⟨hz, decide_eq_true fun x => hn (.tail _ (mem_adr.mpr ⟨_, List.mem_of_getElem? hp, .inr x⟩))⟩)) (fun z hz => .inl hz) (Nat.le_succ _)
      rw [← e]
      exact bk'
    · rename_i h₃ F₃ N₃ e
      iterate 1 walk1
      iterate 3 (try (dsimp only; with_reducible refine wpAny_execs_nil ?_))
      refine ⟨_, _, _, n₁, rfl, F₃, cb_drop N₃ (fun z hz => .tail _ hz), off, hm, hmr, hmv, hmg, rfl, fun j' q' hj hq' => ?_⟩
      rcases Nat.lt_succ_iff_lt_or_eq.mp hj with hj | rfl
      · exact hno j' q' hj hq'
      · rw [hq1] at hq'; cases hq'; rw [← hqk]; exact ne_of_beq_false e
end
end Mine
end

section -- D5
open PySem PySem.W PySem.W.X PyProof.Rows PySem.Calls
set_option Elab.async false
set_option maxRecDepth 100000
set_option maxHeartbeats 1000000
namespace Mine
theorem item_law {k r : Int} (h0 : 0 ≤ k) (h1 : k < 16) (h2 : 0 ≤ r) (h3 : r < 4096) : PySem.Txt.item (sigOf k r) 0 = kCh k := by
  have hl := sig_len h0 h1 h2 h3
  obtain ⟨a, rfl⟩ := Int.eq_ofNat_of_zero_le h0
  have hk := kCh_one ⟨a, by omega⟩
  obtain ⟨c, hc⟩ : ∃ c, kCh (a : Int) = ⟨#[c]⟩ := ⟨_, hk⟩
  have hs : ∃ rest : Str, sigOf (a : Int) r = kCh (a : Int) ++ rest := by
    unfold sigOf
    simp only [sgOf, str_assoc]
    exact ⟨_, rfl⟩
  obtain ⟨rest, hs⟩ := hs
  have e2 : (#[c] ++ rest.cps)[0]? = some c := by rw [Array.getElem?_append_left (by simp)]; rfl
  have e1 : seqIndex? 0 10 = some 0 := by decide
  unfold PySem.Txt.item PySem.Txt.charAt
  rw [hl, e1, hs, hc]
  have e3 : ((⟨#[c]⟩ : Str) ++ rest).cps = #[c] ++ rest.cps := rfl
  show (⟨#[((#[c] ++ rest.cps)[0]?).getD 0]⟩ : Str) = _
  rw [e2]
  rfl
/-- the due side's state: two lists of rows -/
structure DueK (news : List (Addr × Obj)) (c1 c2 T1 T2 : Addr) (st : PS) (es1 : List (Int × Addr × Addr)) (es2 : List (Str × Addr × Addr)) (n : List (Addr × Obj)) : Prop where
  cT : ∃ o, (c1, o) ∈ n ∧ o.data = .cell (some (.ref T1))
  cF : ∃ o, (c2, o) ∈ n ∧ o.data = .cell (some (.ref T2))
  b1 : DBook Value.int n T1 es1 st.types
  b2 : DBook Value.str n T2 es2 st.firsts
  dis : ∀ z ∈ T1 :: adr es1, z ∉ T2 :: adr es2
  old : ∀ q ∈ news, q ∈ n
  fr : ∀ q ∈ news, q.1 ∉ T1 :: adr es1 ∧ q.1 ∉ T2 :: adr es2
section
variable {h₀ h h' : Heap} {L : Addr} {news n n' : List (Addr × Obj)} {c1 c2 T1 T2 : Addr} {st : PS} {es1 es1' : List (Int × Addr × Addr)} {es2 es2' : List (Str × Addr × Addr)} {e it : Addr} {oe oi : Obj} {s : Shared} {Q : Flow → Shared → Prop} {m' : Str → Option Value} {tk' : Nat}
theorem DueK.mono (R : DueK news c1 c2 T1 T2 st es1 es2 n) (hs : ∀ q ∈ n, q ∈ n') : DueK news c1 c2 T1 T2 st es1 es2 n' := by
  obtain ⟨o1, h1, e1⟩ := R.cT
  obtain ⟨o2, h2, e2⟩ := R.cF
  exact ⟨⟨o1, hs _ h1, e1⟩, ⟨o2, hs _ h2, e2⟩, R.b1.mono hs, R.b2.mono hs, R.dis, fun q hq => hs q (R.old q hq), R.fr⟩
theorem DueK.under (R : DueK news c1 c2 T1 T2 st es1 es2 n) (_N : News h₀ L h n') (hs : ∀ q ∈ n, q ∈ n') : DueK news c1 c2 T1 T2 st es1 es2 n' := R.mono hs
theorem DueK.re {st' : PS} (R : DueK news c1 c2 T1 T2 st es1 es2 n) (e1 : st'.types = st.types) (e2 : st'.firsts = st.firsts) : DueK news c1 c2 T1 T2 st' es1 es2 n :=
  ⟨R.cT, R.cF, by rw [e1]; exact R.b1, by rw [e2]; exact R.b2, R.dis, R.old, R.fr⟩
/-- what is no list is not among a book's places -/
theorem DBook.off {κ : Type} {keyV : κ → Tok → Value} {T : Addr} {es : List (κ × Addr × Addr)} {rows : List (κ × List Dat)} (b : DBook keyV n T es rows) (N : News h₀ L h n) {q : Addr × Obj} (hq : q ∈ n) (hc : ∀ xs j, q.2 ≠ W.listOf xs j) : q.1 ∉ T :: adr es := fun hz => by
  obtain ⟨xs, j, hm⟩ := b.adrs _ hz
  have z := (N q hq).1.symm.trans (N _ hm).1
  exact hc xs j (Option.some.inj z)
theorem hard_noList {o : Obj} (h : Hard o) : ∀ xs j, o ≠ W.listOf xs j := fun xs j e => hard_list xs j (e ▸ h)
theorem cls_noList {o : Obj} (h : o.cls ≠ .type "list") : ∀ xs j, o ≠ W.listOf xs j := fun xs j e => h (by rw [e])
theorem tups_off {P : Addr → Prop} (N : News h₀ L h n) (hP : ∀ z, P z → ∃ xs j, (z, W.listOf xs j) ∈ n) (keep : ∀ q ∈ n, ¬ P q.1 → q ∈ n') : ∀ q ∈ tups n, q ∈ tups n' := fun q hq => by
  obtain ⟨h1, h2⟩ := List.mem_filter.mp hq
  have hc : q.2.cls = .type "tuple" := by simpa using h2
  refine List.mem_filter.mpr ⟨keep q h1 fun hp => ?_, h2⟩
  obtain ⟨xs, j, hm⟩ := hP _ hp
  have z := (N q h1).1.symm.trans (N _ hm).1
  rw [Option.some.inj z] at hc
  exact absurd hc (cls_ne (by decide))
theorem DueK.put1 {ty : List (Int × List Dat)} (R : DueK news c1 c2 T1 T2 st es1 es2 n) (N : News h₀ L h n) (b : DBook Value.int n' T1 es1' ty) (keep : ∀ q ∈ n, q.1 ∉ T1 :: adr es1 → q ∈ n') (fresh : ∀ z ∈ adr es1', z ∈ adr es1 ∨ ∀ q ∈ n, q.1 ≠ z) :
    DueK news c1 c2 T1 T2 { st with types := ty } es1' es2 n' := by
  obtain ⟨o1, h1, e1⟩ := R.cT
  obtain ⟨o2, h2, e2⟩ := R.cF
  have ht := tups_off (n' := n') (P := fun z => z ∈ T1 :: adr es1) N R.b1.adrs keep
  refine ⟨⟨o1, keep _ h1 (R.b1.off N h1 (hard_noList (.inr (.inl ⟨_, e1⟩)))), e1⟩, ⟨o2, keep _ h2 (R.b1.off N h2 (hard_noList (.inr (.inl ⟨_, e2⟩)))), e2⟩, b, R.b2.keep ht fun q hq hz => keep q hq fun hz' => R.dis _ hz' hz, fun z hz hz' => ?_, fun q hq => keep q (R.old q hq) (R.fr q hq).1, fun q hq => ⟨fun hz => ?_, (R.fr q hq).2⟩⟩
  · rcases List.mem_cons.mp hz with rfl | hz
    · exact R.dis _ (.head _) hz'
    · rcases fresh z hz with h | h
      · exact R.dis _ (.tail _ h) hz'
      · obtain ⟨xs, j, hm⟩ := R.b2.adrs _ hz'
        exact h _ hm rfl
  · rcases List.mem_cons.mp hz with hz | hz
    · exact (R.fr q hq).1 (by rw [hz]; exact .head _)
    · rcases fresh _ hz with h | h
      · exact (R.fr q hq).1 (.tail _ h)
      · exact h _ (R.old q hq) rfl
theorem DueK.put2 {ty : List (Str × List Dat)} (R : DueK news c1 c2 T1 T2 st es1 es2 n) (N : News h₀ L h n) (b : DBook Value.str n' T2 es2' ty) (keep : ∀ q ∈ n, q.1 ∉ T2 :: adr es2 → q ∈ n') (fresh : ∀ z ∈ adr es2', z ∈ adr es2 ∨ ∀ q ∈ n, q.1 ≠ z) :
    DueK news c1 c2 T1 T2 { st with firsts := ty } es1 es2' n' := by
  obtain ⟨o1, h1, e1⟩ := R.cT
  obtain ⟨o2, h2, e2⟩ := R.cF
  have ht := tups_off (n' := n') (P := fun z => z ∈ T2 :: adr es2) N R.b2.adrs keep
  refine ⟨⟨o1, keep _ h1 (R.b2.off N h1 (hard_noList (.inr (.inl ⟨_, e1⟩)))), e1⟩, ⟨o2, keep _ h2 (R.b2.off N h2 (hard_noList (.inr (.inl ⟨_, e2⟩)))), e2⟩, R.b1.keep ht fun q hq hz => keep q hq fun hz' => R.dis _ hz hz', b, fun z hz hz' => ?_, fun q hq => keep q (R.old q hq) (R.fr q hq).2, fun q hq => ⟨(R.fr q hq).1, fun hz => ?_⟩⟩
  · rcases List.mem_cons.mp hz' with rfl | hz'
    · exact R.dis _ hz (.head _)
    · rcases fresh z hz' with h | h
      · exact R.dis _ hz (.tail _ h)
      · obtain ⟨xs, j, hm⟩ := R.b1.adrs _ hz
        exact h _ hm rfl
  · rcases List.mem_cons.mp hz with hz | hz
    · exact (R.fr q hq).2 (by rw [hz]; exact .head _)
    · rcases fresh _ hz with h | h
      · exact (R.fr q hq).2 (.tail _ h)
      · exact h _ (R.old q hq) rfl
/-- the state in the loop -/
def DueSt (news : List (Addr × Obj)) (c1 c2 T1 T2 : Addr) (st : PS) (i : Nat) (m : Str → Option Value) (n : List (Addr × Obj)) : Prop :=
  m (Str.ofString "types_grow") = some (.bool st.tg) ∧ m (Str.ofString "firsts_grow") = some (.bool st.fg) ∧ ∃ es1 es2, DueK news c1 c2 T1 T2 st es1 es2 n ∧ es1.length ≤ i ∧ es2.length ≤ i
theorem due_over {i : Nat} (R : DueK news c1 c2 T1 T2 st es1 es2 n) (l1 : es1.length ≤ i) (l2 : es2.length ≤ i) (g1 : m' (Str.ofString "types_grow") = some (.bool st.tg)) (g2 : m' (Str.ofString "firsts_grow") = some (.bool st.fg))
    (F : Fr h₀ L h' m') (N : News h₀ L h' n) (he : (e, oe) ∈ n) (hi : (it, oi) ∈ n) (ke : ItKind oe) (ki : ItKind oi) (hold : ∀ q ∈ news, q.1 ≠ e ∧ q.1 ≠ it) :
    TurnOver2 h₀ L e it oe oi (fun m₁ n₁ => DueSt news c1 c2 T1 T2 st i m₁ n₁) s Q .next { s with heap := h', toks := tk' } := by
  have keep : ∀ q ∈ n, (Hard q.2 ∨ q.2.cls = .type "list" ∨ q ∈ news) → q ∈ offL e (offL it n) := fun q hq h => by
    have a1 : q.1 ≠ e := by
      rcases h with h | h | h
      · exact it_ne N hq he ke (.inl h)
      · exact it_ne N hq he ke (.inr (.inr (.inr (.inl h))))
      · exact (hold q h).1
    have a2 : q.1 ≠ it := by
      rcases h with h | h | h
      · exact it_ne N hq hi ki (.inl h)
      · exact it_ne N hq hi ki (.inr (.inr (.inr (.inl h))))
      · exact (hold q h).2
    exact List.mem_filter.mpr ⟨List.mem_filter.mpr ⟨hq, decide_eq_true a2⟩, decide_eq_true a1⟩
  have ht := tups_keep (show KeepHard n (offL e (offL it n)) from fun q hq h => keep q hq (.inl h))
  have kl : ∀ {P : Addr → Prop}, (∀ z, P z → ∃ xs j, (z, W.listOf xs j) ∈ n) → ∀ q ∈ n, P q.1 → q ∈ offL e (offL it n) := fun hP q hq hz => by
    obtain ⟨xs, j, hm⟩ := hP _ hz
    have z := (N q hq).1.symm.trans (N _ hm).1
    exact keep q hq (.inr (.inl (by rw [Option.some.inj z])))
  obtain ⟨o1, h1, e1⟩ := R.cT
  obtain ⟨o2, h2, e2⟩ := R.cF
  refine ⟨h', tk', m', offL e (offL it n), rfl, F, fun q hq => ?_, fun q hq => ?_, g1, g2, es1, es2, ⟨⟨o1, keep _ h1 (.inl (.inr (.inl ⟨_, e1⟩))), e1⟩, ⟨o2, keep _ h2 (.inl (.inr (.inl ⟨_, e2⟩))), e2⟩, R.b1.keep ht (kl R.b1.adrs), R.b2.keep ht (kl R.b2.adrs), R.dis, fun q hq => keep q (R.old q hq) (.inr (.inr hq)), R.fr⟩, l1, l2⟩
  · rcases List.mem_cons.mp hq with rfl | hq
    · exact N _ he
    rcases List.mem_cons.mp hq with rfl | hq
    · exact N _ hi
    · exact N q (List.mem_filter.mp (List.mem_filter.mp hq).1).1
  · exact ⟨offL_ne q hq, offL_ne q (List.mem_filter.mp hq).1⟩
end
end Mine
end

section -- D6
open PySem PySem.W PySem.W.X PyProof.Rows PySem.Calls PyProof.Rows.LCg
set_option Elab.async false
set_option maxRecDepth 100000
set_option maxHeartbeats 1000000
namespace Mine
theorem due_walk : ∀ {w : World} {dp un : Nat} {cn : Str} {cs : Scope} {a : Addr} {ccd : Value} {cl : List (Str × Addr)} {outer : List Env} {A₀ : Around} {base h₀ : Heap} {L : Addr} {m mg mb : Str → Option Value} {s : Shared} {Q E : Value → Shared → Prop} {news : List (Addr × Obj)} {p : Program} {loose : List Str} {mean : ExcName → Option Value} {lot : Addr} {ws : List Value} {ns : List Int},
    Below A₀ base outer h₀ → Fr h₀ L s.heap m → (Mine.hd.heap_39 w.params).In h₀ → News h₀ L s.heap news → Top p loose mean mg mb h₀ → cs.kind = .function →
    dp + 50 ≤ 400 → un + 90 ≤ 100 → (lot, W.listOf ws.toArray 0) ∈ news → IntsAre ws ns → (∀ n ∈ ns, 0 ≤ n ∧ n < 73728) → ns.length ≤ 30 →
    (∀ (v : Value) (h' : Heap) (tk' : Nat) (n' : List (Addr × Obj)), Fr h₀ L h' m → News h₀ L h' n' → (∀ q ∈ news, q ∈ n') → DatIn n' v (resDat (psAt ns ns.length)) → Q v { s with heap := h', toks := tk' }) →
    wpAny (model Challenge.rw_in0191_01.row.prog w) (ktrTop dp un (some []) cn cs L a ccd cl outer) (call (.ref 298) [.ref lot]) Q E s := by
  k_fill
  intro w dp un cn cs a ccd cl outer A₀ base h₀ L m mg mb s Q E news p loose mean lot ws ns B F X N T hk hdp hun hlot hws hns hlen hq
  refine wpAny_call ?_
  k_dflt (refine' code_defC ?k1 ?k2 ?k3 ?k4 ?k5 ?kA ?kF ?kK ?k6 ?k7 ?k8 ?k9 ?kB ?kD ?_ ?c2 ?c3 ?c4; (case kA => exact rfl); (case kF => exact rfl); (case kK => assumption); (case k1 => k_asm); (case k2 => k_asm); (case k3 => k_asm); (case k4 => k_asm); (case k5 => k_asm); (case k6 => k_is); (case k7 => k_is); (case k8 => show dp < 1000; omega); (case k9 => exact BindsTo.of_eq rfl); (case kB => exact rfl); (case kD => decide +kernel); (case c2 => exact rfl); (case c3 => exact rfl); (case c4 => exact rfl); k_whole; intro g' L' h' tk' cells' FG' F' N' Y' B' X' T' l1; k_cells Y'; (try simp only [List.cons_append, List.nil_append] at N'); (try dsimp only))
  rename_i oS oT dS dT
  iterate 5 walk1
  rename_i x1 h₂ F₂ N₂ lx1
  refine store_cell (s := Shared.mk h₂ _ _ _ _) F₂ N₂ rfl (.tail _ (.tail _ (.head _))) dT fun h₃ oT' F₃ N₃ dT' => ?_
  iterate 5 walk1
  iterate 1 (try walk1)
  rename_i x2 h₄ F₄ N₄ lx2
  have hLp : ∀ q ∈ news, q.1 ≠ (L' + 1 : Addr) := fun q hq => Nat.ne_of_lt (Nat.lt_succ_of_lt (l1 q hq))
  have hLq : ∀ q ∈ news, q.1 ≠ (L' + 1 + 1 : Addr) := fun q hq => Nat.ne_of_lt (Nat.lt_succ_of_lt (Nat.lt_succ_of_lt (l1 q hq)))
  have hx1 : ∀ q ∈ news, q.1 ≠ x1 := fun q hq => Nat.ne_of_lt (kst_ltOf lx1.2.2 q hq)
  have x1T : x1 ≠ L' + 1 := Nat.ne_of_gt lx1.2.1
  have x1S : x1 ≠ L' + 1 + 1 := Nat.ne_of_gt lx1.1
  have hx2 : ∀ q ∈ news, q.1 ≠ x2 := fun q hq => Nat.ne_of_lt (kst_ltOf lx2.2 q (List.mem_filter.mpr ⟨.tail _ (.tail _ (.tail _ hq)), decide_eq_true (hLp q hq)⟩))
  have x12 : x1 ≠ x2 := Nat.ne_of_lt (kst_ltOf lx2.2 (x1, W.listOf #[] 0) (List.mem_filter.mpr ⟨.head _, decide_eq_true x1T⟩))
  have x2S : x2 ≠ L' + 1 + 1 := Nat.ne_of_gt (kst_ltOf lx2.2 (L' + 1 + 1, oS) (List.mem_filter.mpr ⟨.tail _ (.head _), decide_eq_true (Nat.succ_ne_self (L' + 1))⟩))
  refine store_cell (s := Shared.mk h₄ _ _ _ _) F₄ N₄ rfl (.tail _ (.tail _ (List.mem_filter.mpr ⟨.tail _ (.head _), decide_eq_true (Nat.succ_ne_self (L' + 1))⟩))) dS fun h₅ oS' F₅ N₅ dS' => ?_
  have K0 : DueK news (L' + 1) (L' + 1 + 1) x1 x2 ps0 [] [] ((L' + 1 + 1, oS') :: offL (L' + 1 + 1) ((x2, W.listOf #[] 0) :: (L' + 1, oT') :: offL (L' + 1) ((x1, W.listOf #[] 0) :: (L' + 1 + 1, oS) :: (L' + 1, oT) :: news))) := by
    have nS : ∀ {q : Addr × Obj}, q.1 ≠ (L' + 1 + 1 : Addr) → q ∈ (x2, W.listOf #[] 0) :: (L' + 1, oT') :: offL (L' + 1) ((x1, W.listOf #[] 0) :: (L' + 1 + 1, oS) :: (L' + 1, oT) :: news) → q ∈ (L' + 1 + 1, oS') :: offL (L' + 1 + 1) ((x2, W.listOf #[] 0) :: (L' + 1, oT') :: offL (L' + 1) ((x1, W.listOf #[] 0) :: (L' + 1 + 1, oS) :: (L' + 1, oT) :: news)) := fun h hq => .tail _ (List.mem_filter.mpr ⟨hq, decide_eq_true h⟩)
    have m1 : (x1, W.listOf #[] 0) ∈ (x2, W.listOf #[] 0) :: (L' + 1, oT') :: offL (L' + 1) ((x1, W.listOf #[] 0) :: (L' + 1 + 1, oS) :: (L' + 1, oT) :: news) := .tail _ (.tail _ (List.mem_filter.mpr ⟨.head _, decide_eq_true x1T⟩))
    refine ⟨⟨oT', nS (Nat.ne_of_lt (Nat.lt_succ_self (L' + 1))) (.tail _ (.head _)), dT'⟩, ⟨oS', .head _, dS'⟩, ⟨⟨0, nS x1S m1⟩, trivial, List.nodup_cons.mpr ⟨nofun, List.nodup_nil⟩⟩, ⟨⟨0, nS x2S (.head _)⟩, trivial, List.nodup_cons.mpr ⟨nofun, List.nodup_nil⟩⟩, fun z hz hz' => ?_, fun q hq => nS (hLq q hq) (.tail _ (.tail _ (List.mem_filter.mpr ⟨.tail _ (.tail _ (.tail _ hq)), decide_eq_true (hLp q hq)⟩))), fun q hq => ⟨fun hz => hx1 q hq (List.mem_singleton.mp hz), fun hz => hx2 q hq (List.mem_singleton.mp hz)⟩⟩
    exact x12 ((List.mem_singleton.mp hz).symm.trans (List.mem_singleton.mp hz'))
  generalize (L' + 1 + 1, oS') :: offL (L' + 1 + 1) ((x2, W.listOf #[] 0) :: (L' + 1, oT') :: offL (L' + 1) ((x1, W.listOf #[] 0) :: (L' + 1 + 1, oS) :: (L' + 1, oT) :: news)) = n₀ at N₅ K0
  clear N₄ lx1 lx2
  iterate 9 walk1
  rename_i h₆ F₆ N₆
  refine forEnum (l := lot) (items := ws.toArray) (St := fun it i h => h.IsListIter it lot i ∧ h.IsList lot ws.toArray)
    (fun i m₁ n₁ => DueSt news (L' + 1) (L' + 1 + 1) x1 x2 (psAt ns i) i m₁ n₁)
    (fun it hne => Draws.list rfl it lot hne ws.toArray) F₆ N₆ ⟨rfl, rfl, [], [], K0, Nat.le_refl _, Nat.le_refl _⟩ ?keep ?hl ?step ?last ?he
  case keep =>
    rintro i m₁ n₁ h o ⟨_, _, es1, es2, R, _, _⟩ F₇ N₇ ho
    have z1 := (N₆ _ (K0.old _ hlot)).1
    have z2 := Option.some.inj (ho.symm.trans z1)
    rw [z2]; exact (N₇ _ (R.old _ hlot)).1
  case hl => exact ⟨_, (N₆ _ (K0.old _ hlot)).1⟩
  case he =>
    intro R hR
    have hl5 := (N₆ _ (K0.old _ hlot)).1
    have hlt5 := Heap.lt_size hl5
    iterate 6 walk1
    refine call_enumerate_list ⟨_, hl5, rfl, 0, rfl⟩ fun h₇ hE hI hsz hk7 => ?_
    refine hR _ _ h₇ _ hE ⟨hI, ⟨_, hk7 _ _ hl5, rfl, 0, rfl⟩⟩ (Nat.ne_of_lt hlt5) (Nat.succ_ne_self _) (Heap.get?_none_of_le (Nat.le_succ _)) (Heap.get?_none_of_le (Nat.le_refl _)) hk7
  case last =>
    rintro m₁ n₁ h₇ tk₇ ⟨g1, g2, es1, es2, R, hl1, hl2⟩ F₇ N₇
    have hsz : ws.toArray.size = ns.length := by rw [List.size_toArray]; exact hws.length
    rw [hsz] at R
    clear N₆ F₆
    obtain ⟨oT₁, hcT, hdT⟩ := R.cT
    obtain ⟨oS₁, hcS, hdS⟩ := R.cF
    refine wpAny_execs_nil ?_
    dsimp only
    iterate 3 walk1
    refine comp_range (h₀ := g') (L := L') (m := m₁) (n := 16) (a := 0) (b := 16) (news := n₁) (fun i ys nw => (∀ q ∈ n₁, q ∈ nw) ∧ DatAll nw ys ((List.range i).map (askT (psAt ns ns.length)))) rfl (by with_unfolding_all rfl) (by decide) (by rfl) (by decide) (by rfl) (by rw [sizeLine_eq]; decide) (by decide) (by rfl) ?he1 ⟨fun q h => h, .nil⟩ ?step1 ?fin1
    case he1 =>
      intro R hR
      iterate 6 walk1
      iterate 3 (try walk1)
      exact hR _ _ _ _ _ _ (by assumption) (by assumption) (by assumption)
    case step1 =>
      rintro I oI C oC D m₂ ys nw h tk i t E' hi ⟨hsub, hdat⟩ hC hx F N off ne
      have N2 : News g' L' h ((L' + 1, oT₁) :: (I, oI) :: (C, oC) :: (D, LCg.lst ys) :: nw) := cb_drop N fun q hq => by
        rcases List.mem_cons.mp hq with rfl | hq
        · exact .tail _ (.tail _ (.tail _ (hsub _ hcT)))
        · exact hq
      clear N
      iterate 13 walk1
      refine found_int (nw := nw) (k := 4096 * (0 + (i : Int))) B' F X' N2 T' rfl (by show dp + 1 + 10 ≤ 400; omega) (by show un + 3 + 50 ≤ 100; omega) (R.b1.mono hsub) (fun q hq => .tail _ (.tail _ (.tail _ (.tail _ hq)))) fun l pre h' tk' F' N' hfr hd => ?_
      refine comp_turn F' N' (List.mem_append_right _ (.tail _ (.head _))) (List.mem_append_right _ (.tail _ (.tail _ (.head _)))) (List.mem_append_right _ (.tail _ (.tail _ (.tail _ (.head _))))) (fun p hp => List.mem_append_left _ hp) (fun p hp => List.mem_append_right _ (.tail _ (.tail _ (.tail _ (.tail _ hp))))) off (fun p hp => ⟨hfr p hp _ (.tail _ (.head _)), hfr p hp _ (.tail _ (.tail _ (.head _))), hfr p hp _ (.tail _ (.tail _ (.tail _ (.head _))))⟩) trivial ⟨fun q hq => List.mem_append_right _ (hsub q hq), ?_⟩
      rw [List.range_succ, List.map_append]
      rw [Int.zero_add] at hd
      exact (hdat.mono fun q hq => List.mem_append_right _ hq).append (.one hd)
    case fin1 =>
      rintro D1 ys1 h₈ tk₈ nw1 ⟨hsub1, hdat1⟩ F₈ N₈ hD1
      dsimp only
      refine comp_str (h₀ := g') (L := L') (m := m₁) (txt := signsTxt) (news := (D1, LCg.lst ys1) :: nw1) (fun i ys nw => (∀ q ∈ (D1, LCg.lst ys1) :: nw1, q ∈ nw) ∧ DatAll nw ys ((List.range i).map fun i => askF (psAt ns ns.length) (signAt i))) rfl (by decide +kernel) (by with_unfolding_all rfl) (by decide) (by rfl) (by decide) (by rfl) (by rw [sizeLine_eq]; decide +kernel) F₈ N₈ ?he2 ⟨fun q h => h, .nil⟩ ?step2 ?fin2
      case he2 =>
        intro R hR
        walk1
        exact hR _ _
      case step2 =>
        rintro I oI C oC D m₂ ys nw h tk i c t E' hc ⟨hsub, hdat⟩ hC hx F N off ne
        have sub : ∀ q ∈ n₁, q ∈ nw := fun q hq => hsub q (.tail _ (hsub1 q hq))
        have N2 : News g' L' h ((L' + 1 + 1, oS₁) :: (I, oI) :: (C, oC) :: (D, LCg.lst ys) :: nw) := cb_drop N fun q hq => by
          rcases List.mem_cons.mp hq with rfl | hq
          · exact .tail _ (.tail _ (.tail _ (sub _ hcS)))
          · exact hq
        clear N
        have hcc : signAt i = ⟨#[c]⟩ := by unfold signAt; rw [Array.getD_eq_getD_getElem?, hc]; rfl
        iterate 10 walk1
        refine found_str (nw := nw) (k := ⟨#[c]⟩) B' F X' N2 T' rfl (by show dp + 1 + 10 ≤ 400; omega) (by show un + 3 + 50 ≤ 100; omega) (R.b2.mono sub) (fun q hq => .tail _ (.tail _ (.tail _ (.tail _ hq)))) fun l pre h' tk' F' N' hfr hd => ?_
        refine comp_turn F' N' (List.mem_append_right _ (.tail _ (.head _))) (List.mem_append_right _ (.tail _ (.tail _ (.head _)))) (List.mem_append_right _ (.tail _ (.tail _ (.tail _ (.head _))))) (fun p hp => List.mem_append_left _ hp) (fun p hp => List.mem_append_right _ (.tail _ (.tail _ (.tail _ (.tail _ hp))))) off (fun p hp => ⟨hfr p hp _ (.tail _ (.head _)), hfr p hp _ (.tail _ (.tail _ (.head _))), hfr p hp _ (.tail _ (.tail _ (.tail _ (.head _))))⟩) trivial ⟨fun q hq => List.mem_append_right _ (hsub q hq), ?_⟩
        rw [List.range_succ, List.map_append]
        refine (hdat.mono fun q hq => List.mem_append_right _ hq).append (.one ?_)
        show DatIn _ _ (askF _ (signAt i))
        rw [hcc]
        exact hd
      case fin2 =>
        rintro D2 ys2 h₉ tk₉ nw2 ⟨hsub2, hdat2⟩ F₉ N₉ hD2
        have z1 : ys1.length = 16 := by rw [hdat1.length]; rfl
        have z2 : ys2.length = 8 := by rw [hdat2.length, List.length_map, List.length_range]; decide +kernel
        refine add_lists F₉ N₉ (vs := ys1) (ws := ys2) ⟨_, (N₉ _ (.tail _ (hsub2 _ (.head _)))).1, rfl, _, rfl⟩ ⟨_, (N₉ _ (.head _)).1, rfl, _, rfl⟩ (fun h₁₀ F₁₀ N₁₀ => ?_) (by rw [z1, z2, sizeLine_eq]; omega)
        dsimp only at N₁₀ ⊢
        generalize h₉.objs.size = D3 at N₁₀ ⊢
        have sub3 : ∀ q ∈ n₁, q ∈ (D3, ({ cls := Value.type "list", data := Data.seq (ys1 ++ ys2).toArray } : Obj)) :: (D2, LCg.lst ys2) :: nw2 := fun q hq => .tail _ (.tail _ (hsub2 _ (.tail _ (hsub1 q hq))))
        have dat3 : DatIn ((D3, ({ cls := Value.type "list", data := Data.seq (ys1 ++ ys2).toArray } : Obj)) :: (D2, LCg.lst ys2) :: nw2) (.ref D3) (.list (askedL (psAt ns ns.length))) := by
          refine DatIn.list (vs := ys1 ++ ys2) (n := 0) (.head _) ((hdat1.mono fun q hq => .tail _ (.tail _ (hsub2 _ (.tail _ hq)))).append ?_)
          have e8 : signsTxt.cps.size = 8 := by decide +kernel
          rw [e8] at hdat2
          exact hdat2.mono fun q hq => .tail _ (.tail _ hq)
        generalize (D3, ({ cls := Value.type "list", data := Data.seq (ys1 ++ ys2).toArray } : Obj)) :: (D2, LCg.lst ys2) :: nw2 = n3 at N₁₀ sub3 dat3
        have N₁₁ : News g' L' h₁₀ ((L' + 1, oT₁) :: (L' + 1 + 1, oS₁) :: n3) := cb_drop N₁₀ fun q hq => by
          rcases List.mem_cons.mp hq with rfl | hq
          · exact sub3 _ hcT
          rcases List.mem_cons.mp hq with rfl | hq
          · exact sub3 _ hcS
          · exact hq
        clear N₁₀
        iterate 14 walk1
        rename_i D7 h₁₃ F₁₃ N₁₃ l₁₃ F₁₄ N₁₄ T₁₄ X₁₄
        have up6 : ∀ q ∈ n3, q ∈ (D7, ({ cls := Value.type "tuple", data := Data.seq #[Value.ref D3, Value.ref x1, Value.ref x2] } : Obj)) :: (L' + 1, oT₁) :: (L' + 1 + 1, oS₁) :: n3 := fun q hq => .tail _ (.tail _ (.tail _ hq))
        have R7 := R.mono fun q hq => up6 q (sub3 q hq)
        obtain ⟨j1, hj1⟩ := R7.b1.at_
        obtain ⟨j2, hj2⟩ := R7.b2.at_
        refine hq _ _ _ _ F₁₄ N₁₄ (fun q hq => up6 q (sub3 _ (R.old q hq))) ?_
        exact .tuple (vs := [.ref D3, .ref x1, .ref x2]) (n := 0) (.head _) (.cons (dat3.mono up6) (.cons (.list hj1 (drows_dat (keyD := Dat.int) (fun k t m => .int k t) R7.b1.rows)) (.one (.list hj2 (drows_dat (keyD := Dat.str) (fun k t m => .str k t) R7.b2.rows)))))
  case step =>
    rintro e it i Ta t v m₁ n₁ h₇ tk₇ oe oi hv ⟨g1, g2, es1, es2, R, hl1, hl2⟩ hTa F₇ N₇ off hoe ⟨olde, hEn⟩ hIt
    obtain ⟨n, u, hn, rfl⟩ : ∃ n u, ns[i]? = some n ∧ v = .int n u := by
      obtain ⟨n, u, h1, h2⟩ := hws.at i v (by simpa using hv)
      first | exact ⟨n, u, h1, h2⟩ | exact ⟨n, u, h2, h1⟩
    obtain ⟨hn0, hn1⟩ := hns n (List.mem_of_getElem? hn)
    have hold : ∀ q ∈ news, q.1 ≠ e ∧ q.1 ≠ it := fun q hq => off q (R.old q hq)
    refine assign2 rfl F₇ N₇ hTa fun h₈ tk₈ F₈ N₈ => ?_
    have ke : ItKind oe := by
      have z : _ = oe := Option.some.inj (hEn.symm.trans (N₇ _ (.head _)).1)
      rw [← z]
      exact it_fields rfl rfl (fun q t => by intro e; cases e) (by decide) (by decide) (by decide)
    have ki : ItKind oi := by
      obtain ⟨o, ho, hc, hd⟩ := hIt.1
      have z : o = oi := Option.some.inj (ho.symm.trans (N₇ _ (.tail _ (.head _))).1)
      rw [← z]
      exact it_fields hc hd (fun q t => by intro e; cases e) (by decide) (by decide) (by decide)
    clear F₇ N₇ F₆ N₆
    obtain ⟨oT₁, hcT, hdT⟩ := R.cT
    obtain ⟨oS₁, hcS, hdS⟩ := R.cF
    have N₉ : News g' L' h₈ ((L' + 1, oT₁) :: (L' + 1 + 1, oS₁) :: (e, oe) :: (it, oi) :: n₁) := cb_drop N₈ fun p hp => by
      rcases List.mem_cons.mp hp with rfl | hp
      · exact .tail _ (.tail _ hcT)
      rcases List.mem_cons.mp hp with rfl | hp
      · exact .tail _ (.tail _ hcS)
      · exact hp
    clear N₈
    have up : ∀ q ∈ n₁, q ∈ (L' + 1, oT₁) :: (L' + 1 + 1, oS₁) :: (e, oe) :: (it, oi) :: n₁ := fun q hq => .tail _ (.tail _ (.tail _ (.tail _ hq)))
    iterate 15 walk1
    · rename_i h₉ F₉ N₁₀ c16
      iterate 5 walk1
      iterate 3 (try (dsimp only; with_reducible refine wpAny_execs_nil ?_))
      have est : psAt ns (i + 1) = { psAt ns i with tg := false } := by
        rw [psAt_succ hn]; unfold pstep; rw [if_pos c16]
      rename_i h₁₀ F₁₀ N₁₁
      refine due_over (st := psAt ns (i + 1)) ((R.mono up).re (by rw [est]) (by rw [est])) (Nat.le_succ_of_le hl1) (Nat.le_succ_of_le hl2) (by rw [est]; rfl) (by rw [est]; exact g2) F₁₀ N₁₁ (.tail _ (.tail _ (.head _))) (.tail _ (.tail _ (.tail _ (.head _)))) ke ki hold
    · rename_i h₉ F₉ N₁₀ c16
      iterate 9 walk1
      · rename_i c17
        iterate 5 walk1
        iterate 3 (try (dsimp only; with_reducible refine wpAny_execs_nil ?_))
        have est : psAt ns (i + 1) = { psAt ns i with fg := false } := by
          rw [psAt_succ hn]; unfold pstep; rw [if_neg c16, if_pos c17]
        rename_i h₁₀ F₁₀ N₁₁
        refine due_over (st := psAt ns (i + 1)) ((R.mono up).re (by rw [est]) (by rw [est])) (Nat.le_succ_of_le hl1) (Nat.le_succ_of_le hl2) (by rw [est]; exact g1) (by rw [est]; rfl) F₁₀ N₁₁ (.tail _ (.tail _ (.head _))) (.tail _ (.tail _ (.tail _ (.head _)))) ke ki hold
      · rename_i c17
        have k16 : 0 ≤ n.fmod 18 ∧ n.fmod 18 < 16 ∧ 0 ≤ n.fdiv 18 ∧ n.fdiv 18 < 4096 := by
          have e1 : n.fmod 18 = n % 18 := Int.fmod_eq_emod_of_nonneg _ (by decide)
          have e2 : n.fdiv 18 = n / 18 := Int.fdiv_eq_ediv_of_nonneg _ (by decide)
          rw [e1] at c16 c17
          rw [e1, e2]
          omega
        have hi30 : i < 30 := Nat.lt_of_lt_of_le (List.getElem?_eq_some_iff.mp hn).1 hlen
        iterate 18 walk1
        refine signs_walk B' (by assumption) X' (by assumption) T' rfl (by show dp + 1 + 1 ≤ 400; omega) (by show un + 3 + 8 ≤ 100; omega) k16.1 k16.2.1 k16.2.2.1 k16.2.2.2 fun t₁ h₁₀ tk₁₀ F₁₀ N₁₁ => ?_
        iterate 26 walk1
        refine name_walk B' (by assumption) X' (by assumption) T' rfl (by show dp + 1 + 1 ≤ 400; omega) (by show un + 3 + 8 ≤ 100; omega) (by omega) (by omega) fun t₂ h₁₁ tk₁₁ F₁₁ N₁₂ => ?_
        iterate 5 walk1
        rename_i Dt h₁₂ F₁₂ N₁₃ l₁₃
        obtain ⟨pl1, pl2⟩ := psAt_len i (Nat.le_of_lt (List.getElem?_eq_some_iff.mp hn).1)
        have R1 := R.under N₁₃ fun q hq => .tail _ (up q hq)
        refine nameX_L F₁₂ (v := .bool (psAt ns i).tg) g1 ?_
        iterate 2 walk1
        refine put_int (d := recOf n i) B' F₁₂ X' N₁₃ T' rfl (by show dp + 1 + 10 ≤ 400; omega) (by show un + 3 + 50 ≤ 100; omega) R1.b1 (.tuple (vs := [.str _ _, .str _ _, .int _ _]) (List.mem_filter.mpr ⟨.head _, rfl⟩) (.cons (.str _ _) (.cons (.str _ _) (.cons (.int _ _) .nil)))) (by omega) (fun q hq => Nat.le_trans (pl1 q hq) (by omega)) fun h₁₃ tk₁₃ n₂ es1' F₁₃ N₁₄ b1' keep1 fresh1 hl1' => ?_
        have R2 := R1.put1 N₁₃ b1' keep1 fresh1
        have N₁₅ : News g' L' h₁₃ ((L' + 1 + 1, oS₁) :: (e, oe) :: (it, oi) :: n₂) := cb_drop N₁₄ fun q hq => by
          rcases List.mem_cons.mp hq with rfl | hq
          · exact keep1 _ (.tail _ (.tail _ (.head _))) (R1.b1.off N₁₃ (.tail _ (.tail _ (.head _))) (hard_noList (.inr (.inl ⟨_, hdS⟩))))
          rcases List.mem_cons.mp hq with rfl | hq
          · exact keep1 _ (.tail _ (.tail _ (.tail _ (.head _)))) (R1.b1.off N₁₃ (.tail _ (.tail _ (.tail _ (.head _)))) (cls_noList ke.2.2.2.1))
          rcases List.mem_cons.mp hq with rfl | hq
          · exact keep1 _ (.tail _ (.tail _ (.tail _ (.tail _ (.head _))))) (R1.b1.off N₁₃ (.tail _ (.tail _ (.tail _ (.tail _ (.head _))))) (cls_noList ki.2.2.2.1))
          · exact hq
        clear N₁₃ N₁₄
        dsimp only
        iterate 11 walk1
        have hsl := sig_len k16.1 k16.2.1 k16.2.2.1 k16.2.2.2
        refine item_str (by decide) (by rw [hsl]; decide) (by rw [hsl]; decide) fun _ => ?_
        rw [item_law k16.1 k16.2.1 k16.2.2.1 k16.2.2.2]
        iterate 8 walk1
        refine name_walk B' (by assumption) X' (by assumption) T' rfl (by show dp + 1 + 1 ≤ 400; omega) (by show un + 3 + 8 ≤ 100; omega) (by omega) (by omega) fun t₃ h₁₄ tk₁₄ F₁₄ N₁₆ => ?_
        iterate 1 walk1
        have R3 := R2.under N₁₆ fun q hq => .tail _ (.tail _ (.tail _ hq))
        refine nameX_L F₁₄ (v := .bool (psAt ns i).fg) g2 ?_
        iterate 2 walk1
        refine put_str (d := .str (nameOf (i : Int))) B' F₁₄ X' N₁₆ T' rfl (by show dp + 1 + 10 ≤ 400; omega) (by show un + 3 + 50 ≤ 100; omega) R3.b2 (.str _ _) (by omega) (fun q hq => Nat.le_trans (pl2 q hq) (by omega)) fun h₁₅ tk₁₅ n₃ es2' F₁₅ N₁₇ b2' keep2 fresh2 hl2' => ?_
        have R4 := R3.put2 N₁₆ b2' keep2 fresh2
        have me := keep2 _ (.tail _ (.head _)) (R3.b2.off N₁₆ (.tail _ (.head _)) (cls_noList ke.2.2.2.1))
        have mi := keep2 _ (.tail _ (.tail _ (.head _))) (R3.b2.off N₁₆ (.tail _ (.tail _ (.head _))) (cls_noList ki.2.2.2.1))
        clear N₁₆ N₁₅
        have est : psAt ns (i + 1) = { psAt ns i with types := bput (psAt ns i).types (4096 * n.fmod 18) (recOf n i) (psAt ns i).tg, firsts := bput (psAt ns i).firsts (kCh (n.fmod 18)) (.str (nameOf (i : Int))) (psAt ns i).fg } := by
          rw [psAt_succ hn]; unfold pstep; rw [if_neg c16, if_neg c17]
        iterate 4 (try (dsimp only; with_reducible refine wpAny_execs_nil ?_))
        try dsimp only
        refine due_over (st := psAt ns (i + 1)) (R4.re (by rw [est]) (by rw [est])) (by omega) (by omega) (by rw [est]; exact g1) (by rw [est]; exact g2) F₁₅ N₁₇ me mi ke ki hold
end Mine
end

section -- P4
open PySem PySem.W PySem.W.X PyProof.Rows PySem.Calls
set_option Elab.async false
set_option maxRecDepth 100000
set_option maxHeartbeats 1000000
namespace Mine
/-- a book once frozen stays so -/
theorem pfold_tg : ∀ {l : List Int} {i : Nat} {st : PS}, (st.tg = false ∨ ∃ n ∈ l, n.fmod 18 = 16) → (pfold i st l).tg = false
  | [], _, _, h => by
    rcases h with h | ⟨n, hn, _⟩
    · exact h
    · exact nomatch hn
  | a :: l, i, st, h => by
    show (pfold (i + 1) (pstep st i a) l).tg = false
    by_cases ha : a.fmod 18 = 16
    · refine pfold_tg (.inl ?_)
      unfold pstep; rw [if_pos ha]
    · refine pfold_tg ?_
      rcases h with h | ⟨n, hn, e⟩
      · refine .inl ?_
        unfold pstep; rw [if_neg ha]
        split <;> exact h
      · rcases List.mem_cons.mp hn with rfl | hn
        · exact absurd e ha
        · exact .inr ⟨n, hn, e⟩
theorem pfold_fg : ∀ {l : List Int} {i : Nat} {st : PS}, (st.fg = false ∨ ∃ n ∈ l, n.fmod 18 = 17) → (pfold i st l).fg = false
  | [], _, _, h => by
    rcases h with h | ⟨n, hn, _⟩
    · exact h
    · exact nomatch hn
  | a :: l, i, st, h => by
    show (pfold (i + 1) (pstep st i a) l).fg = false
    by_cases ha : a.fmod 18 = 17
    · refine pfold_fg (.inl ?_)
      unfold pstep; rw [if_neg (by omega), if_pos ha]
    · refine pfold_fg ?_
      rcases h with h | ⟨n, hn, e⟩
      · refine .inl ?_
        unfold pstep
        split <;> exact h
      · rcases List.mem_cons.mp hn with rfl | hn
        · exact absurd e ha
        · exact .inr ⟨n, hn, e⟩
theorem psAt_all (ns : List Int) : psAt ns ns.length = pfold 0 ps0 ns := by unfold psAt; rw [List.take_length]
/-- the texts are well made -/
theorem ok_app {a b : Str} (h1 : PyData.strOk a = true) (h2 : PyData.strOk b = true) : PyData.strOk (a ++ b) = true := by
  unfold PyData.strOk at h1 h2 ⊢
  show (a.cps ++ b.cps).all _ = true
  rw [Array.all_append, h1, h2]; rfl
theorem ok_item {x : Str} {i : Int} (h : PyData.strOk x = true) : PyData.strOk (PySem.Txt.item x i) = true := by
  unfold PyData.strOk at h ⊢
  unfold PySem.Txt.item PySem.Txt.charAt
  have key : ∀ c, (seqIndex? i x.length).bind (x.cps[·]?) = some c → c < 0x110000 := fun c hc => by
    obtain ⟨j, _, hj⟩ := Option.bind_eq_some_iff.mp hc
    have := Array.all_eq_true_iff_forall_mem.mp h c (Array.mem_of_getElem? hj)
    simpa using this
  cases hc : (seqIndex? i x.length).bind (x.cps[·]?) with
  | none => simp
  | some c => have := key c hc; simpa using this
theorem ok_kCh (k : Int) : PyData.strOk (kCh k) = true := ok_item (by decide +kernel)
theorem ok_sg (k r : Int) : ∀ i, PyData.strOk (sgOf k r i) = true
  | 0 => ok_kCh k
  | i + 1 => by
    refine ok_app (ok_app (ok_app (ok_sg k r i) ?_) ?_) ?_
    · unfold rCh; split <;> decide +kernel
    · unfold wCh; split <;> decide +kernel
    · unfold xCh; refine ok_item ?_; split <;> decide +kernel
theorem ok_name : ∀ i : Nat, i < 30 → PyData.strOk (nameOf (i : Int)) = true := by decide +kernel
/-- the rows are well made -/
def RowsOk {κ : Type} (okK : κ → Prop) (n : Nat) (rows : List (κ × List Dat)) : Prop := ∀ q ∈ rows, okK q.1 ∧ ∀ d ∈ q.2, kqdOk n d = true
theorem rowsOk_put {κ : Type} [DecidableEq κ] {okK : κ → Prop} {n : Nat} {k : κ} {d : Dat} {g : Bool} (hk : okK k) (hd : kqdOk n d = true) : ∀ {rows : List (κ × List Dat)}, RowsOk okK n rows → RowsOk okK n (bput rows k d g)
  | [], _ => by
    cases g
    · exact fun q hq => (nomatch hq)
    · intro q hq
      rw [List.mem_singleton.mp (show q ∈ [(k, [d])] from hq)]
      exact ⟨hk, fun e he => by rw [List.mem_singleton.mp he]; exact hd⟩
  | p :: r, h => by
    intro q hq
    rw [bput] at hq
    split at hq
    · rcases List.mem_cons.mp hq with rfl | hq
      · refine ⟨(h p (.head _)).1, fun e he => ?_⟩
        rcases List.mem_append.mp he with he | he
        · exact (h p (.head _)).2 e he
        · rw [List.mem_singleton.mp he]; exact hd
      · exact h q (.tail _ hq)
    · rcases List.mem_cons.mp hq with rfl | hq
      · exact h _ (.head _)
      · exact rowsOk_put hk hd (fun z hz => h z (.tail _ hz)) q hq
theorem psAt_ok {ns : List Int} (hl : ns.length ≤ 30) : ∀ i, i ≤ ns.length → RowsOk (fun _ => True) 1 (psAt ns i).types ∧ RowsOk (fun x => PyData.strOk x = true) 1 (psAt ns i).firsts
  | 0, _ => And.intro (fun q hq => (nomatch hq)) (fun q hq => (nomatch hq))
  | i + 1, h => by
    obtain ⟨a, b⟩ := psAt_ok hl i (Nat.le_of_succ_le h)
    have e : ns[i]? = some ns[i] := List.getElem?_eq_getElem h
    have hn := ok_name i (by omega)
    rw [psAt_succ e]
    unfold pstep
    split
    · exact ⟨a, b⟩
    · split
      · exact ⟨a, b⟩
      · refine ⟨rowsOk_put trivial ?_ a, rowsOk_put (okK := fun x => PyData.strOk x = true) (ok_kCh _) ?_ b⟩
        · unfold recOf sigOf; simp [kqdOk, ok_sg, hn]
        · simp [kqdOk, hn]
theorem kqd_up : ∀ (n : Nat) (d : Dat), kqdOk n d = true → kqdOk (n + 1) d = true
  | 0, .tuple _, h => by simp [kqdOk] at h
  | 0, .list _, h => by simp [kqdOk] at h
  | n + 1, .tuple ds, h => by
    rw [kqdOk, List.all_eq_true] at h ⊢
    exact fun d hd => kqd_up n d (h d hd)
  | n + 1, .list ds, h => by
    rw [kqdOk, List.all_eq_true] at h ⊢
    exact fun d hd => kqd_up n d (h d hd)
  | _, .none, _ => by simp [kqdOk]
  | _, .int _, _ => by simp [kqdOk]
  | _, .str x, h => by simpa [kqdOk] using h
  | 0, .bool _, h => by simp [kqdOk] at h
  | 0, .bytes _, h => by simp [kqdOk] at h
  | _ + 1, .bool _, h => by simp [kqdOk] at h
  | _ + 1, .bytes _, h => by simp [kqdOk] at h
theorem rows_getD {κ : Type} [DecidableEq κ] {okK : κ → Prop} {n : Nat} {k : κ} : ∀ {rows : List (κ × List Dat)}, RowsOk okK n rows → ∀ d ∈ (bfind rows k).getD [], kqdOk n d = true
  | [], _, d, hd => (nomatch hd)
  | p :: r, h, d, hd => by
    unfold bfind at hd
    split at hd
    · exact (h p (.head _)).2 d hd
    · exact rows_getD (fun z hz => h z (.tail _ hz)) d hd
theorem resDat_ok {ns : List Int} (hl : ns.length ≤ 30) : kqdOk 6 (resDat (psAt ns ns.length)) = true := by
  obtain ⟨a, b⟩ := psAt_ok hl ns.length (Nat.le_refl _)
  have up3 : ∀ d, kqdOk 1 d = true → kqdOk 3 d = true := fun d h => kqd_up 2 d (kqd_up 1 d h)
  have up2 : ∀ d, kqdOk 1 d = true → kqdOk 2 d = true := fun d h => kqd_up 1 d h
  have h1 : kqdOk 5 (.list (askedL (psAt ns ns.length))) = true := by
    rw [kqdOk, List.all_eq_true]
    intro d hd
    rcases List.mem_append.mp hd with hd | hd
    · obtain ⟨i, _, rfl⟩ := List.mem_map.mp hd
      unfold askT
      rw [kqdOk, List.all_eq_true]
      exact fun e he => up3 e (rows_getD a e he)
    · obtain ⟨i, _, rfl⟩ := List.mem_map.mp hd
      unfold askF
      rw [kqdOk, List.all_eq_true]
      exact fun e he => up3 e (rows_getD b e he)
  have h2 : kqdOk 5 (.list ((psAt ns ns.length).types.map tRow)) = true := by
    rw [kqdOk, List.all_eq_true]
    intro d hd
    obtain ⟨q, hq, rfl⟩ := List.mem_map.mp hd
    unfold tRow
    rw [kqdOk, List.all_eq_true]
    intro e he
    rcases List.mem_cons.mp he with rfl | he
    · simp [kqdOk]
    · rw [List.mem_singleton.mp he, kqdOk, List.all_eq_true]
      exact fun z hz => up2 z ((a q hq).2 z hz)
  have h3 : kqdOk 5 (.list ((psAt ns ns.length).firsts.map fRow)) = true := by
    rw [kqdOk, List.all_eq_true]
    intro d hd
    obtain ⟨q, hq, rfl⟩ := List.mem_map.mp hd
    unfold fRow
    rw [kqdOk, List.all_eq_true]
    intro e he
    rcases List.mem_cons.mp he with rfl | he
    · simpa [kqdOk] using (b q hq).1
    · rw [List.mem_singleton.mp he, kqdOk, List.all_eq_true]
      exact fun z hz => up2 z ((b q hq).2 z hz)
  unfold resDat
  rw [kqdOk, List.all_eq_true]
  intro d hd
  rcases List.mem_cons.mp hd with rfl | hd
  · exact h1
  rcases List.mem_cons.mp hd with rfl | hd
  · exact h2
  · rw [List.mem_singleton.mp hd]; exact h3
section
variable {prog : Program} {w : World} {A : Around} {E : Value → Shared → Prop} {s : Shared} {h₀ : Heap} {L : Addr} {news : List (Addr × Obj)} {u v : Value} {d : Dat} {Q : Value → Shared → Prop}
/-- two values that are the same datum are equal -/
theorem eq_same (N : News h₀ L s.heap news) (hu : DatIn news u d) (hv : DatIn news v d) (hk : kqdOk 6 d = true) (hun : A.units + 64 < cLine) (h : Q (.bool true) s) : wpAny (model prog w) A (compareOp .Eq u v) Q E s := by
  obtain ⟨as, ra⟩ := kqd_in N 6 hu hk
  obtain ⟨bs, rb⟩ := kqd_in N 6 hv hk
  have l := kqd_lay 6 d hk
  have e : PyData.eqv (kqdP d) (kqdP d) = true := (kqd_eqv 6 d d 6 hk hk).mpr rfl
  have sh : SeqAt.shaped (kqdP d) = true := by unfold SeqAt.shaped; rw [l.1, Bool.true_and]; exact decide_eq_true (Nat.le_trans l.2 (by decide))
  exact eq_dataH ra rb sh sh hun (by rw [e]; exact h)
end
end Mine
end

section -- J1
open PySem PySem.W PySem.W.X PyProof.Rows PySem.Calls PyProof.Rows.LCg
set_option Elab.async false
set_option maxRecDepth 100000
set_option maxHeartbeats 8000000
namespace Mine
theorem lot_ints {l : List Int} : ∀ n ∈ l.map (fun k : Int => k.fmod 73728) ++ [8878, 45098, 8, 3, 16, 18426, 17, 9208, 4, 9], 0 ≤ n ∧ n < 73728 := fun n hn => by
  rcases List.mem_append.mp hn with hn | hn
  · obtain ⟨k, _, rfl⟩ := List.mem_map.mp hn
    exact ⟨Int.fmod_nonneg_of_pos _ (by decide), Int.fmod_lt_of_pos _ (by decide)⟩
  · simp only [List.mem_cons, List.not_mem_nil, or_false] at hn
    omega
theorem lot_len {l : List Int} : ((l.take 20).map (fun k : Int => k.fmod 73728) ++ [8878, 45098, 8, 3, 16, 18426, 17, 9208, 4, 9]).length ≤ 30 := by
  rw [List.length_append, List.length_map, List.length_take]
  simp only [List.length_cons, List.length_nil]
  omega
end Mine
theorem Mine.law : PySem.Challenge.rw_in0191_01.Holds := Mine.hd (by w_strict (
  k_go0
  (all_goals try k_fold)
  iterate 48 walk1
  rename_i h' F' N'
  rename Below _ _ _ _ => B'
  rename Top _ _ _ _ _ _ => T'
  rename Frag.In _ (ghostOf _ _) => X'
  rename IntsAre _ (_ ++ _) => hI'
  refine Mine.run_walk B' F' X' N' T' rfl (by decide) (by decide) (.head _) (.tail _ (.tail _ (.tail _ (.tail _ (.head _))))) codeHd hI' Mine.lot_ints Mine.lot_len ?tg ?fg fun v h₁ tk₁ n₁ F₁ N₁ old₁ d₁ tab₁ => ?_
  case tg => rw [Mine.psAt_all]; exact Mine.pfold_tg (.inr ⟨16, List.mem_append_right _ (by simp), by decide⟩)
  case fg => rw [Mine.psAt_all]; exact Mine.pfold_fg (.inr ⟨17, List.mem_append_right _ (by simp), by decide⟩)
  have hl₁ := old₁ _ (.head _) (Nat.ne_of_gt (by dsimp only; omega))
  clear N' F'
  have dd := d₁
  unfold Mine.resDat at dd
  obtain ⟨u, rfl⟩ : ∃ u, v = .ref u := by cases dd; exact ⟨_, rfl⟩
  clear dd
  iterate 7 walk1
  refine Mine.due_walk B' F₁ X' N₁ T' rfl (by decide) (by decide) hl₁ hI' Mine.lot_ints Mine.lot_len fun v h₂ tk₂ n₂ F₂ N₂ old₂ d₂ => ?_
  refine Mine.eq_same N₂ (d₁.mono old₂) d₂ (Mine.resDat_ok Mine.lot_len) (show 4 + 3 + 64 < cLine by decide) ?_
  refine ⟨?_, ?_, True.intro⟩
  · refine goodW_bool F₂ (by assumption) (raisesW_false ?_) ?_
    · wrow_none_raised
    · wrow_post
  · rcases tab₁ with h | ⟨c', h, _⟩
    · exact GrownAt.of N₂ (old₂ _ h)
    · exact GrownAt.of N₂ (old₂ _ h)))
end

open PySem PySem.W PyProof.Rows
theorem PySem.Challenge.cw_in0191_01_holds : PySem.Challenge.rw_in0191_01.Holds := by
  exact Mine.law
