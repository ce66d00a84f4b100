import PyProof.Rows.All
import Wide.All
import OpenK.AllK
import Wide.FinOn
import Lean
import PySem.Challenge.RW_pg0065_01
-- what follows is 80 texts of one proof, joined by a program; remarks are left out, for the lids on the text and on the compiled file
set_option Elab.async false
set_option linter.all false
set_option compiler.extract_closed false
set_option genInjectivity false
set_option genSizeOf false
set_option genSizeOfSpec false
section
set_option backward.match.sparseCases false
namespace Mine.Internal
open PySem PySem.W PyProof.Rows PySem.Challenge
noncomputable def isFd : Stmt → Bool
  | .FunctionDef .. => true
  | _ => false
noncomputable def fds : List Stmt := rw_pg0065_01.row.toRowW.1.main.body.filter isFd
noncomputable def fd (k : Nat) : Option Stmt := fds[k]?
noncomputable def fdA (k : Nat) : Arguments := match fd k with | some (.FunctionDef _ a _ _ _ _ _ _ _ _) => a | _ => default
noncomputable def fdB (k : Nat) : List Stmt := match fd k with | some (.FunctionDef _ _ b _ _ _ _ _ _ _) => b | _ => []
noncomputable def fdS (k : Nat) : Scope := match fd k with | some (.FunctionDef _ _ _ _ _ _ s _ _ _) => s | _ => default
noncomputable def hd.view_39 : Program := { rw_pg0065_01.row.toRowW.1 with main := { rw_pg0065_01.row.toRowW.1.main with body := fds } }
noncomputable def hd.o_100 : Params → Obj := fun P => { cls := Value.type "tuple", data := Data.seq #[] }
noncomputable def hd.o_101 : Params → Obj := fun P => { cls := Value.none, data := Data.fields #[] }
noncomputable def hd.o_102 : Params → Obj := fun P => { cls := Value.none, data := Data.func { name := Str.ofString "law", qualname := Str.ofString "law", params := (fdA 7), body := FuncBody.stmts (fdB 7), scope := { kind := PySem.ScopeKind.function, names := [(Str.ofString "script", PySem.NameKind.local), (Str.ofString "x", PySem.NameKind.local), (Str.ofString "numbers", PySem.NameKind.cell), (Str.ofString "signs", PySem.NameKind.cell), (Str.ofString "sign", PySem.NameKind.local), (Str.ofString "row", PySem.NameKind.local), (Str.ofString "heights", PySem.NameKind.cell), (Str.ofString "k", PySem.NameKind.local), (Str.ofString "closes", PySem.NameKind.local), (Str.ofString "a", PySem.NameKind.local), (Str.ofString "b", PySem.NameKind.local), (Str.ofString "about", PySem.NameKind.local), (Str.ofString "due", PySem.NameKind.local), (Str.ofString "told", PySem.NameKind.local), (Str.ofString "width", PySem.NameKind.cell), (Str.ofString "refused", PySem.NameKind.local), (Str.ofString "blocks", PySem.NameKind.local), (Str.ofString "over", PySem.NameKind.local), (Str.ofString "top", PySem.NameKind.cell), (Str.ofString "p", PySem.NameKind.local), (Str.ofString "both", PySem.NameKind.local), (Str.ofString "low", PySem.NameKind.local), (Str.ofString "left", PySem.NameKind.local), (Str.ofString "right", PySem.NameKind.local), (Str.ofString "behind", PySem.NameKind.local), (Str.ofString "tops", PySem.NameKind.local), (Str.ofString "cut", PySem.NameKind.local), (Str.ofString "words", PySem.NameKind.local), (Str.ofString "header", PySem.NameKind.local), (Str.ofString "once", PySem.NameKind.local), (Str.ofString "twice", PySem.NameKind.local), (Str.ofString "fields", PySem.NameKind.local), (Str.ofString "given", PySem.NameKind.local), (Str.ofString "halves", PySem.NameKind.local), (Str.ofString "laid", PySem.NameKind.cell), (Str.ofString "good", PySem.NameKind.cell), (Str.ofString "kept", PySem.NameKind.local), (Str.ofString "zip", PySem.NameKind.globalImplicit), (Str.ofString "bytes", PySem.NameKind.globalImplicit), (Str.ofString "range", PySem.NameKind.globalImplicit), (Str.ofString "_check_parenthesis", PySem.NameKind.globalImplicit), (Str.ofString "min", PySem.NameKind.globalImplicit), (Str.ofString "_byteswap", PySem.NameKind.globalImplicit), (Str.ofString "isinstance", PySem.NameKind.globalImplicit), (Str.ofString "max", PySem.NameKind.globalImplicit), (Str.ofString "ValueError", PySem.NameKind.globalImplicit), (Str.ofString "IndexError", PySem.NameKind.globalImplicit), (Str.ofString "sum", PySem.NameKind.globalImplicit), (Str.ofString "len", PySem.NameKind.globalImplicit), (Str.ofString "_law_about", PySem.NameKind.globalImplicit), (Str.ofString "_pre_parse_validation", PySem.NameKind.globalImplicit)], isGenerator := Bool.false, isCoroutine := Bool.false, more := [(Str.ofString "fast", PySem.Const.str (Str.ofString "script")), (Str.ofString "fast", PySem.Const.str (Str.ofString "x")), (Str.ofString "fast", PySem.Const.str (Str.ofString "y")), (Str.ofString "fast", PySem.Const.str (Str.ofString "numbers")), (Str.ofString "fast", PySem.Const.str (Str.ofString "signs")), (Str.ofString "fast", PySem.Const.str (Str.ofString "sign")), (Str.ofString "fast", PySem.Const.str (Str.ofString "row")), (Str.ofString "fast", PySem.Const.str (Str.ofString "heights")), (Str.ofString "fast", PySem.Const.str (Str.ofString "k")), (Str.ofString "fast", PySem.Const.str (Str.ofString "closes")), (Str.ofString "fast", PySem.Const.str (Str.ofString "a")), (Str.ofString "fast", PySem.Const.str (Str.ofString "b")), (Str.ofString "fast", PySem.Const.str (Str.ofString "about")), (Str.ofString "fast", PySem.Const.str (Str.ofString "due")), (Str.ofString "fast", PySem.Const.str (Str.ofString "told")), (Str.ofString "fast", PySem.Const.str (Str.ofString "width")), (Str.ofString "fast", PySem.Const.str (Str.ofString "refused")), (Str.ofString "fast", PySem.Const.str (Str.ofString "blocks")), (Str.ofString "fast", PySem.Const.str (Str.ofString "over")), (Str.ofString "fast", PySem.Const.str (Str.ofString "top")), (Str.ofString "fast", PySem.Const.str (Str.ofString "p")), (Str.ofString "fast", PySem.Const.str (Str.ofString "both")), (Str.ofString "fast", PySem.Const.str (Str.ofString "low")), (Str.ofString "fast", PySem.Const.str (Str.ofString "left")), (Str.ofString "fast", PySem.Const.str (Str.ofString "right")), (Str.ofString "fast", PySem.Const.str (Str.ofString "behind")), (Str.ofString "fast", PySem.Const.str (Str.ofString "tops")), (Str.ofString "fast", PySem.Const.str (Str.ofString "cut")), (Str.ofString "fast", PySem.Const.str (Str.ofString "words")), (Str.ofString "fast", PySem.Const.str (Str.ofString "header")), (Str.ofString "fast", PySem.Const.str (Str.ofString "once")), (Str.ofString "fast", PySem.Const.str (Str.ofString "twice")), (Str.ofString "fast", PySem.Const.str (Str.ofString "one")), (Str.ofString "fast", PySem.Const.str (Str.ofString "fields")), (Str.ofString "fast", PySem.Const.str (Str.ofString "given")), (Str.ofString "fast", PySem.Const.str (Str.ofString "halves")), (Str.ofString "fast", PySem.Const.str (Str.ofString "laid")), (Str.ofString "fast", PySem.Const.str (Str.ofString "good")), (Str.ofString "fast", PySem.Const.str (Str.ofString "kept"))] }, globals := 0, closure := [], defaults := Value.none, kwdefaults := Value.none } }
noncomputable def hd.o_103 : Params → Obj := fun P => { cls := Value.type "code", data := Data.fields #[Value.str (Str.ofString "law") 262, Value.str (Str.ofString "law") 263, Value.str (Str.ofString "/claim/cut.py") 264, Value.int 67 0, Value.int 1 0, Value.int 0 0, Value.int 0 0, Value.int 3 0, Value.ref 64, Value.bool Bool.true, Value.int 181 0, Value.ref 65, Value.none, Value.none, Value.none, Value.ref 66, Value.int 265 0, Value.int 67 0, Value.str (Str.ofString "/claim/cut.py") 266] }
noncomputable def hd.o_104 : Params → Obj := fun P => { cls := Value.type "function", data := Data.func { name := Str.ofString "law", qualname := Str.ofString "law", params := (fdA 7), body := FuncBody.stmts (fdB 7), scope := { kind := PySem.ScopeKind.function, names := [(Str.ofString "script", PySem.NameKind.local), (Str.ofString "x", PySem.NameKind.local), (Str.ofString "numbers", PySem.NameKind.cell), (Str.ofString "signs", PySem.NameKind.cell), (Str.ofString "sign", PySem.NameKind.local), (Str.ofString "row", PySem.NameKind.local), (Str.ofString "heights", PySem.NameKind.cell), (Str.ofString "k", PySem.NameKind.local), (Str.ofString "closes", PySem.NameKind.local), (Str.ofString "a", PySem.NameKind.local), (Str.ofString "b", PySem.NameKind.local), (Str.ofString "about", PySem.NameKind.local), (Str.ofString "due", PySem.NameKind.local), (Str.ofString "told", PySem.NameKind.local), (Str.ofString "width", PySem.NameKind.cell), (Str.ofString "refused", PySem.NameKind.local), (Str.ofString "blocks", PySem.NameKind.local), (Str.ofString "over", PySem.NameKind.local), (Str.ofString "top", PySem.NameKind.cell), (Str.ofString "p", PySem.NameKind.local), (Str.ofString "both", PySem.NameKind.local), (Str.ofString "low", PySem.NameKind.local), (Str.ofString "left", PySem.NameKind.local), (Str.ofString "right", PySem.NameKind.local), (Str.ofString "behind", PySem.NameKind.local), (Str.ofString "tops", PySem.NameKind.local), (Str.ofString "cut", PySem.NameKind.local), (Str.ofString "words", PySem.NameKind.local), (Str.ofString "header", PySem.NameKind.local), (Str.ofString "once", PySem.NameKind.local), (Str.ofString "twice", PySem.NameKind.local), (Str.ofString "fields", PySem.NameKind.local), (Str.ofString "given", PySem.NameKind.local), (Str.ofString "halves", PySem.NameKind.local), (Str.ofString "laid", PySem.NameKind.cell), (Str.ofString "good", PySem.NameKind.cell), (Str.ofString "kept", PySem.NameKind.local), (Str.ofString "zip", PySem.NameKind.globalImplicit), (Str.ofString "bytes", PySem.NameKind.globalImplicit), (Str.ofString "range", PySem.NameKind.globalImplicit), (Str.ofString "_check_parenthesis", PySem.NameKind.globalImplicit), (Str.ofString "min", PySem.NameKind.globalImplicit), (Str.ofString "_byteswap", PySem.NameKind.globalImplicit), (Str.ofString "isinstance", PySem.NameKind.globalImplicit), (Str.ofString "max", PySem.NameKind.globalImplicit), (Str.ofString "ValueError", PySem.NameKind.globalImplicit), (Str.ofString "IndexError", PySem.NameKind.globalImplicit), (Str.ofString "sum", PySem.NameKind.globalImplicit), (Str.ofString "len", PySem.NameKind.globalImplicit), (Str.ofString "_law_about", PySem.NameKind.globalImplicit), (Str.ofString "_pre_parse_validation", PySem.NameKind.globalImplicit)], isGenerator := Bool.false, isCoroutine := Bool.false, more := [(Str.ofString "fast", PySem.Const.str (Str.ofString "script")), (Str.ofString "fast", PySem.Const.str (Str.ofString "x")), (Str.ofString "fast", PySem.Const.str (Str.ofString "y")), (Str.ofString "fast", PySem.Const.str (Str.ofString "numbers")), (Str.ofString "fast", PySem.Const.str (Str.ofString "signs")), (Str.ofString "fast", PySem.Const.str (Str.ofString "sign")), (Str.ofString "fast", PySem.Const.str (Str.ofString "row")), (Str.ofString "fast", PySem.Const.str (Str.ofString "heights")), (Str.ofString "fast", PySem.Const.str (Str.ofString "k")), (Str.ofString "fast", PySem.Const.str (Str.ofString "closes")), (Str.ofString "fast", PySem.Const.str (Str.ofString "a")), (Str.ofString "fast", PySem.Const.str (Str.ofString "b")), (Str.ofString "fast", PySem.Const.str (Str.ofString "about")), (Str.ofString "fast", PySem.Const.str (Str.ofString "due")), (Str.ofString "fast", PySem.Const.str (Str.ofString "told")), (Str.ofString "fast", PySem.Const.str (Str.ofString "width")), (Str.ofString "fast", PySem.Const.str (Str.ofString "refused")), (Str.ofString "fast", PySem.Const.str (Str.ofString "blocks")), (Str.ofString "fast", PySem.Const.str (Str.ofString "over")), (Str.ofString "fast", PySem.Const.str (Str.ofString "top")), (Str.ofString "fast", PySem.Const.str (Str.ofString "p")), (Str.ofString "fast", PySem.Const.str (Str.ofString "both")), (Str.ofString "fast", PySem.Const.str (Str.ofString "low")), (Str.ofString "fast", PySem.Const.str (Str.ofString "left")), (Str.ofString "fast", PySem.Const.str (Str.ofString "right")), (Str.ofString "fast", PySem.Const.str (Str.ofString "behind")), (Str.ofString "fast", PySem.Const.str (Str.ofString "tops")), (Str.ofString "fast", PySem.Const.str (Str.ofString "cut")), (Str.ofString "fast", PySem.Const.str (Str.ofString "words")), (Str.ofString "fast", PySem.Const.str (Str.ofString "header")), (Str.ofString "fast", PySem.Const.str (Str.ofString "once")), (Str.ofString "fast", PySem.Const.str (Str.ofString "twice")), (Str.ofString "fast", PySem.Const.str (Str.ofString "one")), (Str.ofString "fast", PySem.Const.str (Str.ofString "fields")), (Str.ofString "fast", PySem.Const.str (Str.ofString "given")), (Str.ofString "fast", PySem.Const.str (Str.ofString "halves")), (Str.ofString "fast", PySem.Const.str (Str.ofString "laid")), (Str.ofString "fast", PySem.Const.str (Str.ofString "good")), (Str.ofString "fast", PySem.Const.str (Str.ofString "kept"))] }, globals := 3, closure := [], defaults := Value.none, kwdefaults := Value.none, pyModule := Value.str (Str.ofString "law_pg0065_01") 243, code := Value.ref 67 } }
noncomputable def hd.o_43 : Params → Obj := fun P => { cls := Value.type "tuple", data := Data.seq #[] }
noncomputable def hd.o_45 : Params → Obj := fun P => { cls := Value.type "code", data := Data.fields #[Value.str (Str.ofString "<module>") 182, Value.str (Str.ofString "<module>") 183, Value.str (Str.ofString "/claim/cut.py") 184, Value.int 1 0, Value.int 0 0, Value.int 0 0, Value.int 0 0, Value.int 0 0, Value.ref 11, Value.bool Bool.false, Value.int 181 0, Value.ref 12, Value.none, Value.none, Value.none, Value.none, Value.int 185 0, Value.int 1 0, Value.str (Str.ofString "/claim/cut.py") 186] }
noncomputable def hd.o_46 : Params → Obj := fun P => { cls := Value.type "frame", slots := #[Option.some (Value.ref 13), Option.some (Value.ref 3), Option.some (Value.ref 3), Option.none, Option.some (Value.str (Str.ofString "__main__") 164), Option.none, Option.some (Value.ref 0)] }
noncomputable def hd.o_49 : Params → Obj := fun P => { cls := Value.type "dict", data := Data.dict #[{ hash := PyData.keyHash P (Str.ofString "__name__"), key := Value.str (Str.ofString "__name__") 165, val := Value.str (Str.ofString "law_pg0065_01") 243 }, { hash := PyData.keyHash P (Str.ofString "__doc__"), key := Value.str (Str.ofString "__doc__") 166, val := Value.none }, { hash := PyData.keyHash P (Str.ofString "__package__"), key := Value.str (Str.ofString "__package__") 167, val := Value.none }, { hash := PyData.keyHash P (Str.ofString "__loader__"), key := Value.str (Str.ofString "__loader__") 168, val := Value.builtin "__main__.__loader__#opaque" }, { hash := PyData.keyHash P (Str.ofString "__spec__"), key := Value.str (Str.ofString "__spec__") 169, val := Value.none }, { hash := PyData.keyHash P (Str.ofString "__annotations__"), key := Value.str (Str.ofString "__annotations__") 170, val := Value.ref 6 }, { hash := PyData.keyHash P (Str.ofString "__builtins__"), key := Value.str (Str.ofString "__builtins__") 171, val := Value.ref 4 }, { hash := PyData.keyHash P (Str.ofString "__file__"), key := Value.str (Str.ofString "__file__") 173, val := Value.str (Str.ofString "/claim/cut.py") 172 }, { hash := PyData.keyHash P (Str.ofString "__cached__"), key := Value.str (Str.ofString "__cached__") 174, val := Value.none }, { hash := PyData.keyHash P (Str.ofString "_iter_escaped_chars"), key := Value.str (Str.ofString "_iter_escaped_chars") 198, val := Value.ref 21 }, { hash := PyData.keyHash P (Str.ofString "_strip_quoted_realnames"), key := Value.str (Str.ofString "_strip_quoted_realnames") 210, val := Value.ref 28 }, { hash := PyData.keyHash P (Str.ofString "_check_parenthesis"), key := Value.str (Str.ofString "_check_parenthesis") 220, val := Value.ref 35 }, { hash := PyData.keyHash P (Str.ofString "_pre_parse_validation"), key := Value.str (Str.ofString "_pre_parse_validation") 229, val := Value.ref 42 }, { hash := PyData.keyHash P (Str.ofString "_byteswap"), key := Value.str (Str.ofString "_byteswap") 242, val := Value.ref 49 }, { hash := PyData.keyHash P (Str.ofString "_law_word"), key := Value.str (Str.ofString "_law_word") 254, val := Value.ref 56 }, { hash := PyData.keyHash P (Str.ofString "_law_about"), key := Value.str (Str.ofString "_law_about") 261, val := Value.ref 63 }, { hash := PyData.keyHash P (Str.ofString "law"), key := Value.str (Str.ofString "law") 267, val := Value.ref 68 }] 17 }
noncomputable def hd.o_50 : Params → Obj := fun P => { cls := Value.none, data := Data.fields #[Value.int 2 0, Value.int 0 0, Value.ref 20, Value.int 15 0, Value.int 0 0, Value.ref 27, Value.int 33 0, Value.int 0 0, Value.ref 34, Value.int 44 0, Value.int 0 0, Value.ref 41, Value.int 52 0, Value.int 0 0, Value.ref 48, Value.int 59 0, Value.int 0 0, Value.ref 55, Value.int 63 0, Value.int 0 0, Value.ref 62, Value.int 67 0, Value.int 0 0, Value.ref 67] }
noncomputable def hd.o_51 : Params → Obj := fun P => { cls := Value.type "tuple", data := Data.seq #[] }
noncomputable def hd.o_52 : Params → Obj := fun P => { cls := Value.none, data := Data.fields #[] }
noncomputable def hd.o_53 : Params → Obj := fun P => { cls := Value.type "tuple", data := Data.seq #[Value.str (Str.ofString "addr") 192, Value.str (Str.ofString "pos") 193, Value.str (Str.ofString "escape") 194, Value.str (Str.ofString "ch") 195] }
noncomputable def hd.o_54 : Params → Obj := fun P => { cls := Value.type "tuple", data := Data.seq #[] }
noncomputable def hd.o_55 : Params → Obj := fun P => { cls := Value.none, data := Data.func { name := Str.ofString "_iter_escaped_chars", qualname := Str.ofString "_iter_escaped_chars", params := (fdA 0), body := FuncBody.stmts (fdB 0), scope := (fdS 0), globals := 0, closure := [], defaults := Value.none, kwdefaults := Value.none } }
noncomputable def hd.o_56 : Params → Obj := fun P => { cls := Value.type "code", data := Data.fields #[Value.str (Str.ofString "_iter_escaped_chars") 189, Value.str (Str.ofString "_iter_escaped_chars") 190, Value.str (Str.ofString "/claim/cut.py") 191, Value.int 2 0, Value.int 1 0, Value.int 0 0, Value.int 0 0, Value.int 35 0, Value.ref 15, Value.bool Bool.true, Value.int 181 0, Value.ref 16, Value.none, Value.ref 17, Value.ref 18, Value.ref 19, Value.int 196 0, Value.int 2 0, Value.str (Str.ofString "/claim/cut.py") 197] }
noncomputable def hd.o_57 : Params → Obj := fun P => { cls := Value.type "function", data := Data.func { name := Str.ofString "_iter_escaped_chars", qualname := Str.ofString "_iter_escaped_chars", params := (fdA 0), body := FuncBody.stmts (fdB 0), scope := (fdS 0), globals := 3, closure := [], defaults := Value.none, kwdefaults := Value.none, pyModule := Value.str (Str.ofString "cpy313.email.utils") 187, code := Value.ref 20 } }
noncomputable def hd.o_58 : Params → Obj := fun P => { cls := Value.type "tuple", data := Data.seq #[] }
noncomputable def hd.o_59 : Params → Obj := fun P => { cls := Value.none, data := Data.fields #[] }
noncomputable def hd.o_60 : Params → Obj := fun P => { cls := Value.type "tuple", data := Data.seq #[Value.str (Str.ofString "addr") 202, Value.str (Str.ofString "start") 203, Value.str (Str.ofString "open_pos") 204, Value.str (Str.ofString "result") 205, Value.str (Str.ofString "pos") 206, Value.str (Str.ofString "ch") 207] }
noncomputable def hd.o_61 : Params → Obj := fun P => { cls := Value.type "tuple", data := Data.seq #[] }
noncomputable def hd.o_62 : Params → Obj := fun P => { cls := Value.none, data := Data.func { name := Str.ofString "_strip_quoted_realnames", qualname := Str.ofString "_strip_quoted_realnames", params := (fdA 1), body := FuncBody.stmts (fdB 1), scope := (fdS 1), globals := 0, closure := [], defaults := Value.none, kwdefaults := Value.none } }
noncomputable def hd.o_63 : Params → Obj := fun P => { cls := Value.type "code", data := Data.fields #[Value.str (Str.ofString "_strip_quoted_realnames") 199, Value.str (Str.ofString "_strip_quoted_realnames") 200, Value.str (Str.ofString "/claim/cut.py") 201, Value.int 15 0, Value.int 1 0, Value.int 0 0, Value.int 0 0, Value.int 3 0, Value.ref 22, Value.bool Bool.true, Value.int 181 0, Value.ref 23, Value.none, Value.ref 24, Value.ref 25, Value.ref 26, Value.int 208 0, Value.int 15 0, Value.str (Str.ofString "/claim/cut.py") 209] }
noncomputable def hd.o_64 : Params → Obj := fun P => { cls := Value.type "function", data := Data.func { name := Str.ofString "_strip_quoted_realnames", qualname := Str.ofString "_strip_quoted_realnames", params := (fdA 1), body := FuncBody.stmts (fdB 1), scope := (fdS 1), globals := 3, closure := [], defaults := Value.none, kwdefaults := Value.none, pyModule := Value.str (Str.ofString "cpy313.email.utils") 187, code := Value.ref 27 } }
noncomputable def hd.o_65 : Params → Obj := fun P => { cls := Value.type "tuple", data := Data.seq #[] }
noncomputable def hd.o_66 : Params → Obj := fun P => { cls := Value.none, data := Data.fields #[] }
noncomputable def hd.o_67 : Params → Obj := fun P => { cls := Value.type "tuple", data := Data.seq #[Value.str (Str.ofString "addr") 214, Value.str (Str.ofString "opens") 215, Value.str (Str.ofString "pos") 216, Value.str (Str.ofString "ch") 217] }
noncomputable def hd.o_68 : Params → Obj := fun P => { cls := Value.type "tuple", data := Data.seq #[] }
noncomputable def hd.o_69 : Params → Obj := fun P => { cls := Value.none, data := Data.func { name := Str.ofString "_check_parenthesis", qualname := Str.ofString "_check_parenthesis", params := (fdA 2), body := FuncBody.stmts (fdB 2), scope := (fdS 2), globals := 0, closure := [], defaults := Value.none, kwdefaults := Value.none } }
noncomputable def hd.o_70 : Params → Obj := fun P => { cls := Value.type "code", data := Data.fields #[Value.str (Str.ofString "_check_parenthesis") 211, Value.str (Str.ofString "_check_parenthesis") 212, Value.str (Str.ofString "/claim/cut.py") 213, Value.int 33 0, Value.int 1 0, Value.int 0 0, Value.int 0 0, Value.int 3 0, Value.ref 29, Value.bool Bool.true, Value.int 181 0, Value.ref 30, Value.none, Value.ref 31, Value.ref 32, Value.ref 33, Value.int 218 0, Value.int 33 0, Value.str (Str.ofString "/claim/cut.py") 219] }
noncomputable def hd.o_71 : Params → Obj := fun P => { cls := Value.type "function", data := Data.func { name := Str.ofString "_check_parenthesis", qualname := Str.ofString "_check_parenthesis", params := (fdA 2), body := FuncBody.stmts (fdB 2), scope := (fdS 2), globals := 3, closure := [], defaults := Value.none, kwdefaults := Value.none, pyModule := Value.str (Str.ofString "cpy313.email.utils") 187, code := Value.ref 34 } }
noncomputable def hd.o_72 : Params → Obj := fun P => { cls := Value.type "tuple", data := Data.seq #[] }
noncomputable def hd.o_73 : Params → Obj := fun P => { cls := Value.none, data := Data.fields #[] }
noncomputable def hd.o_74 : Params → Obj := fun P => { cls := Value.type "tuple", data := Data.seq #[Value.str (Str.ofString "email_header_fields") 224, Value.str (Str.ofString "accepted_values") 225, Value.str (Str.ofString "v") 226] }
noncomputable def hd.o_75 : Params → Obj := fun P => { cls := Value.type "tuple", data := Data.seq #[] }
noncomputable def hd.o_76 : Params → Obj := fun P => { cls := Value.none, data := Data.func { name := Str.ofString "_pre_parse_validation", qualname := Str.ofString "_pre_parse_validation", params := (fdA 3), body := FuncBody.stmts (fdB 3), scope := (fdS 3), globals := 0, closure := [], defaults := Value.none, kwdefaults := Value.none } }
noncomputable def hd.o_77 : Params → Obj := fun P => { cls := Value.type "code", data := Data.fields #[Value.str (Str.ofString "_pre_parse_validation") 221, Value.str (Str.ofString "_pre_parse_validation") 222, Value.str (Str.ofString "/claim/cut.py") 223, Value.int 44 0, Value.int 1 0, Value.int 0 0, Value.int 0 0, Value.int 3 0, Value.ref 36, Value.bool Bool.true, Value.int 181 0, Value.ref 37, Value.none, Value.ref 38, Value.ref 39, Value.ref 40, Value.int 227 0, Value.int 44 0, Value.str (Str.ofString "/claim/cut.py") 228] }
noncomputable def hd.o_78 : Params → Obj := fun P => { cls := Value.type "function", data := Data.func { name := Str.ofString "_pre_parse_validation", qualname := Str.ofString "_pre_parse_validation", params := (fdA 3), body := FuncBody.stmts (fdB 3), scope := (fdS 3), globals := 3, closure := [], defaults := Value.none, kwdefaults := Value.none, pyModule := Value.str (Str.ofString "cpy313.email.utils") 187, code := Value.ref 41 } }
noncomputable def hd.o_79 : Params → Obj := fun P => { cls := Value.type "tuple", data := Data.seq #[] }
noncomputable def hd.o_80 : Params → Obj := fun P => { cls := Value.none, data := Data.fields #[] }
noncomputable def hd.o_81 : Params → Obj := fun P => { cls := Value.type "tuple", data := Data.seq #[Value.str (Str.ofString "data") 235, Value.str (Str.ofString "width") 236, Value.str (Str.ofString "swapped_data") 237, Value.str (Str.ofString "i") 238, Value.str (Str.ofString "j") 239] }
noncomputable def hd.o_82 : Params → Obj := fun P => { cls := Value.type "tuple", data := Data.seq #[] }
noncomputable def hd.o_83 : Params → Obj := fun P => { cls := Value.none, data := Data.func { name := Str.ofString "_byteswap", qualname := Str.ofString "_byteswap", params := (fdA 4), body := FuncBody.stmts (fdB 4), scope := (fdS 4), globals := 0, closure := [], defaults := Value.none, kwdefaults := Value.none } }
noncomputable def hd.o_84 : Params → Obj := fun P => { cls := Value.type "code", data := Data.fields #[Value.str (Str.ofString "_byteswap") 232, Value.str (Str.ofString "_byteswap") 233, Value.str (Str.ofString "/claim/cut.py") 234, Value.int 52 0, Value.int 2 0, Value.int 0 0, Value.int 0 0, Value.int 3 0, Value.ref 43, Value.bool Bool.true, Value.int 181 0, Value.ref 44, Value.none, Value.ref 45, Value.ref 46, Value.ref 47, Value.int 240 0, Value.int 52 0, Value.str (Str.ofString "/claim/cut.py") 241] }
noncomputable def hd.o_85 : Params → Obj := fun P => { cls := Value.type "function", data := Data.func { name := Str.ofString "_byteswap", qualname := Str.ofString "_byteswap", params := (fdA 4), body := FuncBody.stmts (fdB 4), scope := (fdS 4), globals := 3, closure := [], defaults := Value.none, kwdefaults := Value.none, pyModule := Value.str (Str.ofString "cpy313.wave") 230, code := Value.ref 48 } }
noncomputable def hd.o_86 : Params → Obj := fun P => { cls := Value.type "tuple", data := Data.seq #[] }
noncomputable def hd.o_87 : Params → Obj := fun P => { cls := Value.none, data := Data.fields #[] }
noncomputable def hd.o_88 : Params → Obj := fun P => { cls := Value.type "tuple", data := Data.seq #[Value.str (Str.ofString "sign") 248, Value.str (Str.ofString "kind") 249, Value.str (Str.ofString "one") 250, Value.str (Str.ofString "words") 251] }
noncomputable def hd.o_89 : Params → Obj := fun P => { cls := Value.type "tuple", data := Data.seq #[] }
noncomputable def hd.o_90 : Params → Obj := fun P => { cls := Value.none, data := Data.func { name := Str.ofString "_law_word", qualname := Str.ofString "_law_word", params := (fdA 5), body := FuncBody.stmts (fdB 5), scope := (fdS 5), globals := 0, closure := [], defaults := Value.none, kwdefaults := Value.none } }
noncomputable def hd.o_91 : Params → Obj := fun P => { cls := Value.type "code", data := Data.fields #[Value.str (Str.ofString "_law_word") 245, Value.str (Str.ofString "_law_word") 246, Value.str (Str.ofString "/claim/cut.py") 247, Value.int 59 0, Value.int 2 0, Value.int 0 0, Value.int 0 0, Value.int 3 0, Value.ref 50, Value.bool Bool.true, Value.int 181 0, Value.ref 51, Value.none, Value.ref 52, Value.ref 53, Value.ref 54, Value.int 252 0, Value.int 59 0, Value.str (Str.ofString "/claim/cut.py") 253] }
noncomputable def hd.o_92 : Params → Obj := fun P => { cls := Value.type "function", data := Data.func { name := Str.ofString "_law_word", qualname := Str.ofString "_law_word", params := (fdA 5), body := FuncBody.stmts (fdB 5), scope := (fdS 5), globals := 3, closure := [], defaults := Value.none, kwdefaults := Value.none, pyModule := Value.str (Str.ofString "law_pg0065_01") 243, code := Value.ref 55 } }
noncomputable def hd.o_93 : Params → Obj := fun P => { cls := Value.type "tuple", data := Data.seq #[] }
noncomputable def hd.o_94 : Params → Obj := fun P => { cls := Value.none, data := Data.fields #[] }
noncomputable def hd.o_95 : Params → Obj := fun P => { cls := Value.type "tuple", data := Data.seq #[Value.str (Str.ofString "words") 258] }
noncomputable def hd.o_96 : Params → Obj := fun P => { cls := Value.type "tuple", data := Data.seq #[] }
noncomputable def hd.o_97 : Params → Obj := fun P => { cls := Value.none, data := Data.func { name := Str.ofString "_law_about", qualname := Str.ofString "_law_about", params := (fdA 6), body := FuncBody.stmts (fdB 6), scope := (fdS 6), globals := 0, closure := [], defaults := Value.none, kwdefaults := Value.none } }
noncomputable def hd.o_98 : Params → Obj := fun P => { cls := Value.type "code", data := Data.fields #[Value.str (Str.ofString "_law_about") 255, Value.str (Str.ofString "_law_about") 256, Value.str (Str.ofString "/claim/cut.py") 257, Value.int 63 0, Value.int 1 0, Value.int 0 0, Value.int 0 0, Value.int 3 0, Value.ref 57, Value.bool Bool.true, Value.int 181 0, Value.ref 58, Value.none, Value.ref 59, Value.ref 60, Value.ref 61, Value.int 259 0, Value.int 63 0, Value.str (Str.ofString "/claim/cut.py") 260] }
noncomputable def hd.o_99 : Params → Obj := fun P => { cls := Value.type "function", data := Data.func { name := Str.ofString "_law_about", qualname := Str.ofString "_law_about", params := (fdA 6), body := FuncBody.stmts (fdB 6), scope := (fdS 6), globals := 3, closure := [], defaults := Value.none, kwdefaults := Value.none, pyModule := Value.str (Str.ofString "law_pg0065_01") 243, code := Value.ref 62 } }
noncomputable def hd.heap_105 : Params → Heap := fun P => { objs := { toList := [boot_o_0 P, boot_o_1 P, boot_o_2 P, hd.o_49 P, boot_o_4 P, boot_o_5 P, boot_o_6 P, boot_o_7 P, boot_o_8 P, boot_o_9 P, boot_o_10 P, hd.o_43 P, hd.o_50 P, hd.o_45 P, hd.o_46 P, hd.o_51 P, hd.o_52 P, hd.o_53 P, hd.o_54 P, hd.o_55 P, hd.o_56 P, hd.o_57 P, hd.o_58 P, hd.o_59 P, hd.o_60 P, hd.o_61 P, hd.o_62 P, hd.o_63 P, hd.o_64 P, hd.o_65 P, hd.o_66 P, hd.o_67 P, hd.o_68 P, hd.o_69 P, hd.o_70 P, hd.o_71 P, hd.o_72 P, hd.o_73 P, hd.o_74 P, hd.o_75 P, hd.o_76 P, hd.o_77 P, hd.o_78 P, hd.o_79 P, hd.o_80 P, hd.o_81 P, hd.o_82 P, hd.o_83 P, hd.o_84 P, hd.o_85 P, hd.o_86 P, hd.o_87 P, hd.o_88 P, hd.o_89 P, hd.o_90 P, hd.o_91 P, hd.o_92 P, hd.o_93 P, hd.o_94 P, hd.o_95 P, hd.o_96 P, hd.o_97 P, hd.o_98 P, hd.o_99 P, hd.o_100 P, hd.o_101 P, hd.o_102 P, hd.o_103 P, hd.o_104 P] } }
end Mine.Internal
end
section
set_option backward.match.sparseCases false
namespace Mine.Internal
open PySem
inductive PV where
  | none
  | bool (b : Bool)
  | int (i : Int)
  | str (x : List Nat)
  | bytes (x : List UInt8)
  | ref (n : Nat)
  | xl (ns : List Int)
  deriving DecidableEq
inductive PO where
  | list (vs : List PV)
  | tup (vs : List PV)
  | ba (x : List UInt8)
  deriving DecidableEq
noncomputable abbrev Rho := List (Str × PV)
noncomputable abbrev Sto := List PO
noncomputable def upd : Rho → Str → PV → Rho
  | [], x, v => [(x, v)]
  | (y, u) :: r, x, v => if x == y then (y, v) :: r else (y, u) :: upd r x v
inductive Fl where
  | next
  | ret (v : PV)
theorem lookup_upd (r : Rho) (x y : Str) (v : PV) : (upd r x v).lookup y = if y = x then some v else r.lookup y := by
  induction r with
  | nil =>
    by_cases h : y = x
    · simp [upd, h]
    · have : (y == x) = false := by simpa using h
      simp [upd, List.lookup_cons, h, this]
  | cons p r ih =>
    obtain ⟨z, u⟩ := p
    unfold upd
    by_cases h : x = z
    · subst h
      by_cases h' : y = x
      · simp [h']
      · have : (y == x) = false := by simpa using h'
        simp [List.lookup_cons, this, h']
    · have hz : (x == z) = false := by simpa using h
      simp only [hz, Bool.false_eq_true, if_false, List.lookup_cons]
      by_cases h' : y = z
      · subst h'
        simp [Ne.symm h]
      · have : (y == z) = false := by simpa using h'
        simp only [this]
        exact ih
theorem el4_5 {α0 α1 α2 α3 : Type} {P0 P1 P2 P3 P4 P5 : α0 → α1 → α2 → α3 → Prop} {C : Prop} (h : ∃ x0 x1 x2 x3, P0 x0 x1 x2 x3 ∧ P1 x0 x1 x2 x3 ∧ P2 x0 x1 x2 x3 ∧ P3 x0 x1 x2 x3 ∧ P4 x0 x1 x2 x3 ∧ P5 x0 x1 x2 x3) (f : ∀ x0 x1 x2 x3, P0 x0 x1 x2 x3 → P1 x0 x1 x2 x3 → P2 x0 x1 x2 x3 → P3 x0 x1 x2 x3 → P4 x0 x1 x2 x3 → P5 x0 x1 x2 x3 → C) : C := by
  obtain ⟨x0, x1, x2, x3, h0, h1, h2, h3, h4, h5⟩ := h
  exact f _ _ _ _ h0 h1 h2 h3 h4 h5
theorem el2_3 {α0 α1 : Type} {P0 P1 P2 P3 : α0 → α1 → Prop} {C : Prop} (h : ∃ x0 x1, P0 x0 x1 ∧ P1 x0 x1 ∧ P2 x0 x1 ∧ P3 x0 x1) (f : ∀ x0 x1, P0 x0 x1 → P1 x0 x1 → P2 x0 x1 → P3 x0 x1 → C) : C := by
  obtain ⟨x0, x1, h0, h1, h2, h3⟩ := h
  exact f _ _ h0 h1 h2 h3
theorem el4_7 {α0 α1 α2 α3 : Type} {P0 P1 P2 P3 P4 P5 P6 P7 : α0 → α1 → α2 → α3 → Prop} {C : Prop} (h : ∃ x0 x1 x2 x3, P0 x0 x1 x2 x3 ∧ P1 x0 x1 x2 x3 ∧ P2 x0 x1 x2 x3 ∧ P3 x0 x1 x2 x3 ∧ P4 x0 x1 x2 x3 ∧ P5 x0 x1 x2 x3 ∧ P6 x0 x1 x2 x3 ∧ P7 x0 x1 x2 x3) (f : ∀ x0 x1 x2 x3, P0 x0 x1 x2 x3 → P1 x0 x1 x2 x3 → P2 x0 x1 x2 x3 → P3 x0 x1 x2 x3 → P4 x0 x1 x2 x3 → P5 x0 x1 x2 x3 → P6 x0 x1 x2 x3 → P7 x0 x1 x2 x3 → C) : C := by
  obtain ⟨x0, x1, x2, x3, h0, h1, h2, h3, h4, h5, h6, h7⟩ := h
  exact f _ _ _ _ h0 h1 h2 h3 h4 h5 h6 h7
theorem tpE {α β γ : Type} {a d : α} {b e : β} {c f : γ} (h : some (a, b, c) = some (d, e, f)) {F : α → β → γ → Prop} (g : F a b c) : F d e f := by cases h; exact g
theorem tk_le {α : Type} {l : List α} {a n : Nat} (h : l.length ≤ n) : (l.take a).length ≤ n := Nat.le_trans (List.length_take_le' ..) h
theorem dr_le {α : Type} {l : List α} {a n : Nat} (h : l.length ≤ n) : (l.drop a).length ≤ n := by rw [List.length_drop]; exact Nat.le_trans (Nat.sub_le ..) h
theorem rv_le {α : Type} {l : List α} {n : Nat} (h : l.length ≤ n) : l.reverse.length ≤ n := by rw [List.length_reverse]; exact h
theorem ap_le {α : Type} {u v : List α} {m n : Nat} (h1 : u.length ≤ m) (h2 : v.length ≤ n) : (u ++ v).length ≤ m + n := by rw [List.length_append]; exact Nat.add_le_add h1 h2
theorem sm_le {a b m n z : Nat} (h1 : a ≤ m) (h2 : b ≤ n) (h : m + n ≤ z) : a + b ≤ z := Nat.le_trans (Nat.add_le_add h1 h2) h
theorem el1_5 {α0 : Type} {P0 P1 P2 P3 P4 P5 : α0 → Prop} {C : Prop} (h : ∃ x0, P0 x0 ∧ P1 x0 ∧ P2 x0 ∧ P3 x0 ∧ P4 x0 ∧ P5 x0) (f : ∀ x0, P0 x0 → P1 x0 → P2 x0 → P3 x0 → P4 x0 → P5 x0 → C) : C := by
  obtain ⟨x0, h0, h1, h2, h3, h4, h5⟩ := h
  exact f _ h0 h1 h2 h3 h4 h5
theorem el7_4 {α0 α1 α2 α3 α4 α5 α6 : Type} {P0 P1 P2 P3 P4 : α0 → α1 → α2 → α3 → α4 → α5 → α6 → Prop} {C : Prop} (h : ∃ x0 x1 x2 x3 x4 x5 x6, P0 x0 x1 x2 x3 x4 x5 x6 ∧ P1 x0 x1 x2 x3 x4 x5 x6 ∧ P2 x0 x1 x2 x3 x4 x5 x6 ∧ P3 x0 x1 x2 x3 x4 x5 x6 ∧ P4 x0 x1 x2 x3 x4 x5 x6) (f : ∀ x0 x1 x2 x3 x4 x5 x6, P0 x0 x1 x2 x3 x4 x5 x6 → P1 x0 x1 x2 x3 x4 x5 x6 → P2 x0 x1 x2 x3 x4 x5 x6 → P3 x0 x1 x2 x3 x4 x5 x6 → P4 x0 x1 x2 x3 x4 x5 x6 → C) : C := by
  obtain ⟨x0, x1, x2, x3, x4, x5, x6, h0, h1, h2, h3, h4⟩ := h
  exact f _ _ _ _ _ _ _ h0 h1 h2 h3 h4
theorem spE {α β : Type} {a c : α} {b d : β} (h : some (a, b) = some (c, d)) {F : α → β → Prop} (f : F a b) : F c d := by cases h; exact f
theorem exE {α β : Type} {g : α → β} {v : β} (h : ∃ t, v = g t) {F : β → Prop} (f : ∀ t, F (g t)) : F v := by obtain ⟨t, rfl⟩ := h; exact f t
theorem opq2 {α β : Type} (J : α → β → Prop) {C : Prop} (h : ∀ I : α → β → Prop, (∀ a b, I a b → J a b) → (∀ a b, J a b → I a b) → C) : C := h J (fun _ _ x => x) fun _ _ x => x
theorem sp_inj {α β : Type} {a c : α} {b d : β} {C : Prop} (h : some (a, b) = some (c, d)) (f : a = c → b = d → C) : C := f (congrArg Prod.fst (Option.some.inj h)) (congrArg Prod.snd (Option.some.inj h))
theorem el5_11 {α0 α1 α2 α3 α4 : Type} {P0 P1 P2 P3 P4 P5 P6 P7 P8 P9 P10 P11 : α0 → α1 → α2 → α3 → α4 → Prop} {C : Prop} (h : ∃ x0 x1 x2 x3 x4, P0 x0 x1 x2 x3 x4 ∧ P1 x0 x1 x2 x3 x4 ∧ P2 x0 x1 x2 x3 x4 ∧ P3 x0 x1 x2 x3 x4 ∧ P4 x0 x1 x2 x3 x4 ∧ P5 x0 x1 x2 x3 x4 ∧ P6 x0 x1 x2 x3 x4 ∧ P7 x0 x1 x2 x3 x4 ∧ P8 x0 x1 x2 x3 x4 ∧ P9 x0 x1 x2 x3 x4 ∧ P10 x0 x1 x2 x3 x4 ∧ P11 x0 x1 x2 x3 x4) (f : ∀ x0 x1 x2 x3 x4, P0 x0 x1 x2 x3 x4 → P1 x0 x1 x2 x3 x4 → P2 x0 x1 x2 x3 x4 → P3 x0 x1 x2 x3 x4 → P4 x0 x1 x2 x3 x4 → P5 x0 x1 x2 x3 x4 → P6 x0 x1 x2 x3 x4 → P7 x0 x1 x2 x3 x4 → P8 x0 x1 x2 x3 x4 → P9 x0 x1 x2 x3 x4 → P10 x0 x1 x2 x3 x4 → P11 x0 x1 x2 x3 x4 → C) : C := by
  obtain ⟨x0, x1, x2, x3, x4, h0, h1, h2, h3, h4, h5, h6, h7, h8, h9, h10, h11⟩ := h
  exact f _ _ _ _ _ h0 h1 h2 h3 h4 h5 h6 h7 h8 h9 h10 h11
theorem el5_9 {α0 α1 α2 α3 α4 : Type} {P0 P1 P2 P3 P4 P5 P6 P7 P8 P9 : α0 → α1 → α2 → α3 → α4 → Prop} {C : Prop} (h : ∃ x0 x1 x2 x3 x4, P0 x0 x1 x2 x3 x4 ∧ P1 x0 x1 x2 x3 x4 ∧ P2 x0 x1 x2 x3 x4 ∧ P3 x0 x1 x2 x3 x4 ∧ P4 x0 x1 x2 x3 x4 ∧ P5 x0 x1 x2 x3 x4 ∧ P6 x0 x1 x2 x3 x4 ∧ P7 x0 x1 x2 x3 x4 ∧ P8 x0 x1 x2 x3 x4 ∧ P9 x0 x1 x2 x3 x4) (f : ∀ x0 x1 x2 x3 x4, P0 x0 x1 x2 x3 x4 → P1 x0 x1 x2 x3 x4 → P2 x0 x1 x2 x3 x4 → P3 x0 x1 x2 x3 x4 → P4 x0 x1 x2 x3 x4 → P5 x0 x1 x2 x3 x4 → P6 x0 x1 x2 x3 x4 → P7 x0 x1 x2 x3 x4 → P8 x0 x1 x2 x3 x4 → P9 x0 x1 x2 x3 x4 → C) : C := by
  obtain ⟨x0, x1, x2, x3, x4, h0, h1, h2, h3, h4, h5, h6, h7, h8, h9⟩ := h
  exact f _ _ _ _ _ h0 h1 h2 h3 h4 h5 h6 h7 h8 h9
theorem elAA {P0 : Prop} {P1 : Prop} {P2 : Prop} {Q : Prop} (h : P0 ∧ P1 ∧ P2) (k : P0 → P1 → P2 → Q) : Q :=
  let ⟨hP0, hP1, hP2⟩ := h
  k hP0 hP1 hP2
theorem elAE {α0 : Type} {P0 : Prop} {P1 : α0 → Prop} {Q : Prop} (h : P0 ∧ ∃ x0, P1 x0) (k : P0 → ∀ x0, P1 x0 → Q) : Q :=
  let ⟨hP0, x0, hP1⟩ := h
  k hP0 x0 hP1
theorem elEA {α0 : Type} {P0 : α0 → Prop} {P1 : α0 → Prop} {Q : Prop} (h : ∃ x0, P0 x0 ∧ P1 x0) (k : ∀ x0, P0 x0 → P1 x0 → Q) : Q :=
  let ⟨x0, hP0, hP1⟩ := h
  k x0 hP0 hP1
theorem elEE {α0 α1 : Type} {P0 : α0 → α1 → Prop} {Q : Prop} (h : ∃ x0, ∃ x1, P0 x0 x1) (k : ∀ x0, ∀ x1, P0 x0 x1 → Q) : Q :=
  let ⟨x0, x1, hP0⟩ := h
  k x0 x1 hP0
theorem elAAA {P0 : Prop} {P1 : Prop} {P2 : Prop} {P3 : Prop} {Q : Prop} (h : P0 ∧ P1 ∧ P2 ∧ P3) (k : P0 → P1 → P2 → P3 → Q) : Q :=
  let ⟨hP0, hP1, hP2, hP3⟩ := h
  k hP0 hP1 hP2 hP3
theorem elAEA {α0 : Type} {P0 : Prop} {P1 : α0 → Prop} {P2 : α0 → Prop} {Q : Prop} (h : P0 ∧ ∃ x0, P1 x0 ∧ P2 x0) (k : P0 → ∀ x0, P1 x0 → P2 x0 → Q) : Q :=
  let ⟨hP0, x0, hP1, hP2⟩ := h
  k hP0 x0 hP1 hP2
theorem elAEE {α0 α1 : Type} {P0 : Prop} {P1 : α0 → α1 → Prop} {Q : Prop} (h : P0 ∧ ∃ x0, ∃ x1, P1 x0 x1) (k : P0 → ∀ x0, ∀ x1, P1 x0 x1 → Q) : Q :=
  let ⟨hP0, x0, x1, hP1⟩ := h
  k hP0 x0 x1 hP1
theorem elEAA {α0 : Type} {P0 : α0 → Prop} {P1 : α0 → Prop} {P2 : α0 → Prop} {Q : Prop} (h : ∃ x0, P0 x0 ∧ P1 x0 ∧ P2 x0) (k : ∀ x0, P0 x0 → P1 x0 → P2 x0 → Q) : Q :=
  let ⟨x0, hP0, hP1, hP2⟩ := h
  k x0 hP0 hP1 hP2
theorem elEEA {α0 α1 : Type} {P0 : α0 → α1 → Prop} {P1 : α0 → α1 → Prop} {Q : Prop} (h : ∃ x0, ∃ x1, P0 x0 x1 ∧ P1 x0 x1) (k : ∀ x0, ∀ x1, P0 x0 x1 → P1 x0 x1 → Q) : Q :=
  let ⟨x0, x1, hP0, hP1⟩ := h
  k x0 x1 hP0 hP1
theorem elEEE {α0 α1 α2 : Type} {P0 : α0 → α1 → α2 → Prop} {Q : Prop} (h : ∃ x0, ∃ x1, ∃ x2, P0 x0 x1 x2) (k : ∀ x0, ∀ x1, ∀ x2, P0 x0 x1 x2 → Q) : Q :=
  let ⟨x0, x1, x2, hP0⟩ := h
  k x0 x1 x2 hP0
theorem elAAAA {P0 : Prop} {P1 : Prop} {P2 : Prop} {P3 : Prop} {P4 : Prop} {Q : Prop} (h : P0 ∧ P1 ∧ P2 ∧ P3 ∧ P4) (k : P0 → P1 → P2 → P3 → P4 → Q) : Q :=
  let ⟨hP0, hP1, hP2, hP3, hP4⟩ := h
  k hP0 hP1 hP2 hP3 hP4
theorem elAEAA {α0 : Type} {P0 : Prop} {P1 : α0 → Prop} {P2 : α0 → Prop} {P3 : α0 → Prop} {Q : Prop} (h : P0 ∧ ∃ x0, P1 x0 ∧ P2 x0 ∧ P3 x0) (k : P0 → ∀ x0, P1 x0 → P2 x0 → P3 x0 → Q) : Q :=
  let ⟨hP0, x0, hP1, hP2, hP3⟩ := h
  k hP0 x0 hP1 hP2 hP3
theorem elEAAA {α0 : Type} {P0 : α0 → Prop} {P1 : α0 → Prop} {P2 : α0 → Prop} {P3 : α0 → Prop} {Q : Prop} (h : ∃ x0, P0 x0 ∧ P1 x0 ∧ P2 x0 ∧ P3 x0) (k : ∀ x0, P0 x0 → P1 x0 → P2 x0 → P3 x0 → Q) : Q :=
  let ⟨x0, hP0, hP1, hP2, hP3⟩ := h
  k x0 hP0 hP1 hP2 hP3
theorem elEAAE {α0 α1 : Type} {P0 : α0 → Prop} {P1 : α0 → Prop} {P2 : α0 → α1 → Prop} {Q : Prop} (h : ∃ x0, P0 x0 ∧ P1 x0 ∧ ∃ x1, P2 x0 x1) (k : ∀ x0, P0 x0 → P1 x0 → ∀ x1, P2 x0 x1 → Q) : Q :=
  let ⟨x0, hP0, hP1, x1, hP2⟩ := h
  k x0 hP0 hP1 x1 hP2
theorem elEAEA {α0 α1 : Type} {P0 : α0 → Prop} {P1 : α0 → α1 → Prop} {P2 : α0 → α1 → Prop} {Q : Prop} (h : ∃ x0, P0 x0 ∧ ∃ x1, P1 x0 x1 ∧ P2 x0 x1) (k : ∀ x0, P0 x0 → ∀ x1, P1 x0 x1 → P2 x0 x1 → Q) : Q :=
  let ⟨x0, hP0, x1, hP1, hP2⟩ := h
  k x0 hP0 x1 hP1 hP2
theorem elEEAA {α0 α1 : Type} {P0 : α0 → α1 → Prop} {P1 : α0 → α1 → Prop} {P2 : α0 → α1 → Prop} {Q : Prop} (h : ∃ x0, ∃ x1, P0 x0 x1 ∧ P1 x0 x1 ∧ P2 x0 x1) (k : ∀ x0, ∀ x1, P0 x0 x1 → P1 x0 x1 → P2 x0 x1 → Q) : Q :=
  let ⟨x0, x1, hP0, hP1, hP2⟩ := h
  k x0 x1 hP0 hP1 hP2
theorem elEEEA {α0 α1 α2 : Type} {P0 : α0 → α1 → α2 → Prop} {P1 : α0 → α1 → α2 → Prop} {Q : Prop} (h : ∃ x0, ∃ x1, ∃ x2, P0 x0 x1 x2 ∧ P1 x0 x1 x2) (k : ∀ x0, ∀ x1, ∀ x2, P0 x0 x1 x2 → P1 x0 x1 x2 → Q) : Q :=
  let ⟨x0, x1, x2, hP0, hP1⟩ := h
  k x0 x1 x2 hP0 hP1
theorem elEEEE {α0 α1 α2 α3 : Type} {P0 : α0 → α1 → α2 → α3 → Prop} {Q : Prop} (h : ∃ x0, ∃ x1, ∃ x2, ∃ x3, P0 x0 x1 x2 x3) (k : ∀ x0, ∀ x1, ∀ x2, ∀ x3, P0 x0 x1 x2 x3 → Q) : Q :=
  let ⟨x0, x1, x2, x3, hP0⟩ := h
  k x0 x1 x2 x3 hP0
theorem elEAAEA {α0 α1 : Type} {P0 : α0 → Prop} {P1 : α0 → Prop} {P2 : α0 → α1 → Prop} {P3 : α0 → α1 → Prop} {Q : Prop} (h : ∃ x0, P0 x0 ∧ P1 x0 ∧ ∃ x1, P2 x0 x1 ∧ P3 x0 x1) (k : ∀ x0, P0 x0 → P1 x0 → ∀ x1, P2 x0 x1 → P3 x0 x1 → Q) : Q :=
  let ⟨x0, hP0, hP1, x1, hP2, hP3⟩ := h
  k x0 hP0 hP1 x1 hP2 hP3
theorem elEEAAA {α0 α1 : Type} {P0 : α0 → α1 → Prop} {P1 : α0 → α1 → Prop} {P2 : α0 → α1 → Prop} {P3 : α0 → α1 → Prop} {Q : Prop} (h : ∃ x0, ∃ x1, P0 x0 x1 ∧ P1 x0 x1 ∧ P2 x0 x1 ∧ P3 x0 x1) (k : ∀ x0, ∀ x1, P0 x0 x1 → P1 x0 x1 → P2 x0 x1 → P3 x0 x1 → Q) : Q :=
  let ⟨x0, x1, hP0, hP1, hP2, hP3⟩ := h
  k x0 x1 hP0 hP1 hP2 hP3
theorem elEEEAA {α0 α1 α2 : Type} {P0 : α0 → α1 → α2 → Prop} {P1 : α0 → α1 → α2 → Prop} {P2 : α0 → α1 → α2 → Prop} {Q : Prop} (h : ∃ x0, ∃ x1, ∃ x2, P0 x0 x1 x2 ∧ P1 x0 x1 x2 ∧ P2 x0 x1 x2) (k : ∀ x0, ∀ x1, ∀ x2, P0 x0 x1 x2 → P1 x0 x1 x2 → P2 x0 x1 x2 → Q) : Q :=
  let ⟨x0, x1, x2, hP0, hP1, hP2⟩ := h
  k x0 x1 x2 hP0 hP1 hP2
theorem elEEEAAA {α0 α1 α2 : Type} {P0 : α0 → α1 → α2 → Prop} {P1 : α0 → α1 → α2 → Prop} {P2 : α0 → α1 → α2 → Prop} {P3 : α0 → α1 → α2 → Prop} {Q : Prop} (h : ∃ x0, ∃ x1, ∃ x2, P0 x0 x1 x2 ∧ P1 x0 x1 x2 ∧ P2 x0 x1 x2 ∧ P3 x0 x1 x2) (k : ∀ x0, ∀ x1, ∀ x2, P0 x0 x1 x2 → P1 x0 x1 x2 → P2 x0 x1 x2 → P3 x0 x1 x2 → Q) : Q :=
  let ⟨x0, x1, x2, hP0, hP1, hP2, hP3⟩ := h
  k x0 x1 x2 hP0 hP1 hP2 hP3
theorem elEEAAEAA {α0 α1 α2 : Type} {P0 : α0 → α1 → Prop} {P1 : α0 → α1 → Prop} {P2 : α0 → α1 → α2 → Prop} {P3 : α0 → α1 → α2 → Prop} {P4 : α0 → α1 → α2 → Prop} {Q : Prop} (h : ∃ x0, ∃ x1, P0 x0 x1 ∧ P1 x0 x1 ∧ ∃ x2, P2 x0 x1 x2 ∧ P3 x0 x1 x2 ∧ P4 x0 x1 x2) (k : ∀ x0, ∀ x1, P0 x0 x1 → P1 x0 x1 → ∀ x2, P2 x0 x1 x2 → P3 x0 x1 x2 → P4 x0 x1 x2 → Q) : Q :=
  let ⟨x0, x1, hP0, hP1, x2, hP2, hP3, hP4⟩ := h
  k x0 x1 hP0 hP1 x2 hP2 hP3 hP4
theorem elEEEEAAA {α0 α1 α2 α3 : Type} {P0 : α0 → α1 → α2 → α3 → Prop} {P1 : α0 → α1 → α2 → α3 → Prop} {P2 : α0 → α1 → α2 → α3 → Prop} {P3 : α0 → α1 → α2 → α3 → Prop} {Q : Prop} (h : ∃ x0, ∃ x1, ∃ x2, ∃ x3, P0 x0 x1 x2 x3 ∧ P1 x0 x1 x2 x3 ∧ P2 x0 x1 x2 x3 ∧ P3 x0 x1 x2 x3) (k : ∀ x0, ∀ x1, ∀ x2, ∀ x3, P0 x0 x1 x2 x3 → P1 x0 x1 x2 x3 → P2 x0 x1 x2 x3 → P3 x0 x1 x2 x3 → Q) : Q :=
  let ⟨x0, x1, x2, x3, hP0, hP1, hP2, hP3⟩ := h
  k x0 x1 x2 x3 hP0 hP1 hP2 hP3
theorem elEEAAAAAA {α0 α1 : Type} {P0 : α0 → α1 → Prop} {P1 : α0 → α1 → Prop} {P2 : α0 → α1 → Prop} {P3 : α0 → α1 → Prop} {P4 : α0 → α1 → Prop} {P5 : α0 → α1 → Prop} {P6 : α0 → α1 → Prop} {Q : Prop} (h : ∃ x0, ∃ x1, P0 x0 x1 ∧ P1 x0 x1 ∧ P2 x0 x1 ∧ P3 x0 x1 ∧ P4 x0 x1 ∧ P5 x0 x1 ∧ P6 x0 x1) (k : ∀ x0, ∀ x1, P0 x0 x1 → P1 x0 x1 → P2 x0 x1 → P3 x0 x1 → P4 x0 x1 → P5 x0 x1 → P6 x0 x1 → Q) : Q :=
  let ⟨x0, x1, hP0, hP1, hP2, hP3, hP4, hP5, hP6⟩ := h
  k x0 x1 hP0 hP1 hP2 hP3 hP4 hP5 hP6
theorem elEEAAAAAAA {α0 α1 : Type} {P0 : α0 → α1 → Prop} {P1 : α0 → α1 → Prop} {P2 : α0 → α1 → Prop} {P3 : α0 → α1 → Prop} {P4 : α0 → α1 → Prop} {P5 : α0 → α1 → Prop} {P6 : α0 → α1 → Prop} {P7 : α0 → α1 → Prop} {Q : Prop} (h : ∃ x0, ∃ x1, P0 x0 x1 ∧ P1 x0 x1 ∧ P2 x0 x1 ∧ P3 x0 x1 ∧ P4 x0 x1 ∧ P5 x0 x1 ∧ P6 x0 x1 ∧ P7 x0 x1) (k : ∀ x0, ∀ x1, P0 x0 x1 → P1 x0 x1 → P2 x0 x1 → P3 x0 x1 → P4 x0 x1 → P5 x0 x1 → P6 x0 x1 → P7 x0 x1 → Q) : Q :=
  let ⟨x0, x1, hP0, hP1, hP2, hP3, hP4, hP5, hP6, hP7⟩ := h
  k x0 x1 hP0 hP1 hP2 hP3 hP4 hP5 hP6 hP7
noncomputable def bnd {α β γ : Type} (x : Option (α × β)) (k : α → β → Option γ) : Option γ := match x with
  | some (a, b) => k a b
  | none => none
theorem bndE {α β γ : Type} {x : Option (α × β)} {k : α → β → Option γ} {r : γ} {Q : Prop} (h : bnd x k = some r) (f : ∀ a b, x = some (a, b) → k a b = some r → Q) : Q := by
  cases x with
  | none => cases h
  | some p => exact f p.1 p.2 rfl h
theorem bindE {α β : Type} {x : Option α} {k : α → Option β} {r : β} {Q : Prop} (h : x.bind k = some r) (f : ∀ a, x = some a → k a = some r → Q) : Q := by
  cases x with
  | none => cases h
  | some p => exact f p rfl h
theorem mapE {α β : Type} {x : Option α} {k : α → β} {r : β} {Q : Prop} (h : x.map k = some r) (f : ∀ a, x = some a → k a = r → Q) : Q := by
  cases x with
  | none => cases h
  | some p => exact f p rfl (Option.some.inj h)
theorem iteE {α : Type} {c : Prop} [i : Decidable c] {x : Option α} {r : α} {Q : Prop} (h : (if c then x else none) = some r) (f : c → x = some r → Q) : Q := by
  cases i with
  | isTrue hc => exact f hc h
  | isFalse hc => cases h
theorem iteN {α : Type} {c : Prop} [i : Decidable c] {x : Option α} {r : α} {Q : Prop} (h : (if c then none else x) = some r) (f : ¬ c → x = some r → Q) : Q := by
  cases i with
  | isTrue hc => cases h
  | isFalse hc => exact f hc h
theorem ite2 {α : Type} {c : Prop} [i : Decidable c] {x y : α} {r : α} {Q : Prop} (h : (if c then x else y) = r) (f : c → x = r → Q) (g : ¬ c → y = r → Q) : Q := by
  cases i with
  | isTrue hc => exact f hc h
  | isFalse hc => exact g hc h
theorem iteT {α : Type} {c : Prop} [i : Decidable c] {x y r : α} (hc : c) (h : (if c then x else y) = r) : x = r := (if_pos hc).symm.trans h
theorem iteF {α : Type} {c : Prop} [i : Decidable c] {x y r : α} (hc : ¬ c) (h : (if c then x else y) = r) : y = r := (if_neg hc).symm.trans h
theorem orE {α : Type} {x y : Option α} {r : α} {Q : Prop} (h : x.or y = some r) (f : x = some r → Q) (g : y = some r → Q) : Q := by
  cases x with
  | none => exact g h
  | some p => exact f h
theorem noE {α : Type} {r : α} {Q : Prop} (h : (none : Option α) = some r) : Q := nomatch h
noncomputable def lim : Nat := 1000000
noncomputable def asInt : PV → Option Int
  | .int i => some i
  | _ => none
noncomputable def asStr : PV → Option (List Nat)
  | .str x => some x
  | _ => none
noncomputable def asByt : PV → Option (List UInt8)
  | .bytes x => some x
  | _ => none
noncomputable def asBool : PV → Option Bool
  | .bool b => some b
  | _ => none
theorem asInt_ok {p : PV} {i : Int} (h : asInt p = some i) : p = .int i := by
  cases p <;> first | (cases h; rfl) | cases h
theorem asStr_ok {p : PV} {i : List Nat} (h : asStr p = some i) : p = .str i := by
  cases p <;> first | (cases h; rfl) | cases h
theorem asByt_ok {p : PV} {i : List UInt8} (h : asByt p = some i) : p = .bytes i := by
  cases p <;> first | (cases h; rfl) | cases h
theorem asBool_ok {p : PV} {i : Bool} (h : asBool p = some i) : p = .bool i := by
  cases p <;> first | (cases h; rfl) | cases h
noncomputable def optL {α : Type} (f : PV → Option α) : List PV → Option (List α)
  | [] => some []
  | p :: r => (f p).bind fun a => (optL f r).map (a :: ·)
theorem optL_map {α : Type} {f : PV → Option α} {g : α → PV} (hg : ∀ {p a}, f p = some a → p = g a) : ∀ {l : List PV} {r : List α}, optL f l = some r → l = r.map g
  | [], _, h => by cases h; rfl
  | p :: l, _, h => bindE h fun a h1 h => mapE h fun r h2 h => by subst h; rw [hg h1, optL_map hg h2]; rfl
theorem optL_of {α : Type} {f : PV → Option α} {g : α → PV} (hg : ∀ a, f (g a) = some a) : ∀ l : List α, optL f (l.map g) = some l
  | [] => rfl
  | a :: l => by
    refine (?_ : (f (g a)).bind (fun a => (optL f (l.map g)).map (a :: ·)) = _)
    rw [hg, optL_of hg l]; rfl
noncomputable def pvInts : List PV → Option (List Int) := optL asInt
noncomputable def pvStrs : List PV → Option (List (List Nat)) := optL asStr
noncomputable def pvByts : List PV → Option (List (List UInt8)) := optL asByt
noncomputable def pvBools : List PV → Option (List Bool) := optL asBool
theorem pvInts_map {vs : List PV} {ns : List Int} (h : pvInts vs = some ns) : vs = ns.map .int := optL_map asInt_ok h
theorem pvStrs_map {vs : List PV} {ns : List (List Nat)} (h : pvStrs vs = some ns) : vs = ns.map .str := optL_map asStr_ok h
theorem pvByts_map {vs : List PV} {ns : List (List UInt8)} (h : pvByts vs = some ns) : vs = ns.map .bytes := optL_map asByt_ok h
theorem pvBools_map {vs : List PV} {ns : List Bool} (h : pvBools vs = some ns) : vs = ns.map .bool := optL_map asBool_ok h
theorem ints_of (l : List Int) : pvInts (l.map .int) = some l := optL_of (g := PV.int) (fun _ => rfl) l
theorem strs_of (l : List (List Nat)) : pvStrs (l.map .str) = some l := optL_of (g := PV.str) (fun _ => rfl) l
theorem byts_of (l : List (List UInt8)) : pvByts (l.map .bytes) = some l := optL_of (g := PV.bytes) (fun _ => rfl) l
noncomputable def asList : PO → Option (List PV)
  | .list vs => some vs
  | _ => none
theorem asList_ok {o : PO} {vs : List PV} (h : asList o = some vs) : o = .list vs := by
  cases o <;> first | (cases h; rfl) | cases h
noncomputable def listAt (σ : Sto) : PV → Option (List PV)
  | .ref n => (σ[n]?).bind asList
  | _ => none
noncomputable def mk (σ : Sto) (o : PO) : PV × Sto := (.ref σ.length, σ ++ [o])
noncomputable def intsAt (σ : Sto) (v : PV) : Option (List Int) := (listAt σ v).bind pvInts
noncomputable def one1 {α : Type} : List α → Option α
  | [] => none
  | a :: r => match r with
    | [] => some a
    | _ :: _ => none
theorem listAt_eq {σ : Sto} {n : Nat} {vs : List PV} (h : listAt σ (.ref n) = some vs) : σ[n]? = some (.list vs) := bindE h fun _ h1 h2 => by rw [h1, asList_ok h2]
theorem listAt_ref {σ : Sto} {v : PV} {vs : List PV} (h : listAt σ v = some vs) : ∃ n, v = .ref n ∧ σ[n]? = some (.list vs) := by
  cases v <;> first | exact ⟨_, rfl, listAt_eq h⟩ | cases h
theorem one1_some {α : Type} {l : List α} {a : α} (h : one1 l = some a) : l = [a] := by
  cases l with
  | nil => cases h
  | cons b r => cases r with
    | nil => cases h; rfl
    | cons _ _ => cases h
noncomputable def binI (op : Operator) (i j : Int) : Option Int := match op with
  | .Add => some (i + j)
  | .Sub => some (i - j)
  | .Mult => if -1000 < i ∧ i < 1000 ∧ -1000 < j ∧ j < 1000 then some (i * j) else none
  | .Mod => if 0 < j ∧ j < 1000 then some (i % j) else none
  | .FloorDiv => if 0 < j ∧ j < 1000 then some (i / j) else none
  | _ => none
noncomputable def isAdd : Operator → Bool
  | .Add => true
  | _ => false
noncomputable def isMul : Operator → Bool
  | .Mult => true
  | _ => false
noncomputable def binop (op : Operator) (a b : PV) (σ : Sto) : Option (PV × Sto) := match a with
  | .int i => match b with
    | .int j => (binI op i j).map fun k => (.int k, σ)
    | _ => none
  | .str x => match b with
    | .str y => if isAdd op = true ∧ x.length + y.length ≤ lim then some (.str (x ++ y), σ) else none
    | _ => none
  | .bytes x => match b with
    | .bytes y => if isAdd op = true ∧ x.length + y.length ≤ lim then some (.bytes (x ++ y), σ) else none
    | _ => none
  | .ref m => match b with
    | .ref n => if isAdd op = true then (listAt σ (.ref m)).bind fun xs => (listAt σ (.ref n)).bind fun ys => if xs.length + ys.length ≤ lim then some (mk σ (.list (xs ++ ys))) else none else none
    | .int k => if isMul op = true then (listAt σ (.ref m)).bind fun vs => (one1 vs).bind fun v => if 0 < k ∧ k ≤ 1000 then some (mk σ (.list (List.replicate k.toNat v))) else none else none
    | _ => none
  | _ => none
noncomputable def eqI (xs ys : List PV) : Option Bool := (pvInts xs).bind fun a => (pvInts ys).map fun b => (a == b)
noncomputable def eqS (xs ys : List PV) : Option Bool := (pvStrs xs).bind fun a => (pvStrs ys).map fun b => (a == b)
noncomputable def eqL (xs ys : List PV) : Option Bool := (eqI xs ys).or (eqS xs ys)
noncomputable def cmpI (op : CmpOp) (i j : Int) : Option Bool := match op with
  | .Eq => some (i == j)
  | .NotEq => some (i != j)
  | .Lt => some (decide (i < j))
  | .Gt => some (decide (i > j))
  | .LtE => some (decide (i ≤ j))
  | .GtE => some (decide (i ≥ j))
  | _ => none
noncomputable def cmpT (op : CmpOp) (x y : List Nat) : Option Bool := match op with
  | .Eq => some (x == y)
  | .NotEq => some (x != y)
  | .NotIn => (one1 x).map fun c => !y.contains c
  | _ => none
noncomputable def cmpB (op : CmpOp) (x y : List UInt8) : Option Bool := match op with
  | .Eq => some (x == y)
  | .NotEq => some (x != y)
  | _ => none
noncomputable def cmpL (op : CmpOp) (m n : Nat) (xs ys : List PV) : Option Bool := match op with
  | .Eq => eqL xs ys
  | .NotEq => (pvInts xs).bind fun a => (pvInts ys).map fun b => (a != b)
  | .IsNot => some (m != n)
  | _ => none
noncomputable def isIs : CmpOp → Bool
  | .Is => true
  | _ => false
noncomputable def isNo : CmpOp → Bool
  | .IsNot => true
  | _ => false
noncomputable def isIn : CmpOp → Bool
  | .In => true
  | _ => false
noncomputable def cmpop (op : CmpOp) (a b : PV) (σ : Sto) : Option Bool := match a with
  | .int i => match b with
    | .int j => cmpI op i j
    | .none => if isIs op = true then some false else none
    | _ => none
  | .str x => match b with
    | .str y => cmpT op x y
    | _ => none
  | .bytes x => match b with
    | .bytes y => cmpB op x y
    | _ => none
  | .ref m => match b with
    | .ref n => (listAt σ (.ref m)).bind fun xs => (listAt σ (.ref n)).bind fun ys => cmpL op m n xs ys
    | _ => none
  | .none => match b with
    | .none => if isIs op = true then some true else none
    | _ => none
  | .bool c => match b with
    | .bool d => if isNo op = true then some (c != d) else none
    | .ref n => if isIn op = true then (listAt σ (.ref n)).bind fun vs => (pvBools vs).map (·.contains c) else none
    | _ => none
  | _ => none
noncomputable def asciiOk (x : List UInt8) : Bool := x.all fun c => decide (c.toNat < 128)
noncomputable def lenV (σ : Sto) (v : PV) : Option Int := match v with
  | .str x => if x.length ≤ lim then some x.length else none
  | .bytes x => if x.length ≤ lim then some x.length else none
  | .ref n => (listAt σ (.ref n)).bind fun vs => if vs.length ≤ lim then some (vs.length : Int) else none
  | _ => none
noncomputable def best (f : Int → Int → Int) : List Int → Option Int
  | [] => none
  | i :: r => some (r.foldl f i)
noncomputable def bytesP : PO → Option (List UInt8)
  | .list vs => (pvInts vs).bind fun is => if is.length ≤ lim ∧ is.all (fun i => decide (0 ≤ i ∧ i < 256)) then some (is.map fun i => UInt8.ofNat i.toNat) else none
  | .ba x => if x.length ≤ lim then some x else none
  | _ => none
noncomputable def bytesV (σ : Sto) (v : PV) : Option (List UInt8) := match v with
  | .ref n => (σ[n]?).bind bytesP
  | _ => none
noncomputable def bcall1 (f : Str) (v : PV) (σ : Sto) : Option (PV × Sto) :=
  if f = "len" then (lenV σ v).map fun i => (.int i, σ)
  else if f = "chr" then (asInt v).bind fun i => if 0 ≤ i ∧ i < 128 then some (.str [i.toNat], σ) else none
  else if f = "min" then ((intsAt σ v).bind (best min)).map fun i => (.int i, σ)
  else if f = "max" then ((intsAt σ v).bind (best max)).map fun i => (.int i, σ)
  else if f = "sum" then (intsAt σ v).bind fun is => if is.length ≤ lim then some (.int (is.foldl (· + ·) 0), σ) else none
  else if f = "bytes" then (bytesV σ v).map fun x => (.bytes x, σ)
  else none
noncomputable def bcall (f : Str) (args : List PV) (σ : Sto) : Option (PV × Sto) := (one1 args).bind fun v => bcall1 f v σ
noncomputable def baCall : List PV → Sto → Option (PV × Sto) := fun args σ => match args with
  | [.int i] => if 0 ≤ i ∧ i ≤ 10000 then some (mk σ (.ba (List.replicate i.toNat 0))) else none
  | _ => none
noncomputable def bval : Str → Option Value := fun f =>
  if f = "len" then some (.builtin "len") else if f = "chr" then some (.builtin "chr") else if f = "min" then some (.builtin "min") else if f = "max" then some (.builtin "max")
  else if f = "sum" then some (.builtin "sum") else if f = "bytes" then some (.type "bytes") else none
noncomputable def joinB (sep : List UInt8) : List (List UInt8) → List UInt8
  | [] => []
  | [x] => x
  | x :: r => x ++ sep ++ joinB sep r
noncomputable def joinN (sep : List Nat) : List (List Nat) → List Nat
  | [] => []
  | [x] => x
  | x :: r => x ++ sep ++ joinN sep r
noncomputable def mList (name : Str) (n : Nat) (v : PV) (σ : Sto) : Option (PV × Sto) :=
  if name = "append" then (listAt σ (.ref n)).bind fun vs => if vs.length ≤ lim then some (.none, σ.set n (.list (vs ++ [v]))) else none
  else if name = "count" then (asInt v).bind fun i => (intsAt σ (.ref n)).bind fun is => if is.length ≤ lim then some (.int (is.count i), σ) else none
  else if name = "index" then (asInt v).bind fun i => (intsAt σ (.ref n)).bind fun is => if is.length ≤ lim ∧ i ∈ is then some (.int (is.idxOf i), σ) else none
  else none
noncomputable def mByts (name : Str) (x : List UInt8) (v : PV) (σ : Sto) : Option (PV × Sto) :=
  if name = "decode" then (asStr v).bind fun e => if asciiOk x ∧ x.length ≤ lim ∧ e = [97, 115, 99, 105, 105] then some (.str (x.map UInt8.toNat), σ) else none
  else if name = "join" then if x = [] then (listAt σ v).bind fun vs => (pvByts vs).bind fun ss => if (joinB [] ss).length ≤ lim ∧ 2 ≤ ss.length then some (.bytes (joinB [] ss), σ) else none else none
  else none
noncomputable def mStr (name : Str) (x : List Nat) (v : PV) (σ : Sto) : Option (PV × Sto) :=
  if name = "encode" then (asStr v).bind fun e => if x.all (· < 128) ∧ x.length ≤ lim ∧ e = [97, 115, 99, 105, 105] then some (.bytes (x.map fun c => UInt8.ofNat c), σ) else none
  else if name = "join" then if x = [] then (listAt σ v).bind fun vs => (pvStrs vs).bind fun ss => if (joinN [] ss).length ≤ lim ∧ ss.length ≤ lim then some (.str (joinN [] ss), σ) else none else none
  else none
noncomputable def mcall (name : Str) (o : PV) (args : List PV) (σ : Sto) : Option (PV × Sto) := (one1 args).bind fun v => match o with
  | .ref n => mList name n v σ
  | .bytes x => mByts name x v σ
  | .str x => mStr name x v σ
  | _ => none
noncomputable def mid (name : Str) (o : PV) (σ : Sto) : Option (String × String) :=
  match o with
  | .ref n => (listAt σ (.ref n)).bind fun _ => if name = "append" then some ("list", "list.append") else if name = "count" then some ("list", "list.count") else if name = "index" then some ("list", "list.index") else none
  | .bytes _ => if name = "decode" then some ("bytes", "bytes.decode") else if name = "join" then some ("bytes", "bytes.join") else none
  | .str _ => if name = "encode" then some ("str", "str.encode") else if name = "join" then some ("str", "str.join") else none
  | _ => none
noncomputable def itemAt (o : PV) (i : Int) (σ : Sto) : Option PV :=
  match o with
  | .ref n => (listAt σ (.ref n)).bind fun vs => if vs.length ≤ lim then (if 0 ≤ i then vs[i.toNat]? else if -(vs.length : Int) ≤ i then vs[(vs.length + i).toNat]? else none) else none
  | .bytes x => if 0 ≤ i ∧ x.length ≤ lim then (x[i.toNat]?).map fun c => .int c.toNat else none
  | _ => none
noncomputable def cut {α : Type} (lo hi : Option Int) (l : List α) : List α :=
  let m := match hi with | some y => l.take y.toNat | Option.none => l
  match lo with | some x => m.drop x.toNat | Option.none => m
noncomputable def slc (o : PV) (lo hi : Option Int) (rev : Bool) (σ : Sto) : Option (PV × Sto) :=
  if lo.all (0 ≤ ·) && hi.all (0 ≤ ·) && (!rev || (lo.isNone && hi.isNone)) then
    match o with
    | .ref n => (listAt σ (.ref n)).bind fun vs => if vs.length ≤ lim then some (mk σ (.list (if rev then vs.reverse else cut lo hi vs))) else none
    | .xl ns => if ns.length ≤ lim ∧ rev = false then some (mk σ (.list ((cut lo hi ns).map .int))) else none
    | .bytes x => if x.length ≤ lim then some (.bytes (if rev then x.reverse else cut lo hi x), σ) else none
    | .str x => lo.bind fun a => match hi with
      | some b => if x.length ≤ lim ∧ rev = false ∧ a ≤ b ∧ b ≤ x.length then some (.str (cut lo hi x), σ) else none
      | Option.none => if x.length ≤ lim ∧ rev = false ∧ a ≤ x.length then some (.str (cut lo hi x), σ) else none
    | _ => none
  else none
noncomputable def setBA (σ : Sto) (o : PV) (i : Int) (v : PV) : Option Sto :=
  match o with
  | .ref n => (asInt v).bind fun c => (σ[n]?).bind fun b => match b with
    | .ba x => if 0 ≤ i ∧ i < x.length ∧ 0 ≤ c ∧ c < 256 ∧ x.length ≤ lim then some (σ.set n (.ba (x.set i.toNat (UInt8.ofNat c.toNat)))) else none
    | _ => none
  | _ => none
end Mine.Internal
end
section
set_option backward.match.sparseCases false
namespace Mine.Internal
open PySem
noncomputable abbrev Nat1 := List PV → Sto → Option (PV × Sto)
structure Tab where
  fn : Str → Option Nat1
  sp : Str → Option Nat1
  exc : Str → Option (List PV → Option Str)
  gen : List Nat → List (PV × PV)
  useGen : Bool
structure Cx where
  sc : Scope
  top : Bool
structure Rec where
  ev : Cx → Rho → Sto → Expr → Option (PV × Sto)
  tr : Cx → Rho → Sto → Expr → Option (Bool × Sto)
  es : Cx → Rho → Sto → Expr → Option (PV × Sto)
  ex : Cx → Rho → Sto → Stmt → Option (Fl × Rho × Sto)
noncomputable def isStar : Expr → Bool
  | .Starred .. => true
  | _ => false
noncomputable def isComp : Expr → Bool
  | .ListComp .. | .SetComp .. | .DictComp .. => true
  | _ => false
noncomputable def isAttr : Expr → Bool
  | .Attribute .. => true
  | _ => false
noncomputable def okBase : Expr → Bool
  | .Name .. => true
  | .Subscript .. => true
  | .BinOp .. => true
  | .Constant .. => true
  | .Call f _ _ _ => isAttr f
  | _ => false
inductive V where
  | name (x : Str)
  | const (p : PV)
  | bin (op : Operator) (l r : Expr)
  | bool (op : BoolOp) (es : List Expr)
  | cmp (op : CmpOp) (l r : Expr)
  | ite (t b o : Expr)
  | not (x : Expr)
  | meth (name : Str) (o : Expr) (args : List Expr)
  | call (f : Str) (args : List Expr)
  | isi (a : Expr)
  | slice (v : Expr) (lo hi : Option Expr)
  | rev (v : Expr)
  | idxN (v : Expr) (i : Int)
  | idx (v i : Expr)
  | list (es : List Expr)
  | tup (es : List Expr)
  | comp (elt tgt iter : Expr) (ifs : List Expr) (scope : Scope)
  | bad
noncomputable def nameOf : Expr → Option Str
  | .Name x _ => some x
  | _ => none
noncomputable def intK : Const → Option Int
  | .int i => some i
  | _ => none
noncomputable def intOf : Expr → Option Int
  | .Constant k _ _ => intK k
  | _ => none
noncomputable def isUSub : UnaryOp → Bool
  | .USub => true
  | _ => false
noncomputable def isNotOp : UnaryOp → Bool
  | .Not => true
  | _ => false
noncomputable def negK : Expr → Option Int
  | .UnaryOp op x _ => if isUSub op then intOf x else none
  | _ => none
noncomputable def viewK : Const → Option PV
  | .none => some .none
  | .bool b => some (.bool b)
  | .int i => some (.int i)
  | .str x => some (.str x.cps.toList)
  | .bytes b => some (.bytes b)
  | _ => none
noncomputable def viewI : List Expr → Option Expr
  | [a, t] => if nameOf t = some "bytes" ∧ isStar a = false then some a else none
  | _ => none
noncomputable def viewF (f : Str) (args : List Expr) : V :=
  if f ≠ "__debug__" ∧ args.length < 20 ∧ args.any isStar = false then (if f = "isinstance" then (viewI args).elim .bad fun a => .isi a else .call f args) else .bad
noncomputable def viewC (f : Expr) (args : List Expr) (pos : Pos) : V := match f with
  | .Attribute o name apos => if okBase o = true ∧ apos.endLine = pos.line ∧ args.length < 20 ∧ args.any isStar = false then .meth name o args else .bad
  | .Name f _ => viewF f args
  | _ => .bad
noncomputable def viewSt (v : Expr) (lo hi : Option Expr) : Option Expr → V
  | none => .slice v lo hi
  | some st => if lo.isNone = true ∧ hi.isNone = true ∧ negK st = some 1 then .rev v else .bad
noncomputable def viewS (v i : Expr) : V := match i with
  | .Slice lo hi st _ => viewSt v lo hi st
  | .UnaryOp .. => (negK i).elim .bad fun j => if 0 < j ∧ j < 1000 then .idxN v j else .bad
  | _ => .idx v i
noncomputable def viewCm (l : Expr) (ops : List CmpOp) (rs : List Expr) : V := (one1 ops).elim .bad fun op => (one1 rs).elim .bad fun r => if behindInMarks op r = false then .cmp op l r else .bad
noncomputable def viewG (elt : Expr) (scope : Scope) : Option Comprehension → V
  | some ⟨tgt, iter, ifs, a⟩ => if a = 0 then .comp elt tgt iter ifs scope else .bad
  | none => .bad
noncomputable def view : Expr → V
  | .Name x _ => if x ≠ "__debug__" then .name x else .bad
  | .Constant k _ _ => (viewK k).elim .bad fun p => .const p
  | .BinOp l op r _ => .bin op l r
  | .BoolOp op vs _ => .bool op vs
  | .Compare l ops rs _ => viewCm l ops rs
  | .IfExp t b o _ => .ite t b o
  | .UnaryOp op x _ => if isNotOp op then .not x else .bad
  | .Call f args kws pos => if kws.isEmpty then viewC f args pos else .bad
  | .Subscript v i _ => viewS v i
  | .List es _ => .list es
  | .Tuple es _ _ => .tup es
  | .ListComp elt gens scope _ => viewG elt scope (one1 gens)
  | _ => .bad
noncomputable def V.Ok (e : Expr) : V → Prop
  | .name x => x ≠ "__debug__" ∧ ∃ p, e = .Name x p
  | .const p => ∃ k a q, e = .Constant k a q ∧ viewK k = some p
  | .bin op l r => ∃ q, e = .BinOp l op r q
  | .bool op vs => ∃ q, e = .BoolOp op vs q
  | .cmp op l r => behindInMarks op r = false ∧ ∃ q, e = .Compare l [op] [r] q
  | .ite t b o => ∃ q, e = .IfExp t b o q
  | .not x => ∃ q, e = .UnaryOp .Not x q
  | .meth nm o args => (okBase o = true ∧ args.length < 20) ∧ ∃ apos pos, apos.endLine = pos.line ∧ e = .Call (.Attribute o nm apos) args [] pos
  | .call f args => f ≠ "__debug__" ∧ ∃ p q, e = .Call (.Name f p) args [] q
  | .isi a => isStar a = false ∧ ∃ p p' q, e = .Call (.Name "isinstance" p) [a, .Name "bytes" p'] [] q
  | .slice v lo hi => ∃ p q, e = .Subscript v (.Slice lo hi none p) q
  | .rev v => ∃ k a b p q, e = .Subscript v (.Slice none none (some (.UnaryOp .USub (.Constant (.int 1) k a) b)) p) q
  | .idxN v i => ∃ k a b q, e = .Subscript v (.UnaryOp .USub (.Constant (.int i) k a) b) q
  | .idx v i => ∃ q, e = .Subscript v i q
  | .list es => ∃ q, e = .List es q
  | .tup es => ∃ k q, e = .Tuple es k q
  | .comp elt tgt iter ifs scope => ∃ q, e = .ListComp elt [⟨tgt, iter, ifs, 0⟩] scope q
  | .bad => True
theorem nameOf_ok {e : Expr} {x : Str} (h : nameOf e = some x) : ∃ p, e = .Name x p := by
  have k : ∀ e, (nameOf e).elim True fun x => ∃ p, e = .Name x p := fun e => by
    cases e <;> first | exact True.intro | exact ⟨_, rfl⟩
  have := k e
  rw [h] at this
  exact this
theorem intOf_ok {e : Expr} {i : Int} (h : intOf e = some i) : ∃ a p, e = .Constant (.int i) a p := by
  have k : ∀ e, (intOf e).elim True fun i => ∃ a p, e = .Constant (.int i) a p := fun e => by
    cases e with
    | Constant k a p => cases k <;> first | exact True.intro | exact ⟨_, _, rfl⟩
    | _ => exact True.intro
  have := k e
  rw [h] at this
  exact this
theorem negK_ok {e : Expr} {i : Int} (h : negK e = some i) : ∃ k a p, e = .UnaryOp .USub (.Constant (.int i) k a) p := by
  have k : ∀ e, (negK e).elim True fun i => ∃ k a p, e = .UnaryOp .USub (.Constant (.int i) k a) p := fun e => by
    cases e with
    | UnaryOp op x p => cases op with
      | USub =>
        refine (?_ : (intOf x).elim True _)
        cases hi : intOf x with
        | none => exact True.intro
        | some j =>
          refine elEE (intOf_ok hi) fun a q eq168x1 => ?_
          subst eq168x1
          exact ⟨_, _, _, rfl⟩
      | _ => exact True.intro
    | _ => exact True.intro
  have := k e
  rw [h] at this
  exact this
theorem ok_ite {c : Prop} [i : Decidable c] {v : V} {e : Expr} (h : c → v.Ok e) : (if c then v else V.bad).Ok e := by
  cases i with
  | isTrue hc => exact h hc
  | isFalse hc => exact True.intro
theorem ok_opt {α : Type} {x : Option α} {v : α → V} {e : Expr} (h : ∀ a, x = some a → (v a).Ok e) : (x.elim V.bad v).Ok e := by
  cases x with
  | some a => exact h a rfl
  | none => exact True.intro
theorem viewI_ok {l : List Expr} {a : Expr} (h : viewI l = some a) : isStar a = false ∧ ∃ p, l = [a, .Name "bytes" p] := by
  have k : ∀ l, (viewI l).elim True fun a => isStar a = false ∧ ∃ p, l = [a, .Name "bytes" p] := fun l => by
    cases l with
    | nil => exact True.intro
    | cons a r => cases r with
      | nil => exact True.intro
      | cons t r => cases r with
        | cons _ _ => exact True.intro
        | nil =>
          refine (?_ : (if nameOf t = some "bytes" ∧ isStar a = false then some a else none).elim True _)
          by_cases hc : nameOf t = some "bytes" ∧ isStar a = false
          · rw [if_pos hc]
            apply exE (nameOf_ok hc.1); intro p
            exact ⟨hc.2, p, rfl⟩
          · rw [if_neg hc]; exact True.intro
  have := k l
  rw [h] at this
  exact this
theorem viewF_ok (f : Str) (args : List Expr) (p q : Pos) : (viewF f args).Ok (.Call (.Name f p) args [] q) := by
  skip
  refine ok_ite fun hc => ?_
  by_cases hf : f = "isinstance"
  · subst hf
    rw [if_pos rfl]
    refine ok_opt fun a ha => ?_
    refine elAE (viewI_ok ha) fun hs p' eq208x2 => ?_
    subst eq208x2
    exact ⟨hs, _, _, _, rfl⟩
  · rw [if_neg hf]
    exact ⟨hc.1, _, _, rfl⟩
theorem viewS_ok (v i : Expr) (q : Pos) : (viewS v i).Ok (.Subscript v i q) := by
  cases i with
  | Slice lo hi st p => cases st with
    | none => exact ⟨_, _, rfl⟩
    | some st =>
      refine ok_ite fun hc => ?_
      refine elAA hc fun h1 h2 h3 => ?_
      try clear hc
      refine elEEE (negK_ok h3) fun k a b eq219x3 => ?_
      subst eq219x3
      cases lo with
      | some _ => cases h1
      | none => cases hi with
        | some _ => cases h2
        | none => exact ⟨_, _, _, _, _, rfl⟩
  | UnaryOp op x p =>
    refine ok_opt fun j hj => ok_ite fun _ => ?_
    refine elEEE (negK_ok hj) fun k a b e => ?_
    refine e.symm ▸ ?_
    exact ⟨_, _, _, _, rfl⟩
  | _ => exact ⟨_, rfl⟩
theorem view_ok (e : Expr) : (view e).Ok e := by
  cases e with
  | Name x p => exact ok_ite fun h => ⟨h, _, rfl⟩
  | Constant k a p => exact ok_opt fun q hq => ⟨_, _, _, rfl, hq⟩
  | BinOp => exact ⟨_, rfl⟩
  | BoolOp => exact ⟨_, rfl⟩
  | Compare l ops rs p =>
    refine (?_ : (viewCm l ops rs).Ok _)
    skip
    refine ok_opt fun op h1 => ok_opt fun r h2 => ok_ite fun h3 => ?_
    rw [one1_some h1, one1_some h2]
    exact ⟨h3, _, rfl⟩
  | IfExp => exact ⟨_, rfl⟩
  | UnaryOp op x p => cases op with
    | Not => exact ⟨_, rfl⟩
    | _ => exact True.intro
  | Call f args kws pos => cases kws with
    | cons _ _ => exact True.intro
    | nil => cases f with
      | Attribute o nm apos => exact ok_ite fun h => ⟨⟨h.1, h.2.2.1⟩, _, _, h.2.1, rfl⟩
      | Name f p => exact viewF_ok f args p pos
      | _ => exact True.intro
  | Subscript v i p => exact viewS_ok v i p
  | List => exact ⟨_, rfl⟩
  | Tuple => exact ⟨_, _, rfl⟩
  | ListComp elt gens scope p =>
    refine (?_ : (viewG elt scope (one1 gens)).Ok _)
    cases hg : one1 gens with
    | none => exact True.intro
    | some g =>
      obtain ⟨tgt, iter, ifs, a⟩ := g
      rw [one1_some hg]
      refine ok_ite fun ha => ?_
      subst ha
      exact ⟨_, rfl⟩
  | _ => exact True.intro
theorem ok_of {e : Expr} {v : V} (h : view e = v) : v.Ok e := h ▸ view_ok e
inductive TV where
  | one (x : Str)
  | two (x y : Str)
  | bad
noncomputable def names2 (es : List Expr) : Option (Str × Str) := match es with
  | [a, b] => (nameOf a).bind fun x => (nameOf b).map fun y => (x, y)
  | _ => none
noncomputable def tview : Expr → TV
  | .Name x _ => .one x
  | .Tuple es _ _ => (names2 es).elim .bad fun p => .two p.1 p.2
  | _ => .bad
noncomputable def TV.Ok (e : Expr) : TV → Prop
  | .one x => ∃ p, e = .Name x p
  | .two x y => ∃ p p' k q, e = .Tuple [.Name x p, .Name y p'] k q
  | .bad => True
theorem names2_ok {es : List Expr} {x y : Str} (h : names2 es = some (x, y)) : ∃ p p', es = [.Name x p, .Name y p'] := by
  cases es with
  | nil => cases h
  | cons a r => cases r with
    | nil => cases h
    | cons b r => cases r with
      | cons _ _ => cases h
      | nil =>
        refine bindE h fun x' h1 zz => ?_
        clear h
        refine mapE zz fun y' h2 h => ?_
        clear zz
        cases h
        apply exE (nameOf_ok h1); intro p
        apply exE (nameOf_ok h2); intro p'
        exact ⟨p, p', rfl⟩
theorem tview_ok (e : Expr) : (tview e).Ok e := by
  cases e with
  | Name => exact ⟨_, rfl⟩
  | Tuple es k q =>
    refine (?_ : ((names2 es).elim TV.bad fun p => TV.two p.1 p.2).Ok _)
    cases h : names2 es with
    | none => exact True.intro
    | some p =>
      refine elEE (names2_ok h) fun p1 p2 eq306x4 => ?_
      subst eq306x4
      exact ⟨_, _, _, _, rfl⟩
  | _ => exact True.intro
theorem tok_of {e : Expr} {v : TV} (h : tview e = v) : v.Ok e := h ▸ tview_ok e
inductive SV where
  | app (e : Expr)
  | ret (e : Expr)
  | asgC (x : Str) (elt tgt iter : Expr) (ifs : List Expr) (scope : Scope)
  | asg (x : Str) (v : Expr)
  | two (x y : Str) (a b : Int)
  | item (o i v : Expr)
  | aug (x : Str) (op : Operator) (v : Expr)
  | ifs (t : Expr) (b o : List Stmt)
  | fors (t i : Expr) (b : List Stmt)
  | tries (x f : Str) (args : List Expr) (hs : List ExceptHandler)
  | bad
noncomputable def twoK (e : Expr) : Option (Int × Int) := match e with
  | .Tuple es _ _ => (match es with
    | [a, b] => (intOf a).bind fun x => (intOf b).map fun y => (x, y)
    | _ => none)
  | _ => none
noncomputable def isMeth : V → Bool
  | .meth .. => true
  | _ => false
noncomputable def sview1 (x : Str) (e : Expr) : V → SV
  | .comp elt tgt iter ifs scope => .asgC x elt tgt iter ifs scope
  | _ => if isComp e = false then .asg x e else .bad
noncomputable def sview2 (es : List Expr) (e : Expr) : SV := (names2 es).elim .bad fun p => (twoK e).elim .bad fun q => .two p.1 p.2 q.1 q.2
noncomputable def sviewT (t e : Expr) : SV := match t with
  | .Name x _ => sview1 x e (view e)
  | .Tuple es _ _ => sview2 es e
  | .Subscript o i _ => if isComp e = false then .item o i e else .bad
  | _ => .bad
noncomputable def asgT : Stmt → Option (Expr × Expr)
  | .Assign ts v _ => (one1 ts).map fun t => (t, v)
  | _ => none
noncomputable def callV : V → Option (Str × List Expr)
  | .call f args => some (f, args)
  | _ => none
noncomputable def sviewY (hs : List ExceptHandler) (s : Stmt) : SV := (asgT s).elim .bad fun p => (nameOf p.1).elim .bad fun x => (callV (view p.2)).elim .bad fun q => .tries x q.1 q.2 hs
noncomputable def sview : Stmt → SV
  | .Expr e _ => if isMeth (view e) then .app e else .bad
  | .Return e _ => e.elim .bad fun e => .ret e
  | .Assign ts e _ => (one1 ts).elim .bad fun t => sviewT t e
  | .AugAssign t op e _ => (nameOf t).elim .bad fun x => .aug x op e
  | .If t b o _ => .ifs t b o
  | .For t i b o _ => if o.isEmpty then .fors t i b else .bad
  | .Try b hs o f _ => if o.isEmpty = true ∧ f.isEmpty = true then ((one1 b).elim .bad fun s => sviewY hs s) else .bad
  | _ => .bad
noncomputable def SV.Ok (s : Stmt) : SV → Prop
  | .app e => ∃ o nm apos args p q, e = .Call (.Attribute o nm apos) args [] p ∧ s = .Expr e q
  | .ret e => ∃ q, s = .Return (some e) q
  | .asgC x elt tgt iter fs scope => ∃ p q r, s = .Assign [.Name x p] (.ListComp elt [⟨tgt, iter, fs, 0⟩] scope q) r
  | .asg x e => isComp e = false ∧ ∃ p q, s = .Assign [.Name x p] e q
  | .two x y a b => ∃ p p' k q i j i' j' k' r r', s = .Assign [.Tuple [.Name x p, .Name y p'] k q] (.Tuple [.Constant (.int a) i j, .Constant (.int b) i' j'] k' r) r'
  | .item o i e => isComp e = false ∧ ∃ p q, s = .Assign [.Subscript o i p] e q
  | .aug x op e => ∃ p q, s = .AugAssign (.Name x p) op e q
  | .ifs t b o => ∃ q, s = .If t b o q
  | .fors t i b => ∃ q, s = .For t i b [] q
  | .tries x f args hs => f ≠ "__debug__" ∧ ∃ px pf pc pa q, s = .Try [.Assign [.Name x px] (.Call (.Name f pf) args [] pc) pa] hs [] [] q
  | .bad => True
theorem sok_ite {c : Prop} [i : Decidable c] {v : SV} {s : Stmt} (h : c → v.Ok s) : (if c then v else SV.bad).Ok s := by
  cases i with
  | isTrue hc => exact h hc
  | isFalse hc => exact True.intro
theorem sok_opt {α : Type} {x : Option α} {v : α → SV} {s : Stmt} (h : ∀ a, x = some a → (v a).Ok s) : (x.elim SV.bad v).Ok s := by
  cases x with
  | some a => exact h a rfl
  | none => exact True.intro
theorem twoK_ok {e : Expr} {q : Int × Int} (h : twoK e = some q) : ∃ i j i' j' k r, e = .Tuple [.Constant (.int q.1) i j, .Constant (.int q.2) i' j'] k r := by
  have kk : ∀ e, (twoK e).elim True fun q => ∃ i j i' j' k r, e = .Tuple [.Constant (.int q.1) i j, .Constant (.int q.2) i' j'] k r := fun e => by
    cases e with
    | Tuple es k r => cases es with
      | nil => exact True.intro
      | cons a l => cases l with
        | nil => exact True.intro
        | cons b l => cases l with
          | cons _ _ => exact True.intro
          | nil =>
            refine (?_ : ((intOf a).bind fun x => (intOf b).map fun y => (x, y)).elim True _)
            cases h1 : intOf a with
            | none => exact True.intro
            | some x => cases h2 : intOf b with
              | none => exact True.intro
              | some y =>
                refine elEE (intOf_ok h1) fun i j eq393x5 => ?_
                subst eq393x5
                refine elEE (intOf_ok h2) fun i' j' eq394x6 => ?_
                subst eq394x6
                exact ⟨_, _, _, _, _, _, rfl⟩
    | _ => exact True.intro
  have := kk e
  rw [h] at this
  exact this
theorem asgT_ok {s : Stmt} {p : Expr × Expr} (h : asgT s = some p) : ∃ q, s = .Assign [p.1] p.2 q := by
  have kk : ∀ s, (asgT s).elim True fun p => ∃ q, s = .Assign [p.1] p.2 q := fun s => by
    cases s with
    | Assign ts v q =>
      refine (?_ : ((one1 ts).map fun t => (t, v)).elim True _)
      cases h1 : one1 ts with
      | none => exact True.intro
      | some t => rw [one1_some h1]; exact ⟨_, rfl⟩
    | _ => exact True.intro
  have := kk s
  rw [h] at this
  exact this
theorem callV_ok {v : V} {q : Str × List Expr} (h : callV v = some q) : v = .call q.1 q.2 := by
  cases v <;> first | (cases h; rfl) | cases h
theorem sview1_ok {x : Str} {e : Expr} {p q : Pos} : (sview1 x e (view e)).Ok (.Assign [.Name x p] e q) := by
  have k := view_ok e
  generalize view e = v at k ⊢
  cases v with
  | comp elt tgt iter ifs scope =>
    apply exE k; intro r; clear k
    exact ⟨_, _, _, rfl⟩
  | _ => exact sok_ite fun h => ⟨h, _, _, rfl⟩
theorem sview_ok (s : Stmt) : (sview s).Ok s := by
  cases s with
  | Expr e q =>
    refine (?_ : (if isMeth (view e) = true then SV.app e else SV.bad).Ok _)
    have k := view_ok e
    generalize view e = v at k ⊢
    cases v with
    | meth nm o args =>
      obtain ⟨_, apos, pos, _, rfl⟩ := k
      exact ⟨_, _, _, _, _, _, rfl, rfl⟩
    | _ => exact True.intro
  | Return e q => cases e with
    | some e => exact ⟨_, rfl⟩
    | none => exact True.intro
  | Assign ts e q =>
    refine sok_opt fun t ht => ?_
    rw [one1_some ht]
    cases t with
    | Name x p => exact sview1_ok
    | Tuple es k p =>
      refine (?_ : (sview2 es e).Ok _)
      skip
      refine sok_opt fun n hn => sok_opt fun m hm => ?_
      refine elEE (names2_ok (x := n.1) (y := n.2) hn) fun p1 p2 eq445x7 => ?_
      subst eq445x7
      obtain ⟨i, j, i', j', k', r, rfl⟩ := twoK_ok hm
      exact ⟨_, _, _, _, _, _, _, _, _, _, _, rfl⟩
    | Subscript o i p => exact sok_ite fun h => ⟨h, _, _, rfl⟩
    | _ => exact True.intro
  | AugAssign t op e q =>
    refine sok_opt fun x hx => ?_
    apply exE (nameOf_ok hx); intro p
    exact ⟨_, _, rfl⟩
  | If => exact ⟨_, rfl⟩
  | For t i b o q => cases o with
    | nil => exact ⟨_, rfl⟩
    | cons _ _ => exact True.intro
  | Try b hs o f q =>
    refine sok_ite fun hc => sok_opt fun s hs' => ?_
    obtain ⟨h1, h2⟩ := hc
    cases o with
    | cons _ _ => cases h1
    | nil => cases f with
      | cons _ _ => cases h2
      | nil =>
        rw [one1_some hs']
        skip
        refine sok_opt fun p hp => sok_opt fun x hx => sok_opt fun r hr => ?_
        apply exE (asgT_ok hp); intro pa
        obtain ⟨px, hx'⟩ := nameOf_ok hx
        refine elAEE (ok_of (callV_ok hr)) fun hd pf pc he => ?_
        rw [hx', he]
        exact ⟨hd, _, _, _, _, _, rfl⟩
  | _ => exact True.intro
theorem sok_of {s : Stmt} {v : SV} (h : sview s = v) : v.Ok s := h ▸ sview_ok s
noncomputable def evs (R : Rec) (c : Cx) (ρ : Rho) : Sto → List Expr → Option (List PV × Sto)
  | σ, [] => some ([], σ)
  | σ, e :: r => if isStar e then none else bnd (R.ev c ρ σ e) fun v σ => bnd (evs R c ρ σ r) fun vs σ => some (v :: vs, σ)
noncomputable def esL (R : Rec) (c : Cx) (ρ : Rho) : Sto → List Expr → Option (List PV × Sto)
  | σ, [] => some ([], σ)
  | σ, e :: r => if isStar e then none else bnd (R.es c ρ σ e) fun v σ => bnd (esL R c ρ σ r) fun vs σ => some (v :: vs, σ)
noncomputable abbrev Turn := Option (Fl × Rho × Sto)
noncomputable def flow (x : Turn) (k : Rho → Sto → Turn) : Turn := x.bind fun t => match t.1 with
  | .next => k t.2.1 t.2.2
  | .ret _ => some t
noncomputable def exs (R : Rec) (c : Cx) : Rho → Sto → List Stmt → Option (Fl × Rho × Sto)
  | ρ, σ, [] => some (.next, ρ, σ)
  | ρ, σ, s :: r => flow (R.ex c ρ σ s) fun ρ σ => exs R c ρ σ r
noncomputable def stops : BoolOp → Bool → Bool
  | .And, b => !b
  | .Or, b => b
noncomputable def evBool (R : Rec) (c : Cx) (ρ : Rho) (op : BoolOp) : Sto → List Expr → Option (PV × Sto)
  | _, [] => none
  | σ, [e] => R.ev c ρ σ e
  | σ, e :: e' :: r => bnd (R.ev c ρ σ e) fun v σ => (asBool v).bind fun b => if stops op b then some (.bool b, σ) else evBool R c ρ op σ (e' :: r)
noncomputable def trBool (R : Rec) (c : Cx) (ρ : Rho) (op : BoolOp) : Sto → List Expr → Option (Bool × Sto)
  | σ, [] => some (op == .And, σ)
  | σ, e :: r => bnd (R.tr c ρ σ e) fun b σ => if stops op b then some (b, σ) else trBool R c ρ op σ r
noncomputable def truth : PV → Option Bool
  | .bool b => some b
  | .int i => some (i != 0)
  | _ => none
inductive Src where
  | rng (a c : Int) (n : Nat)
  | lst (n : Nat)
  | tup (n : Nat)
  | zips (m n : Nat)
  | gens (ps : List (PV × PV))
noncomputable def smallAll (is : List Int) : Bool := is.all fun i => decide (-1000 < i) && decide (i < 1000)
noncomputable def rangeOf : List Int → Option Src
  | [b] => if Builtin.Range.small 0 b 1 then some (.rng 0 1 (Builtin.Range.rangeSize 0 b 1).toNat) else none
  | [a, b] => if Builtin.Range.small a b 1 then some (.rng a 1 (Builtin.Range.rangeSize a b 1).toNat) else none
  | [a, b, c] => if 0 < c ∧ Builtin.Range.small a b c then some (.rng a c (Builtin.Range.rangeSize a b c).toNat) else none
  | _ => none
noncomputable def asTup : PO → Option (List PV)
  | .tup vs => some vs
  | _ => none
noncomputable def tupAt (σ : Sto) (m : Nat) : Option (List PV) := (σ[m]?).bind asTup
noncomputable def nx : Src → Nat → Sto → Option (Option PV)
  | .rng a c n, i, _ => some (if i < n then some (.int (a + i * c)) else none)
  | .lst m, i, σ => (listAt σ (.ref m)).map fun vs => vs[i]?
  | .tup m, i, σ => (tupAt σ m).map fun vs => vs[i]?
  | _, _, _ => none
noncomputable def asRef : PV → Option Nat
  | .ref n => some n
  | _ => none
noncomputable def two2 {α : Type} : List α → Option (α × α)
  | [] => none
  | a :: r => (one1 r).map fun b => (a, b)
theorem two2_ok {α : Type} {l : List α} {p : α × α} (h : two2 l = some p) : l = [p.1, p.2] := by
  cases l with
  | nil => cases h
  | cons a r => exact mapE h fun b hb h => by subst h; rw [one1_some hb]
noncomputable def srcF (T : Tab) (f : Str) (vs : List PV) (σ : Sto) : Option Src :=
  if f = "range" then (pvInts vs).bind fun is => if smallAll is then rangeOf is else none
  else if f = "zip" then (two2 vs).bind fun p => (asRef p.1).bind fun m => (asRef p.2).bind fun n => (listAt σ (.ref m)).bind fun xs => (listAt σ (.ref n)).bind fun ys =>
    if m ≠ n ∧ xs.length ≤ ys.length then some (Src.zips m n) else none
  else if f = "_iter_escaped_chars" then (one1 vs).bind fun v => (asStr v).bind fun x => if x.length ≤ lim then some (Src.gens (T.gen x)) else none
  else none
noncomputable def srcV (T : Tab) (R : Rec) (c : Cx) (ρ : Rho) (σ : Sto) (e : Expr) : V → Option (Src × Sto)
  | .call f args => if c.sc.names.lookup f = some .globalImplicit then bnd (evs R c ρ σ args) fun vs σ => (srcF T f vs σ).map fun s => (s, σ) else none
  | .name _ => bnd (R.ev c ρ σ e) fun v σ => (asRef v).bind fun n => (listAt σ (.ref n)).map fun _ => (Src.lst n, σ)
  | .tup _ => bnd (R.ev c ρ σ e) fun v σ => (asRef v).bind fun n => (tupAt σ n).bind fun vs => if vs.length ≤ 1000 then some (Src.tup n, σ) else none
  | _ => none
noncomputable def src (T : Tab) (R : Rec) (c : Cx) (ρ : Rho) (σ : Sto) (e : Expr) : Option (Src × Sto) := srcV T R c ρ σ e (view e)
noncomputable def forS (step : PV → Rho → Sto → Turn) (S : Src) : Nat → Nat → Rho → Sto → Turn
  | 0, _, _, _ => none
  | k + 1, i, ρ, σ => (nx S i σ).bind fun o => match o with
    | none => some (.next, ρ, σ)
    | some v => flow (step v ρ σ) fun ρ σ => forS step S k (i + 1) ρ σ
noncomputable def forP (step : PV → PV → Rho → Sto → Turn) : List (PV × PV) → Rho → Sto → Turn
  | [], ρ, σ => some (.next, ρ, σ)
  | p :: vs, ρ, σ => flow (step p.1 p.2 ρ σ) fun ρ σ => forP step vs ρ σ
noncomputable def relab (scope sc : Scope) : Scope :=
  { scope with names := scope.names.map fun (n, k) => if (k == .free && sc.kind == .function && sc.names.lookup n == some .cell) then (n, .cell) else (n, k) }
noncomputable def freeOf (scope : Scope) (ρ : Rho) : Rho := ρ.filter fun p => scope.names.lookup p.1 == some .free
noncomputable def compS (R : Rec) (c : Cx) (x : Str) (ifs : List Expr) (elt : Expr) (ρ : Rho) (S : Src) : Nat → Nat → Sto → Option (List PV × Sto)
  | 0, _, _ => none
  | k + 1, i, σ => (nx S i σ).bind fun o => match o with
    | none => some ([], σ)
    | some v => bnd (trBool R c (upd ρ x v) .And σ ifs) fun b σ => match b with
      | false => compS R c x ifs elt ρ S k (i + 1) σ
      | true => bnd (R.ev c (upd ρ x v) σ elt) fun y σ => bnd (compS R c x ifs elt ρ S k (i + 1) σ) fun ys σ => some (y :: ys, σ)
noncomputable def compZ (R : Rec) (c : Cx) (x y : Str) (elt : Expr) (ρ : Rho) (m n : Nat) : Nat → Nat → Sto → Option (List PV × Sto)
  | 0, _, _ => none
  | k + 1, i, σ => (listAt σ (.ref m)).bind fun xs => (listAt σ (.ref n)).bind fun ys => match xs[i]? with
    | none => some ([], σ)
    | some u => (ys[i]?).bind fun v => bnd (R.ev c (upd (upd ρ x u) y v) σ elt) fun z σ => bnd (compZ R c x y elt ρ m n k (i + 1) σ) fun zs σ => some (z :: zs, σ)
noncomputable def scopeOk (scope sc : Scope) : Bool :=
  decide (scope.kind = .function) && decide (sc.kind = .function) && decide ((scope.names.map (·.1)).Nodup) && scope.names.all (fun p => decide (p.2 ≠ .cell)) &&
  scope.names.all (fun p => if p.2 = .local then decide (scope.names.lookup p.1 = some .local) else true) &&
  scope.names.all (fun p => if p.2 = .free then decide (sc.names.lookup p.1 = some .cell) && decide (p.1 ≠ "__classdict__") else true)
noncomputable def compOne (R : Rec) (c : Cx) (ρ : Rho) (σ : Sto) (elt : Expr) (ifs : List Expr) (scope : Scope) (S : Src) : TV → Option (List PV × Sto)
  | .one x => if scope.names.lookup x = some .local then compS R ⟨relab scope c.sc, false⟩ x ifs elt (freeOf scope ρ) S 1000 0 σ else none
  | _ => none
noncomputable def compTwo (R : Rec) (c : Cx) (ρ : Rho) (σ : Sto) (elt : Expr) (ifs : List Expr) (scope : Scope) (m n : Nat) : TV → Option (List PV × Sto)
  | .two x y => if ifs.isEmpty = true ∧ scope.names.lookup x = some .local ∧ scope.names.lookup y = some .local ∧ x ≠ y then compZ R ⟨relab scope c.sc, false⟩ x y elt (freeOf scope ρ) m n 100 0 σ else none
  | _ => none
noncomputable def compT (R : Rec) (c : Cx) (ρ : Rho) (σ : Sto) (elt : Expr) (tv : TV) (ifs : List Expr) (scope : Scope) : Src → Option (List PV × Sto)
  | .zips m n => compTwo R c ρ σ elt ifs scope m n tv
  | .gens _ => none
  | S => compOne R c ρ σ elt ifs scope S tv
noncomputable def comp (T : Tab) (R : Rec) (c : Cx) (ρ : Rho) (σ : Sto) (elt tgt iter : Expr) (ifs : List Expr) (scope : Scope) : Option (PV × Sto) :=
  if scopeOk scope c.sc then bnd (src T R c ρ σ iter) fun S σ => (compT R c ρ σ elt (tview tgt) ifs scope S).map fun r => mk r.2 (.list r.1) else none
noncomputable def optInt (R : Rec) (c : Cx) (ρ : Rho) (σ : Sto) : Option Expr → Option (Option Int × Sto)
  | none => some (none, σ)
  | some e => bnd (R.ev c ρ σ e) fun v σ => (asInt v).map fun i => (some i, σ)
noncomputable def isGl (c : Cx) (f : Str) : Bool := c.sc.names.lookup f == some NameKind.globalImplicit
noncomputable def isByts : PV → Bool
  | .bytes _ => true
  | _ => false
noncomputable def evV (T : Tab) (R : Rec) (c : Cx) (ρ : Rho) (σ : Sto) : V → Option (PV × Sto)
  | .name x => (ρ.lookup x).map fun v => (v, σ)
  | .const p => some (p, σ)
  | .bin op l r => bnd (R.ev c ρ σ l) fun a σ => bnd (R.ev c ρ σ r) fun b σ => binop op a b σ
  | .bool op vs => evBool R c ρ op σ vs
  | .cmp op l r => bnd (R.ev c ρ σ l) fun a σ => bnd (R.ev c ρ σ r) fun b σ => (cmpop op a b σ).map fun t => (.bool t, σ)
  | .ite t b o => bnd (R.tr c ρ σ t) fun d σ => R.ev c ρ σ (if d then b else o)
  | .meth nm o args => bnd (R.ev c ρ σ o) fun ov σ => (mid nm ov σ).bind fun _ => bnd (evs R c ρ σ args) fun vs σ => mcall nm ov vs σ
  | .call f args => if c.sc.names.lookup f = some .globalImplicit then bnd (evs R c ρ σ args) fun vs σ => (match T.fn f with | some g => g vs σ | none => bcall f vs σ) else none
  | .isi a => if isGl c (Str.ofString "isinstance") = true ∧ isGl c (Str.ofString "bytes") = true then bnd (R.ev c ρ σ a) fun v σ => if isByts v = true then some (.bool true, σ) else none else none
  | .slice v lo hi => bnd (R.ev c ρ σ v) fun o σ => bnd (optInt R c ρ σ lo) fun lo σ => bnd (optInt R c ρ σ hi) fun hi σ => slc o lo hi false σ
  | .rev v => bnd (R.ev c ρ σ v) fun o σ => slc o none none true σ
  | .idxN v i => bnd (R.ev c ρ σ v) fun o σ => (itemAt o (-i) σ).map fun r => (r, σ)
  | .idx v i => bnd (R.ev c ρ σ v) fun o σ => bnd (R.ev c ρ σ i) fun k σ => (asInt k).bind fun k => (itemAt o k σ).map fun r => (r, σ)
  | .list es => bnd (evs R c ρ σ es) fun vs σ => if vs.length ≤ 1000 then some (mk σ (.list vs)) else none
  | .tup es => bnd (evs R c ρ σ es) fun vs σ => if vs.length ≤ 1000 then some (mk σ (.tup vs)) else none
  | .comp elt tgt iter ifs scope => comp T R c ρ σ elt tgt iter ifs scope
  | _ => none
noncomputable def evStep (T : Tab) (R : Rec) (c : Cx) (ρ : Rho) (σ : Sto) (e : Expr) : Option (PV × Sto) := evV T R c ρ σ (view e)
noncomputable def V.plain : V → Bool
  | .name _ => true
  | .meth .. => true
  | .call .. => true
  | .isi _ => true
  | .bin .. => true
  | .slice .. => true
  | .rev _ => true
  | .idxN .. => true
  | .idx .. => true
  | _ => false
noncomputable def trV (R : Rec) (c : Cx) (ρ : Rho) (σ : Sto) (e : Expr) (v : V) : Option (Bool × Sto) := match v with
  | .not x => (R.tr c ρ σ x).map fun p => (!p.1, p.2)
  | .bool op vs => trBool R c ρ op σ vs
  | .cmp op l r => bnd (R.ev c ρ σ l) fun a σ => bnd (R.ev c ρ σ r) fun b σ => (cmpop op a b σ).map fun t => (t, σ)
  | _ => if v.plain = true then bnd (R.ev c ρ σ e) fun v σ => (truth v).map fun b => (b, σ) else none
noncomputable def trStep (_T : Tab) (R : Rec) (c : Cx) (ρ : Rho) (σ : Sto) (e : Expr) : Option (Bool × Sto) := trV R c ρ σ e (view e)
noncomputable def esV (T : Tab) (R : Rec) (c : Cx) (ρ : Rho) (σ : Sto) (e : Expr) : V → Option (PV × Sto)
  | .call f args => (match T.sp f with
    | some g => if c.sc.names.lookup f = some .globalImplicit then bnd (esL R c ρ σ args) fun vs σ => g vs σ else none
    | none => R.ev c ρ σ e)
  | .bin op l r => bnd (R.es c ρ σ l) fun a σ => bnd (R.es c ρ σ r) fun b σ => binop op a b σ
  | _ => R.ev c ρ σ e
noncomputable def esStep (T : Tab) (R : Rec) (c : Cx) (ρ : Rho) (σ : Sto) (e : Expr) : Option (PV × Sto) := esV T R c ρ σ e (view e)
noncomputable def kindOk (sc : Scope) (x : Str) : Bool := sc.names.lookup x == some .local || sc.names.lookup x == some .cell
noncomputable def hview : ExceptHandler → Option (Str × List Stmt)
  | .ExceptHandler ty nm body _ => if nm.isNone = true ∧ body.isEmpty = false then ty.bind fun t => (nameOf t).map fun x => (x, body) else none
theorem hview_ok {h : ExceptHandler} {t : Str} {body : List Stmt} (e : hview h = some (t, body)) : (∃ p q, h = .ExceptHandler (some (.Name t p)) none body q) ∧ body.isEmpty = false := by
  obtain ⟨ty, nm, b, q⟩ := h
  refine iteE e fun hc h => ?_
  clear e
  refine bindE h fun t' h1 zz => ?_
  clear h
  refine mapE zz fun x hx h => ?_
  clear zz
  cases h
  obtain ⟨p, rfl⟩ := nameOf_ok hx
  subst h1
  cases nm with
  | some _ => cases hc.1
  | none => exact ⟨⟨p, q, rfl⟩, hc.2⟩
noncomputable def hasH (sc : Scope) (cls : Str) : List ExceptHandler → Option (List Stmt)
  | [] => none
  | h :: r => (hview h).bind fun p => if sc.names.lookup p.1 = some .globalImplicit then
      (if p.1 = cls ∧ (cls = "ValueError" ∨ cls = "IndexError") then some p.2 else if p.1 = "ValueError" ∧ cls = "IndexError" then hasH sc cls r else none)
    else none
noncomputable def isName : Expr → Bool
  | .Name .. => true
  | _ => false
noncomputable def strK : Const → Option Str
  | .str x => some x
  | _ => none
noncomputable def strOf : Expr → Option Str
  | .Constant k _ _ => strK k
  | _ => none
noncomputable def hdS (l : List Stmt) : Option (Str × List Nat) := (one1 l).bind fun s => (asgT s).bind fun p => (nameOf p.1).bind fun x => (strOf p.2).map fun t => (x, t.cps.toList)
theorem strOf_ok {e : Expr} {x : Str} (h : strOf e = some x) : ∃ a p, e = .Constant (.str x) a p := by
  have k : ∀ e, (strOf e).elim True fun i => ∃ a p, e = .Constant (.str i) a p := fun e => by
    cases e with
    | Constant k a p => cases k <;> first | exact True.intro | exact ⟨_, _, rfl⟩
    | _ => exact True.intro
  have := k e
  rw [h] at this
  exact this
theorem hdS_ok {l : List Stmt} {y : Str} {t : List Nat} (h : hdS l = some (y, t)) : ∃ p x k q r, l = [.Assign [.Name y p] (.Constant (.str x) k q) r] ∧ t = x.cps.toList := by
  refine bindE h fun s h1 zz => ?_
  clear h
  refine bindE zz fun p h2 h => ?_
  clear zz
  refine bindE h fun x h3 zz => ?_
  clear h
  refine mapE zz fun z h4 h => ?_
  clear zz
  cases h
  obtain ⟨r, rfl⟩ := asgT_ok h2
  obtain ⟨px, hx⟩ := nameOf_ok h3
  refine elEE (strOf_ok h4) fun k q hz => ?_
  rw [one1_some h1, hx, hz]
  exact ⟨_, _, _, _, _, rfl, rfl⟩
noncomputable def augI (op : Operator) (i j : Int) : Option Int := match op with
  | .Add => some (i + j)
  | .Sub => some (i - j)
  | _ => none
noncomputable def forOne (R : Rec) (c : Cx) (ρ : Rho) (σ : Sto) (body : List Stmt) (S : Src) : TV → Turn
  | .one x => if kindOk c.sc x then forS (fun v ρ σ => exs R c (upd ρ x v) σ body) S 2000 0 ρ σ else none
  | _ => none
noncomputable def forTwo (R : Rec) (c : Cx) (ρ : Rho) (σ : Sto) (body : List Stmt) (ps : List (PV × PV)) : TV → Turn
  | .two x y => if c.sc.names.lookup x = some .local ∧ c.sc.names.lookup y = some .local ∧ x ≠ y then forP (fun u v ρ σ => exs R c (upd (upd ρ x u) y v) σ body) ps ρ σ else none
  | _ => none
noncomputable def forV (T : Tab) (R : Rec) (c : Cx) (ρ : Rho) (σ : Sto) (body : List Stmt) (tv : TV) : Src → Turn
  | .gens ps => if T.useGen = true then forTwo R c ρ σ body ps tv else none
  | .zips _ _ => none
  | S => forOne R c ρ σ body S tv
noncomputable def exV (T : Tab) (R : Rec) (c : Cx) (ρ : Rho) (σ : Sto) : SV → Turn
  | .app e => bnd (R.ev c ρ σ e) fun v σ => if v = .none then some (.next, ρ, σ) else none
  | .ret e => bnd (R.es c ρ σ e) fun v σ => some (.ret v, ρ, σ)
  | .asgC x elt tgt iter ifs scope => if kindOk c.sc x = true ∧ (isName tgt = true ∨ c.sc.names.lookup x = some .cell) then bnd (comp T R c ρ σ elt tgt iter ifs scope) fun v σ => some (.next, upd ρ x v, σ) else none
  | .asg x e => if kindOk c.sc x then bnd (R.es c ρ σ e) fun v σ => some (.next, upd ρ x v, σ) else none
  | .two x y a b => if c.sc.names.lookup x = some .local ∧ c.sc.names.lookup y = some .local ∧ x ≠ y then some (.next, upd (upd ρ x (.int a)) y (.int b), σ) else none
  | .item o i e => bnd (R.ev c ρ σ e) fun v σ => bnd (R.ev c ρ σ o) fun ov σ => bnd (R.ev c ρ σ i) fun k σ => (asInt k).bind fun k => (setBA σ ov k v).map fun σ => (.next, ρ, σ)
  | .aug x op e => if x ≠ "__debug__" ∧ c.sc.names.lookup x = some .local then (ρ.lookup x).bind fun u => (asInt u).bind fun i => bnd (R.ev c ρ σ e) fun v σ => (asInt v).bind fun j => (augI op i j).map fun k => (.next, upd ρ x (.int k), σ) else none
  | .ifs t b o => bnd (R.tr c ρ σ t) fun d σ => exs R c ρ σ (if d then b else o)
  | .fors t i b => bnd (src T R c ρ σ i) fun S σ => forV T R c ρ σ b (tview t) S
  | .tries x f args hs => (T.sp f).bind fun g => if c.top = true ∧ kindOk c.sc x = true ∧ c.sc.names.lookup f = some .globalImplicit then bnd (evs R c ρ σ args) fun vs σ => (match (T.exc f).bind fun g => g vs with
      | some cls => ((hasH c.sc cls hs).bind hdS).bind fun p => if kindOk c.sc p.1 then some (.next, upd ρ p.1 (.str p.2), σ) else none
      | none => bnd (g vs σ) fun v σ => some (.next, upd ρ x v, σ)) else none
  | .bad => none
noncomputable def exStep (T : Tab) (R : Rec) (c : Cx) (ρ : Rho) (σ : Sto) (s : Stmt) : Turn := exV T R c ρ σ (sview s)
noncomputable def recN (T : Tab) : Nat → Rec
  | 0 => ⟨fun _ _ _ _ => none, fun _ _ _ _ => none, fun _ _ _ _ => none, fun _ _ _ _ => none⟩
  | n + 1 => ⟨evStep T (recN T n), trStep T (recN T n), esStep T (recN T n), exStep T (recN T n)⟩
end Mine.Internal
end
section
set_option backward.match.sparseCases false
namespace Mine.Internal
open PySem
noncomputable def esc (i : Nat) (e : Bool) : List Nat → List (Nat × List Nat)
  | [] => if e then [(i - 1, [92])] else []
  | c :: r => if e then (i, [92, c]) :: esc (i + 1) false r else if c = 92 then esc (i + 1) true r else (i, [c]) :: esc (i + 1) false r
noncomputable def escP (x : List Nat) : List (PV × PV) := (esc 0 false x).map fun p => (.int p.1, .str p.2)
noncomputable def stripGo (x : List Nat) : List (Nat × List Nat) → Nat → Option Nat → List Nat → Nat × List Nat
  | [], st, _, res => (st, res)
  | (p, ch) :: r, st, op, res => if ch = [34] then
      match op with
      | none => stripGo x r st (some p) res
      | some o => stripGo x r (p + 1) none (if st = o then res else res ++ (x.take o).drop st)
    else stripGo x r st op res
noncomputable def strip (x : List Nat) : List Nat :=
  if x.contains 34 then
    let r := stripGo x (esc 0 false x) 0 none []
    if r.1 < x.length then r.2 ++ x.drop r.1 else r.2
  else x
noncomputable def chkGo : List (Nat × List Nat) → Int → Bool
  | [], n => n == 0
  | (_, ch) :: r, n => if ch = [40] then chkGo r (n + 1) else if ch = [41] then (if n - 1 < 0 then false else chkGo r (n - 1)) else chkGo r n
noncomputable def check (x : List Nat) : Bool := chkGo (esc 0 false (strip x)) 0
noncomputable def bsw (w : Nat) : Nat → List UInt8 → List UInt8
  | 0, _ => []
  | k + 1, x => (x.take w).reverse ++ bsw w k (x.drop w)
noncomputable def swap (x : List UInt8) (w : Nat) : List UInt8 := bsw w (x.length / w) x
noncomputable def noVal : List Nat := [40, 39, 39, 44, 32, 39, 39, 41]
noncomputable def wordOf (s : Nat) (kind : Nat) : List Nat :=
  match kind with
  | 0 => [s, 97, 97, 97, 97]
  | 1 => [s, 34, 40, 40, 34]
  | 2 => [s, 34, 41, 41, 34]
  | 3 => [s, 34, 92, 34, 34]
  | 4 => [s, 34, 92, 92, 34]
  | 5 => [92, 34, s, 92, 40]
  | 6 => [92, 92, s, 92, 41]
  | _ => [34, 34, s, 34, 34]
noncomputable def about (x : List UInt8) : List UInt8 := if x = [] then [] else swap (swap x x.length) 5
noncomputable def fStrip : Nat1 := fun vs σ => (one1 vs).bind fun v => (asStr v).bind fun x => if x.length ≤ 10000 then some (.str (strip x), σ) else none
noncomputable def fCheck : Nat1 := fun vs σ => (one1 vs).bind fun v => (asStr v).bind fun x => if x.length ≤ 10000 then some (.bool (check x), σ) else none
noncomputable def fPre : Nat1 := fun vs σ => (one1 vs).bind fun v => (listAt σ v).bind fun us => (pvStrs us).bind fun xs =>
  if xs.length ≤ 50 ∧ xs.all (fun x => decide (x.length ≤ 10000)) then some (mk σ (.list (xs.map fun x => .str (if check x then x else noVal)))) else none
noncomputable def fSwap : Nat1 := fun vs σ => (two2 vs).bind fun p => (asByt p.1).bind fun x => (asInt p.2).bind fun w => if 0 < w ∧ w < 1000 ∧ x.length < 1000 ∧ x.length % w.toNat = 0 then some (.bytes (swap x w.toNat), σ) else none
noncomputable def xSwap : List PV → Option Str := fun vs => (two2 vs).bind fun p => (asByt p.1).bind fun x => (asInt p.2).bind fun w =>
  if x.length < 1000 ∧ w = 0 then some "ValueError" else if x.length < 1000 ∧ 0 < w ∧ w < 1000 ∧ x.length % w.toNat ≠ 0 then some "IndexError" else none
noncomputable def fWord : Nat1 := fun vs σ => (two2 vs).bind fun p => (asInt p.1).bind fun s => (asInt p.2).bind fun k => if (s = 40 ∨ s = 41) ∧ 0 ≤ k ∧ k < 8 then some (.bytes ((wordOf s.toNat k.toNat).map UInt8.ofNat), σ) else none
noncomputable def fAbout : Nat1 := fun vs σ => (one1 vs).bind fun v => (asByt v).bind fun x => if x.length < 1000 ∧ x.length % 5 = 0 then some (.bytes (about x), σ) else none
theorem fStrip_inv {vs : List PV} {σ : Sto} {r : PV × Sto} (h : fStrip vs σ = some r) : ∃ x, vs = [.str x] ∧ x.length ≤ 10000 ∧ r = (.str (strip x), σ) :=
  bindE h fun v h1 h => bindE h fun x h2 h => iteE h fun hc h => ⟨x, by rw [one1_some h1, asStr_ok h2], hc, (Option.some.inj h).symm⟩
theorem fCheck_inv {vs : List PV} {σ : Sto} {r : PV × Sto} (h : fCheck vs σ = some r) : ∃ x, vs = [.str x] ∧ x.length ≤ 10000 ∧ r = (.bool (check x), σ) :=
  bindE h fun v h1 h => bindE h fun x h2 h => iteE h fun hc h => ⟨x, by rw [one1_some h1, asStr_ok h2], hc, (Option.some.inj h).symm⟩
theorem fAbout_inv {vs : List PV} {σ : Sto} {r : PV × Sto} (h : fAbout vs σ = some r) : ∃ x, vs = [.bytes x] ∧ (x.length < 1000 ∧ x.length % 5 = 0) ∧ r = (.bytes (about x), σ) :=
  bindE h fun v h1 h => bindE h fun x h2 h => iteE h fun hc h => ⟨x, by rw [one1_some h1, asByt_ok h2], hc, (Option.some.inj h).symm⟩
theorem fSwap_inv {vs : List PV} {σ : Sto} {r : PV × Sto} (h : fSwap vs σ = some r) : ∃ x w, vs = [.bytes x, .int w] ∧ (0 < w ∧ w < 1000 ∧ x.length < 1000 ∧ x.length % w.toNat = 0) ∧ r = (.bytes (swap x w.toNat), σ) :=
  bindE h fun p h1 h => bindE h fun x h2 h => bindE h fun w h3 h => iteE h fun hc h => ⟨x, w, by rw [two2_ok h1, asByt_ok h2, asInt_ok h3], hc, (Option.some.inj h).symm⟩
theorem fWord_inv {vs : List PV} {σ : Sto} {r : PV × Sto} (h : fWord vs σ = some r) : ∃ s k, vs = [.int s, .int k] ∧ ((s = 40 ∨ s = 41) ∧ 0 ≤ k ∧ k < 8) ∧ r = (.bytes ((wordOf s.toNat k.toNat).map UInt8.ofNat), σ) :=
  bindE h fun p h1 h => bindE h fun x h2 h => bindE h fun w h3 h => iteE h fun hc h => ⟨x, w, by rw [two2_ok h1, asInt_ok h2, asInt_ok h3], hc, (Option.some.inj h).symm⟩
theorem xSwap_inv {vs : List PV} {c : Str} (h : xSwap vs = some c) : ∃ x w, vs = [.bytes x, .int w] ∧ x.length < 1000 ∧ ((w = 0 ∧ c = "ValueError") ∨ ((0 < w ∧ w < 1000 ∧ x.length % w.toNat ≠ 0) ∧ c = "IndexError")) :=
  bindE h fun p h1 h => bindE h fun x h2 h => bindE h fun w h3 h => by
    refine ⟨x, w, by rw [two2_ok h1, asByt_ok h2, asInt_ok h3], ?_⟩
    exact ite2 h (fun hc h => ⟨hc.1, .inl ⟨hc.2, (Option.some.inj h).symm⟩⟩) fun _ h => iteE h fun hc h => ⟨hc.1, .inr ⟨hc.2, (Option.some.inj h).symm⟩⟩
noncomputable def noF : Str → Option Nat1 := fun _ => none
noncomputable def noX : Str → Option (List PV → Option Str) := fun _ => none
noncomputable def TG : Tab := ⟨noF, noF, noX, escP, false⟩
noncomputable def T0 : Tab := ⟨noF, noF, noX, escP, true⟩
noncomputable def T1 : Tab := ⟨fun f => if f = "_strip_quoted_realnames" then some fStrip else none, noF, noX, escP, true⟩
noncomputable def T2 : Tab := ⟨fun f => if f = "_check_parenthesis" then some fCheck else none, noF, noX, escP, false⟩
noncomputable def TB : Tab := ⟨noF, fun f => if f = "bytearray" then some baCall else none, noX, escP, false⟩
noncomputable def TA : Tab := ⟨noF, fun f => if f = "_byteswap" then some fSwap else none, noX, escP, false⟩
noncomputable def T3 : Tab := ⟨fun f => if f = "_check_parenthesis" then some fCheck else if f = "_pre_parse_validation" then some fPre else if f = "_law_word" then some fWord else none,
  fun f => if f = "_byteswap" then some fSwap else if f = "_law_about" then some fAbout else none, fun f => if f = "_byteswap" then some xSwap else none, escP, false⟩
end Mine.Internal
end
section
set_option backward.match.sparseCases false
namespace Mine.Internal
open PySem PyProof.Rows
noncomputable def VR (h₀ : Heap) (as : List Addr) (v : Value) (p : PV) : Prop :=
  match p with
  | .none => v = .none
  | .bool b => v = .bool b
  | .int i => ∃ t, v = .int i t
  | .str x => ∃ t, v = .str ⟨x.toArray⟩ t
  | .bytes x => ∃ t, v = .bytes x.toArray t
  | .ref n => ∃ a, v = .ref a ∧ as[n]? = some a
  | .xl ns => ∃ a its, v = .ref a ∧ h₀.IsList a its ∧ IntsAre its.toList ns
noncomputable def OR (h₀ : Heap) (as : List Addr) (h : Heap) (a : Addr) : PO → Prop
  | .list vs => ∃ its : List Value, h.PlainList a its.toArray ∧ Paired (VR h₀ as) its vs
  | .tup vs => ∃ its : List Value, IsTup h a its.toArray ∧ Paired (VR h₀ as) its vs
  | .ba x => ∃ o, h.get? a = some o ∧ o.cls = .type "bytearray" ∧ o.data = .bytearray x.toArray 0
structure Inv (h₀ h : Heap) (as : List Addr) (σ : Sto) : Prop where
  base : ∀ b o, h₀.get? b = some o → h.get? b = some o
  new : ∀ a ∈ as, h₀.get? a = none
  nd : as.Nodup
  len : as.length = σ.length
  obj : ∀ (n : Nat) (a : Addr) (po : PO), as[n]? = some a → σ[n]? = some po → OR h₀ as h a po
structure GK (a b : Array GenState) : Prop where
  size : a.size ≤ b.size
  old : ∀ i, i < a.size → b[i]? = a[i]?
  bare : AllBare a → AllBare b
structure Grow (X : List Addr) (s : Shared) (as : List Addr) (s' : Shared) (as' : List Addr) : Prop where
  pre : ∃ t, as' = as ++ t ∧ ∀ a ∈ t, s.heap.get? a = none
  keep : ∀ b o, b ∉ X → b ∉ as → s.heap.get? b = some o → s'.heap.get? b = some o
  live : ∀ b o, s.heap.get? b = some o → ∃ o', s'.heap.get? b = some o'
  os : s'.os = s.os
  gens : GK s.gens s'.gens
noncomputable def faddrs (env : Env) : List Addr := env.locals :: env.cells.map (·.2)
structure FrI (h₀ : Heap) (env : Env) (h : Heap) (as : List Addr) (ρ : Rho) : Prop where
  fn : env.scope.kind = .function
  glb : env.globals = mainGlobals
  blt : env.builtins = builtinsNs
  ns : ∃ m, h.Ns env.locals m ∧ ∀ x p, ρ.lookup x = some p → env.kindOf x = some .local → ∃ v, m x = some v ∧ VR h₀ as v p
  cell : ∀ x p, ρ.lookup x = some p → env.kindOf x = some .cell ∨ env.kindOf x = some .free → ∃ c v, env.cells.lookup x = some c ∧ h.IsCell c (some v) ∧ VR h₀ as v p
  nocd : ∀ x, env.kindOf x = some .free → x = "__classdict__" → False
  kinds : ∀ x p, ρ.lookup x = some p → env.kindOf x = some .local ∨ env.kindOf x = some .cell ∨ env.kindOf x = some .free
  own : ∀ x, env.kindOf x = some .cell → ∃ c, env.cells.lookup x = some c
  cells : ∀ x c, (x, c) ∈ env.cells → ∃ v, h.IsCell c v
  apart : env.cells.Pairwise fun x y => x.2 ≠ y.2
  dict : ∀ c ∈ env.cells.map (·.2), c ≠ env.locals
  offs : ∀ b ∈ faddrs env, b ∉ as ∧ h₀.get? b = none
noncomputable def AOk (k : Nat) (A : Around) : Prop := A.handled = none ∧ A.depth + k < 990 ∧ A.units + 10 * k < 9800
noncomputable def EP (h₀ : Heap) (s : Shared) (as : List Addr) (p : PV) (σ' : Sto) (v : Value) (s' : Shared) : Prop :=
  ∃ as', Grow [] s as s' as' ∧ Inv h₀ s'.heap as' σ' ∧ VR h₀ as' v p
noncomputable def EPs (h₀ : Heap) (s : Shared) (as : List Addr) (ps : List PV) (σ' : Sto) (vs : List Value) (s' : Shared) : Prop :=
  ∃ as', Grow [] s as s' as' ∧ Inv h₀ s'.heap as' σ' ∧ Paired (VR h₀ as') vs ps
noncomputable def TP (h₀ : Heap) (s : Shared) (as : List Addr) (b : Bool) (σ' : Sto) (v : Bool) (s' : Shared) : Prop :=
  ∃ as', Grow [] s as s' as' ∧ Inv h₀ s'.heap as' σ' ∧ v = b
noncomputable def FlR (h₀ : Heap) (as : List Addr) : Flow → Fl → Prop
  | .next, .next => True
  | .ret v, .ret p => VR h₀ as v p
  | _, _ => False
noncomputable def XP (h₀ : Heap) (env : Env) (s : Shared) (as : List Addr) (fl : Fl) (ρ' : Rho) (σ' : Sto) (f : Flow) (s' : Shared) : Prop :=
  ∃ as', Grow (faddrs env) s as s' as' ∧ Inv h₀ s'.heap as' σ' ∧ FrI h₀ env s'.heap as' ρ' ∧ FlR h₀ as' f fl
theorem GK.refl (a : Array GenState) : GK a a := ⟨Nat.le_refl _, fun _ _ => rfl, fun h => h⟩
theorem GK.trans {a b c : Array GenState} (x : GK a b) (y : GK b c) : GK a c :=
  ⟨Nat.le_trans x.size y.size, fun i hi => (y.old i (Nat.lt_of_lt_of_le hi x.size)).trans (x.old i hi), fun h => y.bare (x.bare h)⟩
theorem Grow.refl (X : List Addr) (s : Shared) (as : List Addr) : Grow X s as s as :=
  ⟨⟨[], by simp, fun _ h => nomatch h⟩, fun _ _ _ _ e => e, fun _ o e => ⟨o, e⟩, rfl, .refl _⟩
theorem Grow.mem {X : List Addr} {s s' : Shared} {as as' : List Addr} (g : Grow X s as s' as') {a : Addr} (h : a ∈ as) : a ∈ as' := by
  obtain ⟨t, rfl, _⟩ := g.pre; exact List.mem_append_left _ h
theorem Grow.trans {X : List Addr} {s₁ s₂ s₃ : Shared} {a₁ a₂ a₃ : List Addr} (x : Grow X s₁ a₁ s₂ a₂) (y : Grow X s₂ a₂ s₃ a₃) : Grow X s₁ a₁ s₃ a₃ := by
  refine elEA (x.pre) fun t eq82x1 ht => ?_
  subst eq82x1
  refine elEA (y.pre) fun u eq83x2 hu => ?_
  subst eq83x2
  refine ⟨⟨t ++ u, by simp, fun a ha => ?_⟩, fun b o hX hb e => ?_, fun b o e => ?_, y.os.trans x.os, x.gens.trans y.gens⟩
  · rcases List.mem_append.mp ha with h | h
    · exact ht a h
    · cases e : s₁.heap.get? a with
      | none => rfl
      | some o =>
        obtain ⟨o', e'⟩ := x.live a o e
        rw [hu a h] at e'; cases e'
  · refine y.keep b o hX (fun hm => ?_) (x.keep b o hX hb e)
    rcases List.mem_append.mp hm with h | h
    · exact hb h
    · rw [ht b h] at e; cases e
  · obtain ⟨o', e'⟩ := x.live b o e
    exact y.live b o' e'
theorem Grow.wide {X Y : List Addr} {s s' : Shared} {as as' : List Addr} (g : Grow X s as s' as') (h : ∀ b ∈ X, b ∈ Y) : Grow Y s as s' as' :=
  ⟨g.pre, fun b o hY hb e => g.keep b o (fun hX => hY (h b hX)) hb e, g.live, g.os, g.gens⟩
theorem Grow.wide0 {Y : List Addr} {s s' : Shared} {as as' : List Addr} (g : Grow [] s as s' as') : Grow Y s as s' as' := g.wide fun _ h => nomatch h
theorem Grow.keeps {X : List Addr} {s s' : Shared} {as : List Addr} (hk : ∀ b o, s.heap.get? b = some o → s'.heap.get? b = some o)
    (ho : s'.os = s.os) (hg : GK s.gens s'.gens) : Grow X s as s' as :=
  ⟨⟨[], by simp, fun _ h => nomatch h⟩, fun b o _ _ e => hk b o e, fun b o e => ⟨o, hk b o e⟩, ho, hg⟩
theorem VR.mono {h₀ : Heap} {as as' : List Addr} {v : Value} {p : PV} (hp : ∃ t, as' = as ++ t) (h : VR h₀ as v p) : VR h₀ as' v p := by
  apply exE hp; intro t; clear hp
  cases p with
  | ref n =>
    refine elEA h fun a eq111x3 ha => ?_
    try clear h
    subst eq111x3
    refine ⟨a, rfl, ?_⟩
    have hl := (List.getElem?_eq_some_iff.mp ha).1
    rw [List.getElem?_append_left hl]; exact ha
  | _ => exact h
theorem Grow.vr {X : List Addr} {s s' : Shared} {as as' : List Addr} {h₀ : Heap} {v : Value} {p : PV} (g : Grow X s as s' as') (h : VR h₀ as v p) : VR h₀ as' v p :=
  h.mono (let ⟨t, e, _⟩ := g.pre; ⟨t, e⟩)
theorem Grow.vrs {X : List Addr} {s s' : Shared} {as as' : List Addr} {h₀ : Heap} {vs : List Value} {ps : List PV} (g : Grow X s as s' as') (h : Paired (VR h₀ as) vs ps) : Paired (VR h₀ as') vs ps :=
  h.mono fun _ _ x => g.vr x
theorem OR.mono {h₀ : Heap} {as as' : List Addr} {h h' : Heap} {a : Addr} {po : PO} (hp : ∃ t, as' = as ++ t) (hk : ∀ o, h.get? a = some o → h'.get? a = some o) (x : OR h₀ as h a po) : OR h₀ as' h' a po := by
  cases po with
  | list vs =>
    refine elEA x fun its pt124x4 hv => ?_
    try clear x
    obtain ⟨n, ho⟩ := pt124x4
    exact ⟨its, ⟨n, hk _ ho⟩, hv.mono fun _ _ y => y.mono hp⟩
  | tup vs =>
    refine elEA x fun its pt127x5 hv => ?_
    try clear x
    obtain ⟨o, ho, r⟩ := pt127x5
    exact ⟨its, ⟨o, hk o ho, r⟩, hv.mono fun _ _ y => y.mono hp⟩
  | ba x => obtain ⟨o, ho, r⟩ := x; exact ⟨o, hk o ho, r⟩
theorem OR.live {h₀ : Heap} {as : List Addr} {h : Heap} {a : Addr} {po : PO} (x : OR h₀ as h a po) : ∃ o, h.get? a = some o := by
  cases po with
  | list vs => obtain ⟨its, ⟨n, ho⟩, _⟩ := x; exact ⟨_, ho⟩
  | tup vs => obtain ⟨its, ⟨o, ho, _⟩, _⟩ := x; exact ⟨o, ho⟩
  | ba x => obtain ⟨o, ho, _⟩ := x; exact ⟨o, ho⟩
theorem Inv.lt {h₀ h : Heap} {as : List Addr} {σ : Sto} (I : Inv h₀ h as σ) {a : Addr} (ha : a ∈ as) : a < h.objs.size := by
  obtain ⟨n, hn, rfl⟩ := List.getElem_of_mem ha
  have hn' : n < σ.length := I.len ▸ hn
  obtain ⟨o, ho⟩ := (I.obj n as[n] σ[n] (List.getElem?_eq_getElem hn) (List.getElem?_eq_getElem hn')).live
  exact Heap.lt_size ho
theorem Inv.keeps {h₀ h h' : Heap} {as : List Addr} {σ : Sto} (I : Inv h₀ h as σ) (hk : ∀ b o, h.get? b = some o → h'.get? b = some o) : Inv h₀ h' as σ :=
  ⟨fun b o e => hk b o (I.base b o e), I.new, I.nd, I.len, fun n a po ha hp => (I.obj n a po ha hp).mono ⟨[], by simp⟩ fun o e => hk a o e⟩
theorem Inv.at {h₀ h : Heap} {as : List Addr} {σ : Sto} (I : Inv h₀ h as σ) {n : Nat} {po : PO} (hp : σ[n]? = some po) : ∃ a, as[n]? = some a ∧ OR h₀ as h a po := by
  have hl : n < as.length := I.len ▸ (List.getElem?_eq_some_iff.mp hp).1
  exact ⟨as[n], List.getElem?_eq_getElem hl, I.obj n _ po (List.getElem?_eq_getElem hl) hp⟩
theorem Inv.push {h₀ h : Heap} {as : List Addr} {σ : Sto} (I : Inv h₀ h as σ) (o : Obj) : Inv h₀ (h.push o) as σ := I.keeps fun _ _ e => Heap.get?_push_of_some o e
theorem Inv.add {h₀ h : Heap} {as : List Addr} {σ : Sto} {a : Addr} {po : PO} (I : Inv h₀ h as σ) (hn : a ∉ as) (h0 : h₀.get? a = none) (ho : OR h₀ as h a po) : Inv h₀ h (as ++ [a]) (σ ++ [po]) := by
  refine ⟨I.base, fun b hb => ?_, ?_, by simp [I.len], fun n b po' hb hp => ?_⟩
  · rcases List.mem_append.mp hb with hb | hb
    · exact I.new b hb
    · rw [List.mem_singleton.mp hb]; exact h0
  · exact List.nodup_append.mpr ⟨I.nd, by simp, fun x hx y hy e => hn (by rw [List.mem_singleton.mp hy] at e; exact e ▸ hx)⟩
  · by_cases hl : n < as.length
    · rw [List.getElem?_append_left hl] at hb
      rw [List.getElem?_append_left (I.len ▸ hl)] at hp
      exact (I.obj n b po' hb hp).mono ⟨_, rfl⟩ fun _ e => e
    · have hlt : n < (as ++ [a]).length := (List.getElem?_eq_some_iff.mp hb).1
      have hn' : n = as.length := by simp at hlt; omega
      subst hn'
      simp at hb
      rw [I.len] at hp
      simp at hp
      subst hb hp
      exact ho.mono ⟨_, rfl⟩ fun _ e => e
theorem Inv.alive {h₀ h : Heap} {as : List Addr} {σ : Sto} (I : Inv h₀ h as σ) {a : Addr} (ha : a ∈ as) : ∃ o, h.get? a = some o := by
  obtain ⟨n, hn, rfl⟩ := List.getElem_of_mem ha
  have hn' : n < σ.length := I.len ▸ hn
  exact (I.obj n as[n] σ[n] (List.getElem?_eq_getElem hn) (List.getElem?_eq_getElem hn')).live
theorem Inv.fresh {h₀ h : Heap} {as : List Addr} {σ : Sto} (I : Inv h₀ h as σ) {a : Addr} (ha : h.get? a = none) : a ∉ as ∧ h₀.get? a = none :=
  ⟨fun hm => (by obtain ⟨o, ho⟩ := I.alive hm; rw [ha] at ho; cases ho), by
    cases e : h₀.get? a with
    | none => rfl
    | some o => have := I.base a o e; rw [ha] at this; cases this⟩
theorem Inv.set {h₀ h h' : Heap} {as : List Addr} {σ : Sto} {n : Nat} {a : Addr} {po : PO} (I : Inv h₀ h as σ) (ha : as[n]? = some a) (hs : ∀ b, b ≠ a → h'.get? b = h.get? b) (ho : OR h₀ as h' a po) :
    Inv h₀ h' as (σ.set n po) := by
  have hm : a ∈ as := List.mem_of_getElem? ha
  refine ⟨fun b o e => ?_, I.new, I.nd, by simp [I.len], fun k b po' hb hp => ?_⟩
  · have : b ≠ a := fun q => by rw [q, I.new a hm] at e; cases e
    rw [hs b this]; exact I.base b o e
  · by_cases hk : k = n
    · subst hk
      rw [ha] at hb; cases hb
      have hl : k < σ.length := by have := (List.getElem?_eq_some_iff.mp hp).1; simpa using this
      rw [List.getElem?_set_self hl] at hp
      cases hp; exact ho
    · have hp' : σ[k]? = some po' := by rwa [List.getElem?_set_ne (Ne.symm hk)] at hp
      have hne : b ≠ a := fun q => hk (by
        subst q
        obtain ⟨h1, e1⟩ := List.getElem?_eq_some_iff.mp hb
        obtain ⟨h2, e2⟩ := List.getElem?_eq_some_iff.mp ha
        have pw := List.pairwise_iff_getElem.mp I.nd
        rcases Nat.lt_trichotomy k n with q | q | q
        · exact absurd (e1.trans e2.symm) (pw k n h1 h2 q)
        · exact q
        · exact absurd (e2.trans e1.symm) (pw n k h2 h1 q))
      exact (I.obj k b po' hb hp').mono ⟨[], by simp⟩ fun o e => (hs b hne).trans e
theorem FrI.grow {h₀ : Heap} {env : Env} {s s' : Shared} {as as' : List Addr} {ρ : Rho} (F : FrI h₀ env s.heap as ρ) (g : Grow [] s as s' as') : FrI h₀ env s'.heap as' ρ := by
  have kp : ∀ b ∈ faddrs env, ∀ o, s.heap.get? b = some o → s'.heap.get? b = some o := fun b hb o e => g.keep b o (fun h => nomatch h) (F.offs b hb).1 e
  have hc : ∀ x c, (x, c) ∈ env.cells → c ∈ faddrs env := fun x c h => List.mem_cons_of_mem _ (List.mem_map.mpr ⟨_, h, rfl⟩)
  refine ⟨F.fn, F.glb, F.blt, ?_, fun x p hx hk => ?_, F.nocd, F.kinds, F.own, fun x c h => ?_, F.apart, F.dict, fun b hb => ?_⟩
  · refine elEA (F.ns) fun m hn hm => ?_
    exact ⟨m, hn.at' fun o e => kp _ (List.mem_cons_self ..) o e, fun x p hx hk => let ⟨v, e, hv⟩ := hm x p hx hk; ⟨v, e, g.vr hv⟩⟩
  · refine elEEAA (F.cell x p hx hk) fun c v e pt212x6 hv => ?_
    obtain ⟨o, ho, hd⟩ := pt212x6
    exact ⟨c, v, e, ⟨o, kp c (hc x c (mem_of_lookup e)) o ho, hd⟩, g.vr hv⟩
  · refine elEEA (F.cells x c h) fun v o ho hd => ?_
    exact ⟨v, o, kp c (hc x c h) o ho, hd⟩
  · refine ⟨fun hm => ?_, (F.offs b hb).2⟩
    refine elEA (g.pre) fun t eq217x7 ht => ?_
    subst eq217x7
    rcases List.mem_append.mp hm with h | h
    · exact (F.offs b hb).1 h
    · have : ∃ o, s.heap.get? b = some o := by
        rcases List.mem_cons.mp hb with rfl | hb'
        · obtain ⟨m, ⟨o, _, _, ho, _⟩, _⟩ := F.ns; exact ⟨o, ho⟩
        · refine elEA (List.mem_map.mp hb') fun pt223x8 hm' eq223x9 => ?_
          obtain ⟨x, c⟩ := pt223x8
          subst eq223x9
          obtain ⟨v, o, ho, _⟩ := F.cells x c hm'; exact ⟨o, ho⟩
      obtain ⟨o, ho⟩ := this
      rw [ht b h] at ho; cases ho
theorem AOk.le {k j : Nat} {A : Around} (h : AOk k A) (hj : j ≤ k) : AOk j A := ⟨h.1, by have := h.2.1; omega, by have := h.2.2; omega⟩
theorem AOk.room {k : Nat} {A : Around} (h : AOk k A) : A.depth < recursionLimit := by have := h.2.1; unfold recursionLimit; omega
theorem AOk.units {k : Nat} {A : Around} (h : AOk k A) : A.units < cLine := by have := h.2.2; unfold cLine; omega
theorem AOk.deeper {k : Nat} {A : Around} {env : Env} (h : AOk (k + 1) A) : AOk k (A.deeper env) :=
  ⟨h.1, by show A.depth + 1 + k < 990; have := h.2.1; omega, by show A.units + 3 + 10 * k < 9800; have := h.2.2; omega⟩
end Mine.Internal
end
section
set_option backward.match.sparseCases false
namespace Mine.Internal
open PySem PyProof.Rows
theorem EP.toks {h₀ : Heap} {s : Shared} {as : List Addr} {p : PV} {σ : Sto} {v : Value} {k : Nat} (I : Inv h₀ s.heap as σ) (hv : VR h₀ as v p) : EP h₀ s as p σ v { s with toks := k } :=
  ⟨as, .keeps (fun _ _ e => e) rfl (.refl _), I, hv⟩
theorem EP.same {h₀ : Heap} {s : Shared} {as : List Addr} {p : PV} {σ : Sto} {v : Value} (I : Inv h₀ s.heap as σ) (hv : VR h₀ as v p) : EP h₀ s as p σ v s :=
  ⟨as, .refl _ _ _, I, hv⟩
theorem EP.heap {h₀ h' : Heap} {s : Shared} {as : List Addr} {p : PV} {σ : Sto} {v : Value} {k : Nat} (I : Inv h₀ s.heap as σ) (hk : ∀ b o, s.heap.get? b = some o → h'.get? b = some o)
    (hv : VR h₀ as v p) : EP h₀ s as p σ v { s with heap := h', toks := k } :=
  ⟨as, .keeps hk rfl (.refl _), I.keeps hk, hv⟩
theorem EP.new {h₀ h' : Heap} {s : Shared} {as : List Addr} {po : PO} {σ : Sto} {a : Addr} {k : Nat} (I : Inv h₀ s.heap as σ) (hk : ∀ b o, s.heap.get? b = some o → h'.get? b = some o)
    (ha : s.heap.get? a = none) (ho : OR h₀ as h' a po) : EP h₀ s as (.ref σ.length) (σ ++ [po]) (.ref a) { s with heap := h', toks := k } := by
  have fr := I.fresh ha
  refine ⟨as ++ [a], ⟨⟨[a], rfl, fun b hb => by rw [List.mem_singleton.mp hb]; exact ha⟩, fun b o _ _ e => hk b o e, fun b o e => ⟨o, hk b o e⟩, rfl, .refl _⟩, (I.keeps hk).add fr.1 fr.2 ho, a, rfl, ?_⟩
  rw [← I.len]; simp
theorem vr_int {h₀ : Heap} {as : List Addr} {i : Int} {t : Tok} : VR h₀ as (.int i t) (.int i) := ⟨t, rfl⟩
theorem vr_str {h₀ : Heap} {as : List Addr} {x : List Nat} {t : Tok} : VR h₀ as (.str ⟨x.toArray⟩ t) (.str x) := ⟨t, rfl⟩
theorem vr_bytes {h₀ : Heap} {as : List Addr} {x : List UInt8} {t : Tok} : VR h₀ as (.bytes x.toArray t) (.bytes x) := ⟨t, rfl⟩
theorem Inv.list {h₀ h : Heap} {as : List Addr} {σ : Sto} (I : Inv h₀ h as σ) {n : Nat} {vs : List PV} {a : Addr} (hl : listAt σ (.ref n) = some vs) (ha : as[n]? = some a) :
    ∃ its : List Value, Heap.PlainList h a its.toArray ∧ Paired (VR h₀ as) its vs := I.obj n a _ ha (listAt_eq hl)
theorem ints_are0 {h₀ : Heap} {as : List Addr} : ∀ {ns : List Int} {its : List Value}, Paired (VR h₀ as) its (ns.map .int) → IntsAre its ns
  | [], _, .nil => .nil
  | i :: _, _ :: _, .cons ⟨t, e⟩ ht => e ▸ .cons i t (ints_are0 ht)
theorem ints_are {h₀ : Heap} {as : List Addr} {vs : List PV} {its : List Value} {ns : List Int} (h : pvInts vs = some ns) (hp : Paired (VR h₀ as) its vs) : IntsAre its ns := ints_are0 (pvInts_map h ▸ hp)
section
variable {prog : Program} {w : World} {A : Around} {s : Shared} {h₀ : Heap} {as : List Addr} {σ σ' : Sto} {k : Nat}
theorem add_list0 {E : Value → Shared → Prop} {l b : Addr} {vs ws : List Value} {Q : Value → Shared → Prop} (hl : s.heap.IsList l vs.toArray) (hb : s.heap.IsList b ws.toArray)
    (h : Q (.ref s.heap.objs.size) { s with heap := s.heap.push { cls := .type "list", data := .seq (vs ++ ws).toArray } }) (hsz : vs.length + ws.length ≤ sizeLine) :
    wpAny (model prog w) A (binaryOp .Add (.ref l) (.ref b)) Q E s := by
  refine elEAAE (id hl) fun pt38x1 ho hc n hd => ?_
  obtain ⟨cls, dd, data, sl⟩ := pt38x1
  refine elEAAE (id hb) fun pt39x2 ho2 hc2 n2 hd2 => ?_
  obtain ⟨cls2, dd2, data2, sl2⟩ := pt39x2
  simp only at hc hd hc2 hd2
  subst hc hd hc2 hd2
  have e : vs.toArray ++ ws.toArray = (vs ++ ws).toArray := by simp
  refine concat_meets ⟨_, ho, rfl⟩ ⟨_, ho2, rfl⟩ noFill_list_add seq_list_add PySem.F.slot_list_add PySem.F.entry_list_add (PySem.F.args_list_add_2 _ _) (list_addW l b vs.toArray ws.toArray n n2 dd dd2 sl sl2 (by simpa using hsz)) ⟨ho, ho2, ?_⟩
  refine e.symm ▸ ?_
  exact h
theorem mul_list0 {E : Value → Shared → Prop} {l : Addr} {items : Array Value} {k : Nat} {x : Int} {u : Tok} {Q : Value → Shared → Prop}
    (hl : s.heap.get? l = some { cls := .type "list", dict := none, data := .seq items k, slots := #[] })
    (hlo : -(2 ^ 63 : Int) ≤ x) (hhi : x < 2 ^ 63) (hsz : items.size * x.toNat ≤ 2 ^ 24)
    (h : Q (.ref s.heap.objs.size) { s with heap := s.heap.push { cls := .type "list", data := .seq (List.foldl (fun x1 x2 => x1 ++ x2) #[] (List.replicate (if items.isEmpty = true then 0 else x.toNat) items)) } }) :
    wpAny (model prog w) A (binaryOp .Mult (.ref l) (.int x u)) Q E s :=
  wpAny_binaryOp_repeat_ref (T := "list") (U := "int") (by decide) ⟨_, hl, rfl⟩ (fun s' => typeIs_int s' x u) noFill_list_mul F.fills_int_mul F.slot_int_rmul repeat_list F.slot_int_index.lookup
    (call_meets F.slot_int_rmul (typeIs_int s x u) F.entry_int_rmul (F.args_int_rmul_2 _ _) (int___rmul___int_list x u l items k)
      ⟨hl, rfl, ⟨_, hl, rfl⟩, call_meets F.slot_list_mul ⟨_, hl, rfl⟩ F.entry_list_mul (F.args_list_mul_2 _ _)
        (AutoListH.list___mul___list_int_3 l items k x u (by simp [Builtin.List.listFitsIndex]; omega) (by omega) (by simp [Builtin.List.listTooLong, sizeLine]; omega))
        ⟨hl, h⟩⟩)
theorem foldl_rep (v : Value) : ∀ (n : Nat) (a : Array Value), (List.foldl (fun x1 x2 => x1 ++ x2) a (List.replicate n #[v])) = a ++ (List.replicate n v).toArray
  | 0, a => by simp
  | n + 1, a => by
    rw [List.replicate_succ, List.foldl_cons, foldl_rep v n, List.replicate_succ]
    apply Array.ext'
    simp
theorem paired_rep {h₀ : Heap} {as : List Addr} {v : Value} {p : PV} (h : VR h₀ as v p) : ∀ n : Nat, Paired (VR h₀ as) (List.replicate n v) (List.replicate n p)
  | 0 => .nil
  | n + 1 => .cons h (paired_rep h n)
theorem paired_append {α β : Type} {F : α → β → Prop} : ∀ {a : List α} {b : List β} {c : List α} {d : List β}, Paired F a b → Paired F c d → Paired F (a ++ c) (b ++ d)
  | _, _, _, _, .nil, h => h
  | _, _, _, _, .cons x t, h => .cons x (paired_append t h)
theorem paired_length {α β : Type} {F : α → β → Prop} : ∀ {a : List α} {b : List β}, Paired F a b → a.length = b.length
  | _, _, .nil => rfl
  | _, _, .cons _ t => by simp [paired_length t]
theorem binI_sound {op : Operator} {i j k : Int} {t u : Tok} (h : binI op i j = some k) (I : Inv h₀ s.heap as σ) : wpAny (model prog w) A (binaryOp op (.int i t) (.int j u)) (EP h₀ s as (.int k) σ) (fun _ _ => False) s := by
  cases op with
  | Add => cases h; exact PySem.P.add_int (EP.toks I vr_int)
  | Sub => cases h; exact PySem.P.sub_int (EP.toks I vr_int)
  | Mult =>
    refine iteE h fun hc zz => ?_
    clear h
    rename _ => h
    cases h
    exact PySem.P.mul_int (EP.toks I vr_int) (.of_left (intBits_le_64 (by omega) (by omega)))
  | Mod =>
    refine iteE h fun hc zz => ?_
    clear h
    rename _ => h
    cases h
    refine PyProof.Rows.mod_int' (by omega) ?_
    rw [Int.fmod_eq_emod_of_nonneg _ (by omega)]
    exact EP.toks I vr_int
  | FloorDiv =>
    refine iteE h fun hc zz => ?_
    clear h
    rename _ => h
    cases h
    refine PyProof.Rows.floordiv_int (by omega) ?_ (.inl (PyProof.noPylong_small (by omega)))
    rw [Int.fdiv_eq_ediv_of_nonneg _ (by omega)]
    exact EP.toks I vr_int
  | _ => cases h
theorem isAdd_ok {op : Operator} (h : isAdd op = true) : op = .Add := by
  cases op <;> first | rfl | cases h
theorem isMul_ok {op : Operator} (h : isMul op = true) : op = .Mult := by
  cases op <;> first | rfl | cases h
theorem addT_sound {x y : List Nat} {t u : Tok} (hc : x.length + y.length ≤ lim) (I : Inv h₀ s.heap as σ) : wpAny (model prog w) A (binaryOp .Add (.str ⟨x.toArray⟩ t) (.str ⟨y.toArray⟩ u)) (EP h₀ s as (.str (x ++ y)) σ) (fun _ _ => False) s := by
  refine PySem.P.add_str ?_
  have hx : (Str.mk x.toArray).length = x.length := rfl
  have hy : (Str.mk y.toArray).length = y.length := rfl
  rw [hx, hy]
  cases x with
  | nil => exact EP.same I vr_str
  | cons a x => cases y with
    | nil =>
      have : a :: x ++ [] = a :: x := List.append_nil _
      refine this.symm ▸ ?_
      exact EP.same I vr_str
    | cons b y =>
      have e : (Str.mk (a :: x).toArray ++ Str.mk (b :: y).toArray) = Str.mk (a :: x ++ b :: y).toArray := congrArg Str.mk (List.append_toArray ..)
      refine e.symm ▸ ?_
      exact ⟨Nat.le_trans (Nat.le_of_eq List.length_append) (Nat.le_trans hc (by decide)), EP.toks I vr_str⟩
theorem addL_sound {m n : Nat} {xs ys : List PV} {va vb : Value} (h1 : listAt σ (.ref m) = some xs) (h2 : listAt σ (.ref n) = some ys) (hc : xs.length + ys.length ≤ lim) (I : Inv h₀ s.heap as σ) (ha : VR h₀ as va (.ref m)) (hb : VR h₀ as vb (.ref n)) :
    wpAny (model prog w) A (binaryOp .Add va vb) (EP h₀ s as (.ref σ.length) (σ ++ [.list (xs ++ ys)])) (fun _ _ => False) s := by
  refine elEA ha fun l eq118x3 hl => ?_
  try clear ha
  subst eq118x3
  refine elEA hb fun r eq119x4 hr => ?_
  try clear hb
  subst eq119x4
  refine elEA (I.list h1 hl) fun is hi hiv => ?_
  refine elEA (I.list h2 hr) fun js hj hjv => ?_
  have e1 := paired_length hiv
  have e2 := paired_length hjv
  refine add_list0 hi.isList hj.isList (EP.new (k := s.toks) I (fun _ _ e => Heap.get?_push_of_some _ e) (Heap.get?_none_of_le (Nat.le_refl _)) ⟨is ++ js, ⟨0, Heap.get?_push_size _ rfl⟩, paired_append hiv hjv⟩) ?_
  rw [e1, e2]
  exact Nat.le_trans hc (by decide)
theorem mulL_sound {m : Nat} {v : PV} {k : Int} {va : Value} {u : Tok} (h1 : listAt σ (.ref m) = some [v]) (hc : 0 < k ∧ k ≤ 1000) (I : Inv h₀ s.heap as σ) (ha : VR h₀ as va (.ref m)) :
    wpAny (model prog w) A (binaryOp .Mult va (.int k u)) (EP h₀ s as (.ref σ.length) (σ ++ [.list (List.replicate k.toNat v)])) (fun _ _ => False) s := by
  refine elEA ha fun l eq129x5 hl => ?_
  try clear ha
  subst eq129x5
  refine elEA (I.list h1 hl) fun is pt130x6 hiv => ?_
  obtain ⟨n, hi⟩ := pt130x6
  cases hiv with
  | cons hv ht =>
    cases ht
    refine mul_list0 hi (by omega) (by omega) ?_ ?_
    · refine (?_ : 1 * k.toNat ≤ _)
      omega
    · refine EP.new (k := s.toks) I (fun _ _ e => Heap.get?_push_of_some _ e) (Heap.get?_none_of_le (Nat.le_refl _)) ⟨_, ⟨0, ?_⟩, paired_rep hv _⟩
      rw [Heap.get?_push_size _ rfl]
      refine (?_ : some _ = some _)
      rw [show (if (#[_] : Array Value).isEmpty = true then 0 else k.toNat) = k.toNat from rfl, foldl_rep]
      rw [List.append_toArray]; rfl
theorem binop_sound {op : Operator} {a b p : PV} {va vb : Value} (h : binop op a b σ = some (p, σ')) (I : Inv h₀ s.heap as σ) (ha : VR h₀ as va a) (hb : VR h₀ as vb b) :
    wpAny (model prog w) A (binaryOp op va vb) (EP h₀ s as p σ') (fun _ _ => False) s := by
  cases a with
  | int i => cases b with
    | int j =>
      refine mapE h fun k hk zz => ?_
      clear h
      rename _ => h
      cases h
      apply exE ha; intro t; clear ha
      apply exE hb; intro u; clear hb
      exact binI_sound hk I
    | _ => exact noE h
  | str x => cases b with
    | str y =>
      refine iteE h fun hc zz => ?_
      clear h
      rename _ => h
      apply spE h; clear h
      apply exE ha; intro t; clear ha
      apply exE hb; intro u; clear hb
      rw [isAdd_ok hc.1]
      exact addT_sound hc.2 I
    | _ => exact noE h
  | bytes x => cases b with
    | bytes y =>
      refine iteE h fun hc zz => ?_
      clear h
      rename _ => h
      apply spE h; clear h
      apply exE ha; intro t; clear ha
      apply exE hb; intro u; clear hb
      rw [isAdd_ok hc.1]
      refine PySem.W.KBy.add_bytes (Nat.le_trans hc.2 (by decide)) fun t' k => ?_
      have e : x.toArray ++ y.toArray = (x ++ y).toArray := List.append_toArray ..
      refine e.symm ▸ ?_
      exact EP.toks I vr_bytes
    | _ => exact noE h
  | ref m => cases b with
    | ref n =>
      refine iteE h fun hop zz => ?_
      clear h
      refine bindE zz fun xs h1 h => ?_
      clear zz
      refine bindE h fun ys h2 zz => ?_
      clear h
      refine iteE zz fun hc h => ?_
      clear zz
      apply spE h; clear h
      rw [isAdd_ok hop]
      exact addL_sound h1 h2 hc I ha hb
    | int k =>
      refine iteE h fun hop zz => ?_
      clear h
      refine bindE zz fun vs h1 h => ?_
      clear zz
      refine bindE h fun v h2 zz => ?_
      clear h
      refine iteE zz fun hc h => ?_
      clear zz
      apply spE h; clear h
      apply exE hb; intro u; clear hb
      rw [isMul_ok hop]
      exact mulL_sound (one1_some h2 ▸ h1) hc I ha
    | _ => exact noE h
  | _ => exact noE h
end
end Mine.Internal
end
section
set_option backward.match.sparseCases false
namespace Mine.Internal
open PySem PyProof.Rows
theorem paired_get {α β : Type} {F : α → β → Prop} {a : List α} {b : List β} (h : Paired F a b) : ∀ {i : Nat} {y : β}, b[i]? = some y → ∃ x, a[i]? = some x ∧ F x y := by
  induction h with
  | nil => exact fun e => nomatch e
  | cons x t ih =>
    intro i y e
    cases i with
    | zero => cases e; exact ⟨_, rfl, x⟩
    | succ i => exact ih (i := i) e
theorem paired_getL {α β : Type} {F : α → β → Prop} {a : List α} {b : List β} (h : Paired F a b) : ∀ {i : Nat} {x : α}, a[i]? = some x → ∃ y, b[i]? = some y ∧ F x y := by
  induction h with
  | nil => exact fun e => nomatch e
  | cons x t ih =>
    intro i y e
    cases i with
    | zero => cases e; exact ⟨_, rfl, x⟩
    | succ i => exact ih (i := i) e
section
variable {prog : Program} {w : World} {A : Around} {s : Shared} {h₀ : Heap} {as : List Addr} {σ σ' : Sto} {k : Nat}
theorem range_all_eq {a b : List (List Nat)} (hl : a.length = b.length) : ((List.range a.length).all fun j => (a.getD j []) == (b.getD j [])) = (a == b) := by
  rw [Bool.eq_iff_iff, List.all_eq_true, beq_iff_eq]
  constructor
  · intro h
    apply List.ext_getElem hl
    intro i h1 h2
    have := h i (List.mem_range.mpr h1)
    simp only [List.getD_eq_getElem?_getD, beq_iff_eq, List.getElem?_eq_getElem h1, List.getElem?_eq_getElem h2, Option.getD_some] at this
    exact this
  · rintro rfl i _
    simp
theorem eq_strs0 {E : Value → Shared → Prop} {a b : Addr} {xs ys : List Value} {ns ms : List (List Nat)} {Q : Value → Shared → Prop}
    (ha : s.heap.IsList a xs.toArray) (hb : s.heap.IsList b ys.toArray) (hi : Paired (VR h₀ as) xs (ns.map .str)) (hj : Paired (VR h₀ as) ys (ms.map .str)) (hu : A.units < cLine)
    (h : Q (.bool (ns == ms)) s) : wpAny (model prog w) A (compareOp .Eq (.ref a) (.ref b)) Q E s := by
  have e1 := paired_length hi
  have e2 := paired_length hj
  simp only [List.length_map] at e1 e2
  by_cases hl : ns.length = ms.length
  · refine PySem.SeqAt.eq_listAt (e := fun j => (ns.getD j []) == (ms.getD j [])) ha hb (by simp [e1, e2, hl]) hu (fun j h1 h2 => ?_) ?_
    · simp only [List.size_toArray] at h1 h2
      have q1 : ns[j]? = some (ns.getD j []) := by simp [List.getElem?_eq_getElem (e1 ▸ h1)]
      have q2 : ms[j]? = some (ms.getD j []) := by simp [List.getElem?_eq_getElem (e2 ▸ h2)]
      obtain ⟨v, hv, t, rfl⟩ := paired_get hi (i := j) (y := .str (ns.getD j [])) (by rw [List.getElem?_map, q1]; rfl)
      obtain ⟨u, hu', t', rfl⟩ := paired_get hj (i := j) (y := .str (ms.getD j [])) (by rw [List.getElem?_map, q2]; rfl)
      have g1 : xs.toArray[j] = Value.str ⟨(ns.getD j []).toArray⟩ t := by simpa [List.getElem?_eq_getElem h1] using hv
      have g2 : ys.toArray[j] = Value.str ⟨(ms.getD j []).toArray⟩ t' := by simpa [List.getElem?_eq_getElem h2] using hu'
      rw [g1, g2]
      exact (PySem.SeqRoads2.EqGives.str _ _ t t').at _ _
    · rw [List.size_toArray, e1, range_all_eq hl]; exact h
  · refine PySem.SeqAt.eq_list_lengthsAt ha hb (by simp [e1, e2, hl]) hu ?_
    have : (ns == ms) = false := by
      cases q : ns == ms with
      | false => rfl
      | true => exact absurd (congrArg List.length (beq_iff_eq.mp q)) hl
    rw [this] at h; exact h
noncomputable abbrev CP (r : Bool) (s : Shared) (v : Value) (s' : Shared) : Prop := v = .bool r ∧ s' = s
theorem cmpI_sound {op : CmpOp} {i j : Int} {t u : Tok} {r : Bool} (h : cmpI op i j = some r) : wpAny (model prog w) A (compareOp op (.int i t) (.int j u)) (CP r s) (fun _ _ => False) s := by
  cases op with
  | Eq => cases h; exact PySem.P.eq_int ⟨rfl, rfl⟩
  | NotEq => cases h; exact PySem.P.ne_int ⟨rfl, rfl⟩
  | Lt => cases h; exact PySem.P.lt_int ⟨rfl, rfl⟩
  | Gt => cases h; exact PySem.P.gt_int ⟨rfl, rfl⟩
  | LtE => cases h; exact PySem.P.le_int ⟨rfl, rfl⟩
  | GtE => cases h; exact PySem.P.ge_int ⟨rfl, rfl⟩
  | _ => cases h
theorem cmpT_sound {op : CmpOp} {x y : List Nat} {t u : Tok} {r : Bool} (h : cmpT op x y = some r) : wpAny (model prog w) A (compareOp op (.str ⟨x.toArray⟩ t) (.str ⟨y.toArray⟩ u)) (CP r s) (fun _ _ => False) s := by
  cases op with
  | Eq => cases h; exact PySem.P.eq_str ⟨rfl, rfl⟩
  | NotEq => cases h; exact PySem.P.ne_str ⟨rfl, rfl⟩
  | NotIn =>
    refine mapE h fun c hc zz => ?_
    clear h
    rename _ => h
    rw [one1_some hc]
    subst h
    refine PySem.P.notIn_str ⟨?_, rfl⟩
    have := PySem.StrLaws.found_one (Str.mk y.toArray) c
    refine congrArg (fun b => Value.bool !b) (Eq.trans this ?_)
    exact (List.contains_eq_mem c y).symm
  | _ => cases h
theorem cmpB_sound {op : CmpOp} {x y : List UInt8} {t u : Tok} {r : Bool} (h : cmpB op x y = some r) : wpAny (model prog w) A (compareOp op (.bytes x.toArray t) (.bytes y.toArray u)) (CP r s) (fun _ _ => False) s := by
  cases op with
  | Eq => cases h; exact PySem.W.eq_bytes ⟨rfl, rfl⟩
  | NotEq => cases h; exact PySem.W.ne_bytes ⟨rfl, rfl⟩
  | _ => cases h
theorem lim_lt (hA : AOk k A) : A.units + 64 < cLine := by have := hA.2.2; unfold cLine; omega
theorem beq_iff (x y : List Int) : decide (x = y) = (x == y) := by
  rw [Bool.eq_iff_iff]; simp
theorem cmpL_sound {op : CmpOp} {m n : Nat} {xs ys : List PV} {va vb : Value} {r : Bool} (h : cmpL op m n xs ys = some r) (h1 : listAt σ (.ref m) = some xs) (h2 : listAt σ (.ref n) = some ys) (I : Inv h₀ s.heap as σ) (ha : VR h₀ as va (.ref m)) (hb : VR h₀ as vb (.ref n)) (hA : AOk k A) :
    wpAny (model prog w) A (compareOp op va vb) (CP r s) (fun _ _ => False) s := by
  have hu := lim_lt hA
  refine elEA ha fun l eq98x1 hl => ?_
  try clear ha
  subst eq98x1
  refine elEA hb fun q eq99x2 hq => ?_
  try clear hb
  subst eq99x2
  refine elEA (I.list h1 hl) fun is hi hiv => ?_
  refine elEA (I.list h2 hq) fun js hj hjv => ?_
  cases op with
  | Eq =>
    refine orE h (fun h => bindE h fun a e1 h => mapE h fun b e2 h => ?_) (fun h => bindE h fun a e1 h => mapE h fun b e2 h => ?_)
    · subst h
      exact PySem.W.ke_eq_ints hi.isList hj.isList (ints_are e1 hiv) (ints_are e2 hjv) hu ⟨congrArg Value.bool (beq_iff a b), rfl⟩
    · subst h
      exact eq_strs0 (h₀ := h₀) (as := as) hi.isList hj.isList (pvStrs_map e1 ▸ hiv) (pvStrs_map e2 ▸ hjv) hA.units ⟨rfl, rfl⟩
  | NotEq =>
    refine bindE h fun a e1 zz => ?_
    clear h
    refine mapE zz fun b e2 h => ?_
    clear zz
    subst h
    exact PySem.W.ke_ne_ints hi.isList hj.isList (ints_are e1 hiv) (ints_are e2 hjv) hu ⟨congrArg (fun x => Value.bool !x) (beq_iff a b), rfl⟩
  | IsNot =>
    cases h
    obtain ⟨n1, hi⟩ := hi
    obtain ⟨n2, hj⟩ := hj
    by_cases e : m = n
    · subst e
      rw [hl] at hq; cases hq
      exact wpAny_isNot_ref_self ⟨congrArg Value.bool (by simp), rfl⟩
    · refine wpAny_isNot_ref_other (fun q' => e ?_) hi hj (show Value.type "list" ≠ Value.type "tuple" by decide) ⟨congrArg Value.bool (bne_iff_ne.mpr e).symm, rfl⟩
      subst q'
      obtain ⟨g1, e1⟩ := List.getElem?_eq_some_iff.mp hl
      obtain ⟨g2, e2⟩ := List.getElem?_eq_some_iff.mp hq
      have pw := List.pairwise_iff_getElem.mp I.nd
      rcases Nat.lt_trichotomy m n with q | q | q
      · exact absurd (e1.trans e2.symm) (pw m n g1 g2 q)
      · exact q
      · exact absurd (e2.trans e1.symm) (pw n m g2 g1 q)
  | _ => cases h
theorem any_bool {b : Bool} : ∀ {bs : List Bool} {is : List Value}, Paired (VR h₀ as) is (bs.map .bool) → is.any (fun v => v == .bool b) = bs.contains b
  | [], _, .nil => rfl
  | c :: bs, _ :: is, .cons hv ht => by
    cases hv
    rw [List.any_cons, any_bool ht, List.contains_cons]
    cases c <;> cases b <;> rfl
theorem inB_sound {b : Bool} {n : Nat} {vs : List PV} {bs : List Bool} {vb : Value} (h1 : listAt σ (.ref n) = some vs) (h2 : pvBools vs = some bs) (I : Inv h₀ s.heap as σ) (hb : VR h₀ as vb (.ref n)) :
    wpAny (model prog w) A (compareOp .In (.bool b) vb) (CP (bs.contains b) s) (fun _ _ => False) s := by
  refine elEA hb fun q eq139x3 hq => ?_
  try clear hb
  subst eq139x3
  refine elEA (I.list h1 hq) fun is hi hiv => ?_
  have hmap := pvBools_map h2
  subst hmap
  refine PySem.SeqAt.in_listAt (fun v => v == .bool b) hi.isList (fun y hy => ?_) ⟨congrArg Value.bool (Eq.trans List.any_toArray (any_bool hiv)), rfl⟩
  obtain ⟨i, hi', he⟩ := List.getElem_of_mem (List.mem_toArray.mp hy)
  refine elEA (paired_getL hiv (List.getElem?_eq_getElem hi')) fun p hp hv => ?_
  rw [List.getElem?_map] at hp
  refine mapE hp fun c hc zz => ?_
  clear hp
  rename _ => hp
  subst hp
  rw [he] at hv
  cases hv
  have := PySem.SeqAt.EqAt.bool_bool (A := A.in1) (s := s) c b
  have e2 : (Value.bool c == Value.bool b) = (c == b) := by cases c <;> cases b <;> rfl
  rw [e2]; exact this
theorem isIs_ok {op : CmpOp} (h : isIs op = true) : op = .Is := by cases op <;> first | rfl | cases h
theorem isNo_ok {op : CmpOp} (h : isNo op = true) : op = .IsNot := by cases op <;> first | rfl | cases h
theorem isIn_ok {op : CmpOp} (h : isIn op = true) : op = .In := by cases op <;> first | rfl | cases h
theorem cmpop_sound {op : CmpOp} {a b : PV} {r : Bool} {va vb : Value} (h : cmpop op a b σ = some r) (I : Inv h₀ s.heap as σ) (ha : VR h₀ as va a) (hb : VR h₀ as vb b) (hA : AOk k A) :
    wpAny (model prog w) A (compareOp op va vb) (CP r s) (fun _ _ => False) s := by
  cases a with
  | int i => cases b with
    | int j =>
      apply exE ha; intro t; clear ha
      apply exE hb; intro u; clear hb
      exact cmpI_sound h
    | none =>
      refine iteE h fun hop zz => ?_
      clear h
      rename _ => h
      cases h
      apply exE ha; intro t; clear ha
      cases hb
      rw [isIs_ok hop]
      exact wpAny_is_plain rfl ⟨rfl, rfl⟩
    | _ => exact noE h
  | str x => cases b with
    | str y =>
      apply exE ha; intro t; clear ha
      apply exE hb; intro u; clear hb
      exact cmpT_sound h
    | _ => exact noE h
  | bytes x => cases b with
    | bytes y =>
      apply exE ha; intro t; clear ha
      apply exE hb; intro u; clear hb
      exact cmpB_sound h
    | _ => exact noE h
  | ref m => cases b with
    | ref n => exact bindE h fun xs h1 h => bindE h fun ys h2 h => cmpL_sound h h1 h2 I ha hb hA
    | _ => exact noE h
  | none => cases b with
    | none =>
      refine iteE h fun hop zz => ?_
      clear h
      rename _ => h
      cases h
      cases ha
      cases hb
      rw [isIs_ok hop]
      exact wpAny_is_plain rfl ⟨rfl, rfl⟩
    | _ => exact noE h
  | bool c => cases b with
    | bool d =>
      refine iteE h fun hop zz => ?_
      clear h
      rename _ => h
      cases h
      cases ha
      cases hb
      rw [isNo_ok hop]
      refine wpAny_isNot_plain rfl ⟨?_, rfl⟩
      cases c <;> cases d <;> rfl
    | ref n =>
      refine iteE h fun hop zz => ?_
      clear h
      refine bindE zz fun vs h1 h => ?_
      clear zz
      refine mapE h fun bs h2 zz => ?_
      clear h
      rename _ => h
      subst h
      cases ha
      rw [isIn_ok hop]
      exact inB_sound h1 h2 I hb
    | _ => exact noE h
  | _ => exact noE h
end
end Mine.Internal
end
section
set_option backward.match.sparseCases false
namespace Mine.Internal
open PySem PyProof.Rows
theorem cut_eq {α : Type} (l : List α) (lo hi : Option Int) (h1 : lo.all (0 ≤ ·) = true) (h2 : hi.all (0 ≤ ·) = true) :
    (l.drop (lo.elim 0 (clipAt l.length))).take (hi.elim l.length (clipAt l.length) - lo.elim 0 (clipAt l.length)) = cut lo hi l := by
  have key : ∀ x : Int, 0 ≤ x → clipAt l.length x = min x.toNat l.length := fun x hx => by
    apply exE (Int.eq_ofNat_of_zero_le hx); intro n
    rw [clipAt_nat]; simp
  cases lo with
  | none =>
    cases hi with
    | none => simp [cut]
    | some y =>
      have hy : 0 ≤ y := by simpa using h2
      simp only [Option.elim, key y hy, cut, List.drop_zero, Nat.sub_zero]
      by_cases q : y.toNat ≤ l.length
      · rw [Nat.min_eq_left q]
      · rw [Nat.min_eq_right (by omega), List.take_of_length_le (Nat.le_refl _), List.take_of_length_le (by omega)]
  | some x =>
    have hx : 0 ≤ x := by simpa using h1
    cases hi with
    | none =>
      simp only [Option.elim, key x hx, cut]
      rw [List.take_of_length_le (by simp)]
      by_cases q : x.toNat ≤ l.length
      · rw [Nat.min_eq_left q]
      · rw [Nat.min_eq_right (by omega), List.drop_of_length_le (Nat.le_refl _), List.drop_of_length_le (by omega)]
    | some y =>
      have hy : 0 ≤ y := by simpa using h2
      simp only [Option.elim, key x hx, key y hy, cut]
      rw [List.drop_take]
      by_cases q : x.toNat ≤ l.length
      · rw [Nat.min_eq_left q]
        by_cases q' : y.toNat ≤ l.length
        · rw [Nat.min_eq_left q']
        · rw [Nat.min_eq_right (by omega), List.take_of_length_le (by simp), List.take_of_length_le (by simp; omega)]
      · rw [Nat.min_eq_right (Nat.le_of_lt (Nat.lt_of_not_le q)), List.drop_of_length_le (Nat.le_refl _), List.drop_of_length_le (Nat.le_of_lt (Nat.lt_of_not_le q))]
        simp
theorem paired_take {α β : Type} {F : α → β → Prop} : ∀ {a : List α} {b : List β} (n : Nat), Paired F a b → Paired F (a.take n) (b.take n)
  | _, _, 0, _ => by simpa using Paired.nil
  | _, _, _ + 1, .nil => .nil
  | _, _, n + 1, .cons x t => .cons x (paired_take n t)
theorem paired_drop {α β : Type} {F : α → β → Prop} : ∀ {a : List α} {b : List β} (n : Nat), Paired F a b → Paired F (a.drop n) (b.drop n)
  | _, _, 0, h => by simpa using h
  | _, _, _ + 1, .nil => .nil
  | _, _, n + 1, .cons _ t => paired_drop n t
theorem paired_cut {α β : Type} {F : α → β → Prop} {a : List α} {b : List β} (lo hi : Option Int) (h : Paired F a b) : Paired F (cut lo hi a) (cut lo hi b) := by
  cases lo <;> cases hi <;> simp only [cut]
  · exact h
  · exact paired_take _ h
  · exact paired_drop _ h
  · exact paired_drop _ (paired_take _ h)
theorem paired_reverse {α β : Type} {F : α → β → Prop} : ∀ {a : List α} {b : List β}, Paired F a b → Paired F a.reverse b.reverse
  | _, _, .nil => .nil
  | _, _, .cons x t => by simp only [List.reverse_cons]; exact paired_append (paired_reverse t) (.cons x .nil)
theorem paired_ints {h₀ : Heap} {as : List Addr} : ∀ {vs : List Value} {ns : List Int}, IntsAre vs ns → Paired (VR h₀ as) vs (ns.map .int)
  | _, _, .nil => .nil
  | _, _, .cons n t r => .cons ⟨t, rfl⟩ (paired_ints r)
section
variable {prog : Program} {w : World} {A : Around} {s : Shared} {h₀ : Heap} {as : List Addr} {σ σ' : Sto} {k : Nat}
theorem subscripted_ops (slice : Expr) (o i : Value) : ∃ ops, subscripted slice false o i = operate ops (getItem o i) := by
  cases slice with
  | Slice lo hi st p => cases st with
    | none => exact ⟨_, rfl⟩
    | some _ => exact ⟨_, rfl⟩
  | _ => exact ⟨_, rfl⟩
theorem tail0 {E : Value → Shared → Prop} {value slice : Expr} {o i : Value} {T id : String} {Q : Value → Shared → Prop} (hT : s.TypeIs o T)
    (hl : typeLookup (.type T) "__getitem__" = pure (some (.builtin id))) (h : wpAny (model prog w) A (getItem o i) Q E s) :
    wpAny (model prog w) A (subscriptTail value slice o i) Q E s := by
  skip
  obtain ⟨ops, hs⟩ := subscripted_ops slice o i
  refine wpAny_bind ?_
  rw [getitemInPython_of_ne hT.not_modules]
  refine wpAny_bind (wpAny_specialOf hT hl ?_)
  have fin : wpAny (model prog w) A (subscripted slice false o i) (fun r s₃ => wpAny (model prog w) A (letTemporaryGo value o r >>= fun _ => pure r) Q E s₃) E s := by
    refine hs.symm ▸ ?_
    exact wpAny_operating (wpAny_mono h (fun r s₃ h₃ => wpAny_bind (wpAny_letTemporaryGo (wpAny_pure h₃))) fun _ _ x => x)
  first
    | exact wpAny_pure (wpAny_bind fin)
    | exact wpAny_bind (wpAny_pure (wpAny_bind fin))
    | exact wpAny_bind fin
theorem itemL_sound {value slice : Expr} {n : Nat} {vs : List PV} {p : PV} {i : Int} {t : Tok} {vo : Value} (hv : listAt σ (.ref n) = some vs) (hlen : vs.length ≤ lim) (h : (if 0 ≤ i then vs[i.toNat]? else if -(vs.length : Int) ≤ i then vs[(vs.length + i).toNat]? else none) = some p) (I : Inv h₀ s.heap as σ) (ho : VR h₀ as vo (.ref n)) :
    wpAny (model prog w) A (subscriptTail value slice vo (.int i t)) (EP h₀ s as p σ) (fun _ _ => False) s := by
  refine elEA ho fun a eq91x1 ha => ?_
  try clear ho
  subst eq91x1
  refine elEA (I.list hv ha) fun its hp hvs => ?_
  have hl := paired_length hvs
  unfold lim at hlen
  refine tail0 hp.isList.typeIs list_getitem_lookup (ite2 h (fun h0 h => ?_) fun h0 h => iteE h fun h1 h => ?_)
  · refine elEA (paired_get hvs h) fun x hx hvr => ?_
    have hlt := (List.getElem?_eq_some_iff.mp h).1
    exact wpAny_getItem_list hp.isList h0 (by omega) (Eq.trans List.getElem?_toArray hx) (EP.same I hvr)
  · refine elEA (paired_get hvs h) fun x hx hvr => ?_
    refine wpAny_getItem_list_neg (x := x) hp.isList (by omega) (by rw [List.size_toArray]; omega) (by omega) ?_ (EP.same I hvr)
    rw [List.size_toArray, List.getElem?_toArray, hl, Int.add_comm]; exact hx
theorem item_sound {value slice : Expr} {o p : PV} {i : Int} {t : Tok} {vo : Value} (h : itemAt o i σ = some p) (I : Inv h₀ s.heap as σ) (ho : VR h₀ as vo o) :
    wpAny (model prog w) A (subscriptTail value slice vo (.int i t)) (EP h₀ s as p σ) (fun _ _ => False) s := by
  cases o with
  | ref n => exact bindE h fun vs hv h => iteE h fun hlen h => itemL_sound hv hlen h I ho
  | bytes x =>
    refine iteE h fun hc zz => ?_
    clear h
    refine mapE zz fun c hx h => ?_
    clear zz
    subst h
    apply exE ho; intro u; clear ho
    have hlt := (List.getElem?_eq_some_iff.mp hx).1
    unfold lim at hc
    have : x.getD i.toNat 0 = c := by rw [List.getD_eq_getElem?_getD, hx]; rfl
    refine tail0 (PySem.W.typeIs_bytes s _ u) PySem.W.FB.slot_bytes_getitem.lookup (PySem.W.getItem_bytes (by omega) hc.1 (by omega) (EP.toks I ?_))
    rw [this]; exact vr_int
  | _ => exact noE h
theorem part_none : IsPart .none none := .none
theorem reverse_sliced (b : Array UInt8) : Builtin.Bytes.sliced b (sliceBounds none none (some (-1)) b.size).1 (sliceBounds none none (some (-1)) b.size).2.1 (sliceBounds none none (some (-1)) b.size).2.2 = b.toList.reverse.toArray := by
  rw [PySem.W.krv_bounds]
  unfold Builtin.Bytes.sliced
  simp only
  rw [PySem.W.krv_sliceRange]
  rw [PySem.W.krv_range, List.filterMap_reverse, PySem.W.krv_all]
open Builtin in
theorem meets_rev (b : Array UInt8) (t : Tok) (a : Addr) (u : Tok) :
    Meets («bytes.__getitem__» ⟨[.bytes b t, .ref a], []⟩) (fun _ R s => s.heap.IsSliceOf a .none .none (.int (-1) u) ∧ b.size ≤ sizeLine ∧ ∀ t' k, R (.ok (.ret (.bytes b.toList.reverse.toArray t'))) { s with toks := k }) := by
  refine .of_wp fun prog w A R s hS => ?_
  refine elAA hS fun pt130x2 hsz h => ?_
  try clear hS
  obtain ⟨o, ho, hc, hd⟩ := pt130x2
  have hT : s.TypeIs (.ref a) "slice" := ⟨o, ho, hc⟩
  refine (?_ : wpAny _ _ (Bytes.payload (.bytes b t) >>= fun r => _) _ _ s)
  refine wpAny_bind (wpAny_of_eq (a := b) rfl ?_)
  refine (?_ : wpAny _ _ (Bytes.subscript? (.ref a) >>= fun r => _) _ _ s)
  refine wpAny_bind ?_
  skip
  refine wpAny_bind (wpAny_specialOf hT slice_no_index (wpAny_pure ?_))
  refine wpAny_bind (wpAny_typeOf hT ?_)
  refine (?_ : wpAny _ _ (Bytes.sliceParts (.ref a) >>= fun r => _) _ _ s)
  refine wpAny_bind ?_
  skip
  refine wpAny_bind (wpAny_field (x := .int (-1) u) ho hd rfl ?_)
  (refine wpAny_bind (wpAny_ite (PySem.W.KBy.ite_no (show ¬ ((Value.int _ _ == Value.none) = true) from Bool.false_ne_true) ?_))); (refine wpAny_bind (wpAny_specialOf (T := "int") (typeIs_int _ _ _) F.slot_int_index.lookup ?_)); (refine wpAny_ite (PySem.W.KBy.ite_no (show ¬ (Option.isNone (some _) = true) from Bool.false_ne_true) ?_)); (refine wpAny_bind (wpAny_of_eq rfl (wpAny_pure ?_)))
  refine wpAny_ite (PySem.W.KBy.ite_no (show ¬ ((rawInt (-1) == rawInt 0) = true) from by decide) ?_)
  refine wpAny_bind (wpAny_field (x := .none) ho hd rfl ?_)
  have go : wpAny (model prog w) A.in1 (sliceIndices (rawPart none) (rawPart none) (rawPart (some (-1))) b.size) (fun r s' => r = sliceBounds none none (some (-1)) b.size ∧ s' = s) (fun _ _ => False) s :=
    wpAny_of_eq (sliceIndices_raw none none (some (-1)) b.size (fun e => by cases e)) ⟨rfl, rfl⟩
  refine wpAny_bind (wpAny_of_eq (a := Value.none) rfl ?_)
  refine wpAny_bind (wpAny_field (x := .none) ho hd rfl ?_)
  refine wpAny_bind (wpAny_of_eq (a := Value.none) rfl ?_)
  refine wpAny_pure ?_
  refine wpAny_bind (wpAny_mono go (fun r s' hr => ?_) fun _ _ e => e.elim)
  obtain ⟨hr1, hr2⟩ := hr
  subst hr1 hr2
  have hw : ((sliceBounds none none (some (-1)) b.size).1 == 0 && (sliceBounds none none (some (-1)) b.size).2.2 == 1 && (sliceBounds none none (some (-1)) b.size).2.1 == b.size && !b.isEmpty) = false := by
    rw [PySem.W.krv_bounds]
    simp
  have hn := ne_true_of_eq_false hw
  refine wpAny_ite (PySem.W.KBy.ite_no hn ?_)
  have hb := reverse_sliced b
  rw [← hb] at h
  have hz : (Builtin.Bytes.sliced b (sliceBounds none none (some (-1)) b.size).1 (sliceBounds none none (some (-1)) b.size).2.1 (sliceBounds none none (some (-1)) b.size).2.2).size ≤ sizeLine := by
    rw [hb]; simpa using hsz
  exact wpAny_bind (wpAny_mkBytes (wpAny_pure ⟨_, rfl, h _ _⟩) hz)
noncomputable abbrev slS (s : Shared) (vl vu vk : Value) : Shared := { s with heap := s.heap.push { cls := .type "slice", data := .fields #[vl, vu, vk] } }
theorem keep2 {o1 o2 : Obj} (b : Addr) (o : Obj) (e : s.heap.get? b = some o) : ((s.heap.push o1).push o2).get? b = some o := Heap.get?_push_of_some _ (Heap.get?_push_of_some _ e)
theorem pick_eq {its : List Value} {lo hi : Option Int} {rev : Bool} (hlo : lo.all (0 ≤ ·) = true) (hhi : hi.all (0 ≤ ·) = true) (hrev : rev = true → lo = none ∧ hi = none) : slicePick its.toArray lo hi (if rev then some (-1) else none) = (if rev then its.reverse else cut lo hi its).toArray := by
  cases rev with
  | true =>
    obtain ⟨rfl, rfl⟩ := hrev rfl
    exact PySem.W.krv_pick ..
  | false =>
    refine (slicePick_plain ..).trans ?_
    exact congrArg List.toArray (cut_eq its lo hi hlo hhi)
theorem slcV_sound {value slice : Expr} {a : Addr} {its : List Value} {ps : List PV} {lo hi : Option Int} {rev : Bool} {vl vu vk : Value} (I : Inv h₀ s.heap as σ) (hp : s.heap.IsList a its.toArray) (hz : its.length ≤ sizeLine) (hlo : lo.all (0 ≤ ·) = true) (hhi : hi.all (0 ≤ ·) = true) (hrev : rev = true → lo = none ∧ hi = none)
    (pl : IsPart vl lo) (pu : IsPart vu hi) (pk : IsPart vk (if rev then some (-1) else none)) (hr : Paired (VR h₀ as) (if rev then its.reverse else cut lo hi its) ps) :
    wpAny (model prog w) A (subscriptTail value slice (.ref a) (.ref s.heap.objs.size)) (EP h₀ s as (.ref σ.length) (σ ++ [.list ps])) (fun _ _ => False) (slS s vl vu vk) := by
  have hp' : (slS s vl vu vk).heap.IsList a its.toArray := hp.push _
  refine tail0 (Heap.IsList.typeIs (s := slS s vl vu vk) hp') list_getitem_lookup
    (wpAny_getItem_list_slice (s := slS s vl vu vk) hp' (Heap.IsSliceOf.new ..) pl pu pk (by cases rev <;> exact fun e => nomatch e) ?_ hz)
  refine EP.new (k := s.toks) I keep2 (Heap.get?_none_of_le (by simp)) ⟨if rev then its.reverse else cut lo hi its, ⟨0, ?_⟩, hr⟩
  rw [Heap.get?_push_size _ rfl, pick_eq hlo hhi hrev]
theorem slcB_sound {value slice : Expr} {x : List UInt8} {t : Tok} {lo hi : Option Int} {rev : Bool} {vl vu vk : Value} (I : Inv h₀ s.heap as σ) (hlen : x.length ≤ lim) (hlo : lo.all (0 ≤ ·) = true) (hhi : hi.all (0 ≤ ·) = true) (hrev : rev = true → lo = none ∧ hi = none)
    (pl : IsPart vl lo) (pu : IsPart vu hi) (hk : (rev = false ∧ vk = .none) ∨ (rev = true ∧ ∃ u, vk = .int (-1) u)) :
    wpAny (model prog w) A (subscriptTail value slice (.bytes x.toArray t) (.ref s.heap.objs.size)) (EP h₀ s as (.bytes (if rev then x.reverse else cut lo hi x)) σ) (fun _ _ => False) (slS s vl vu vk) := by
  have hT : Shared.TypeIs (slS s vl vu vk) (.bytes x.toArray t) "bytes" := rfl
  have hz : x.length ≤ sizeLine := Nat.le_trans hlen (by decide)
  rcases hk with ⟨rfl, rfl⟩ | ⟨rfl, u, rfl⟩
  · refine tail0 hT PySem.W.FB.slot_bytes_getitem.lookup (getItem_meets hT (by decide) PySem.W.FB.slot_bytes_getitem PySem.W.FB.entry_bytes_getitem (PySem.W.FB.args_bytes_getitem_2 _ _) (PySem.W.KBc.meets_slice2 x.toArray t _ pl pu)
      ⟨Heap.IsSliceOf.new _ _ _ _, Nat.le_trans (PySem.W.KBc.size_picked_le _ lo hi) hz, fun t' k => ?_⟩)
    rw [PySem.W.KBc.picked_eq]
    have := cut_eq x lo hi hlo hhi
    rw [List.size_toArray, this]
    exact EP.heap I (fun _ _ e => Heap.get?_push_of_some _ e) vr_bytes
  · obtain ⟨rfl, rfl⟩ := hrev rfl
    cases pl; cases pu
    exact tail0 hT PySem.W.FB.slot_bytes_getitem.lookup (getItem_meets hT (by decide) PySem.W.FB.slot_bytes_getitem PySem.W.FB.entry_bytes_getitem (PySem.W.FB.args_bytes_getitem_2 _ _) (meets_rev x.toArray t _ u)
      ⟨Heap.IsSliceOf.new _ _ _ _, hz, fun t' k => EP.heap I (fun _ _ e => Heap.get?_push_of_some _ e) vr_bytes⟩)
theorem heldP (n : Nat) : KeptH (fun h' : Heap => (∀ b o, s.heap.get? b = some o → h'.get? b = some o) ∧ n ≤ h'.objs.size) := fun h ob q => ⟨fun b o e => Heap.get?_push_of_some _ (q.1 b o e), by simp; exact Nat.le_succ_of_le q.2⟩
theorem slcS_sound {value slice : Expr} {x : List Nat} {t : Tok} {a b : Int} {vl vu : Value} (I : Inv h₀ s.heap as σ) (hc1 : x.length ≤ lim) (ha : 0 ≤ a) (hc2 : a ≤ b) (hc3 : b ≤ x.length) (pl : IsPart vl (some a)) (pu : IsPart vu (some b)) :
    wpAny (model prog w) A (subscriptTail value slice (.str ⟨x.toArray⟩ t) (.ref s.heap.objs.size)) (EP h₀ s as (.str (cut (some a) (some b) x)) σ) (fun _ _ => False) (slS s vl vu .none) := by
  cases pl; cases pu
  obtain ⟨T, id, hl, hT', hg⟩ := SBH.sliceItem_ss (prog := prog) (w := w) (A := A) (E := fun _ _ => False) (s := s) (x := Str.mk x.toArray) (t := t) (i := a) (j := b)
    (Q := EP h₀ s as (.str (cut (some a) (some b) x)) σ) (heldP s.heap.objs.size) ⟨fun _ _ e => e, Nat.le_refl _⟩ (fun h' t' k q => by
      have e := eq_of_beq (slice_closes (x := Str.mk x.toArray) (i := a) (j := b) ⟨ha, hc2, hc3⟩)
      refine e.symm ▸ ?_
      have e2 : ((Str.mk x.toArray).cps.toList.drop a.toNat).take (b - a).toNat = cut (some a) (some b) x := by
        refine (?_ : (x.drop a.toNat).take (b - a).toNat = (x.take b.toNat).drop a.toNat)
        rw [List.drop_take]
        exact congrArg (fun n => (x.drop a.toNat).take n) (by omega)
      refine e2.symm ▸ ?_
      exact EP.heap I q.1 vr_str) (Nat.le_trans hc1 (by decide))
  exact tail0 hT' hl hg
theorem slcS1_sound {value slice : Expr} {x : List Nat} {t : Tok} {a : Int} {vl vu : Value} (I : Inv h₀ s.heap as σ) (hc1 : x.length ≤ lim) (ha : 0 ≤ a) (hc2 : a ≤ x.length) (pl : IsPart vl (some a)) (pu : IsPart vu none) :
    wpAny (model prog w) A (subscriptTail value slice (.str ⟨x.toArray⟩ t) (.ref s.heap.objs.size)) (EP h₀ s as (.str (cut (some a) none x)) σ) (fun _ _ => False) (slS s vl vu .none) := by
  cases pl; cases pu
  obtain ⟨T, id, hl, hT', hg⟩ := SBH.sliceItem_sn (prog := prog) (w := w) (A := A) (E := fun _ _ => False) (s := s) (x := Str.mk x.toArray) (t := t) (i := a)
    (Q := EP h₀ s as (.str (cut (some a) none x)) σ) (heldP s.heap.objs.size) ⟨fun _ _ e => e, Nat.le_refl _⟩ (fun h' t' k q => by
      have e := slice_from_eq (x := Str.mk x.toArray) (i := a) (b := x.length) ha hc2 rfl
      refine e.symm ▸ ?_
      have e2 : ((Str.mk x.toArray).cps.toList.drop a.toNat).take ((x.length : Int) - a).toNat = cut (some a) none x := by
        refine (?_ : (x.drop a.toNat).take _ = x.drop a.toNat)
        exact List.take_of_length_le (by rw [List.length_drop]; omega)
      refine e2.symm ▸ ?_
      exact EP.heap I q.1 vr_str) (Nat.le_trans hc1 (by decide))
  exact tail0 hT' hl hg
theorem noK {rev : Bool} {vk : Value} (hr : rev = false) (hk : (rev = false ∧ vk = .none) ∨ (rev = true ∧ ∃ u, vk = .int (-1) u)) : vk = .none := by
  rcases hk with ⟨_, q⟩ | ⟨q, _⟩
  · exact q
  · rw [hr] at q; cases q
theorem slc_sound {value slice : Expr} {o p : PV} {lo hi : Option Int} {rev : Bool} {vo vl vu vk : Value} (h : slc o lo hi rev σ = some (p, σ')) (I : Inv h₀ s.heap as σ) (ho : VR h₀ as vo o)
    (pl : IsPart vl lo) (pu : IsPart vu hi) (hk : (rev = false ∧ vk = .none) ∨ (rev = true ∧ ∃ u, vk = .int (-1) u)) :
    wpAny (model prog w) A (subscriptTail value slice vo (.ref s.heap.objs.size)) (EP h₀ s as p σ') (fun _ _ => False) (slS s vl vu vk) := by
  refine iteE h fun hc zz => ?_
  clear h
  rename _ => h
  rw [Bool.and_eq_true, Bool.and_eq_true] at hc
  obtain ⟨⟨hlo, hhi⟩, hrev⟩ := hc
  have hrev' : rev = true → lo = none ∧ hi = none := by
    rintro rfl
    cases lo with
    | some _ => cases hrev
    | none => cases hi with
      | some _ => cases hrev
      | none => exact ⟨rfl, rfl⟩
  have pk : IsPart vk (if rev then some (-1) else none) := by
    rcases hk with ⟨rfl, rfl⟩ | ⟨rfl, u, rfl⟩
    · exact .none
    · exact .int _ _
  cases o with
  | ref n =>
    refine bindE h fun vs hv zz => ?_
    clear h
    refine iteE zz fun hlen h => ?_
    clear zz
    apply spE h; clear h
    refine elEA ho fun a eq254x3 ha => ?_
    try clear ho
    subst eq254x3
    refine elEA (I.list hv ha) fun its hp hvs => ?_
    refine slcV_sound I hp.isList (by rw [paired_length hvs]; exact Nat.le_trans hlen (by decide)) hlo hhi hrev' pl pu pk ?_
    cases rev with
    | true => exact paired_reverse hvs
    | false => exact paired_cut lo hi hvs
  | xl ns =>
    refine iteE (c := ns.length ≤ lim ∧ rev = false) h fun hlen h => ?_
    apply spE h; clear h
    obtain ⟨hlen, rfl⟩ := hlen
    refine elEEAA ho fun a its eq264x4 hb hi' => ?_
    try clear ho
    subst eq264x4
    have hb' : s.heap.IsList a its := let ⟨o, e, r⟩ := hb; ⟨o, I.base a o e, r⟩
    refine slcV_sound (its := its.toList) I hb' (by rw [hi'.length]; exact Nat.le_trans hlen (by decide)) hlo hhi hrev' pl pu pk ?_
    have := paired_cut lo hi (paired_ints (h₀ := h₀) (as := as) hi')
    have e2 : cut lo hi (ns.map PV.int) = (cut lo hi ns).map PV.int := by cases lo <;> cases hi <;> simp only [cut, List.map_take, List.map_drop]
    rw [e2] at this; exact this
  | bytes x =>
    refine iteE h fun hlen zz => ?_
    clear h
    rename _ => h
    apply spE h; clear h
    apply exE ho; intro t; clear ho
    exact slcB_sound I hlen hlo hhi hrev' pl pu hk
  | str x =>
    apply exE ho; intro t; clear ho
    refine bindE h fun a e zz => ?_
    clear h
    rename _ => h
    subst e
    have ha : 0 ≤ a := of_decide_eq_true hlo
    cases hi with
    | some b =>
      refine iteE h fun hc zz => ?_
      clear h
      rename _ => h
      apply spE h; clear h
      rw [noK hc.2.1 hk]
      exact slcS_sound I hc.1 ha hc.2.2.1 hc.2.2.2 pl pu
    | none =>
      refine iteE h fun hc zz => ?_
      clear h
      rename _ => h
      apply spE h; clear h
      rw [noK hc.2.1 hk]
      exact slcS1_sound I hc.1 ha hc.2.2 pl pu
  | _ => exact noE h
end
end Mine.Internal
end
section
set_option backward.match.sparseCases false
namespace Mine.Internal
open PySem PyProof.Rows
section
variable {prog : Program} {w : World} {A : Around} {s : Shared} {h₀ : Heap} {as : List Addr} {σ σ' : Sto} {k : Nat}
theorem foldl_min_spec : ∀ (r : List Int) (i : Int), r.foldl min i ∈ i :: r ∧ ∀ a ∈ i :: r, r.foldl min i ≤ a
  | [], i => ⟨by simp, by simp⟩
  | j :: r, i => by
    obtain ⟨h1, h2⟩ := foldl_min_spec r (min i j)
    simp only [List.foldl_cons]
    constructor
    · rcases List.mem_cons.mp h1 with e | e
      · refine e.symm ▸ ?_
        rcases Int.le_total i j with q | q
        · rw [Int.min_eq_left q]; simp
        · rw [Int.min_eq_right q]; simp
      · exact List.mem_cons_of_mem _ (List.mem_cons_of_mem _ e)
    · intro a ha
      have hm := h2 (min i j) (List.mem_cons_self ..)
      rcases List.mem_cons.mp ha with rfl | ha
      · omega
      · rcases List.mem_cons.mp ha with rfl | ha
        · omega
        · exact h2 a (List.mem_cons_of_mem _ ha)
theorem foldl_max_spec : ∀ (r : List Int) (i : Int), r.foldl max i ∈ i :: r ∧ ∀ a ∈ i :: r, a ≤ r.foldl max i
  | [], i => ⟨by simp, by simp⟩
  | j :: r, i => by
    obtain ⟨h1, h2⟩ := foldl_max_spec r (max i j)
    simp only [List.foldl_cons]
    constructor
    · rcases List.mem_cons.mp h1 with e | e
      · refine e.symm ▸ ?_
        rcases Int.le_total i j with q | q
        · rw [Int.max_eq_right q]; simp
        · rw [Int.max_eq_left q]; simp
      · exact List.mem_cons_of_mem _ (List.mem_cons_of_mem _ e)
    · intro a ha
      have hm := h2 (max i j) (List.mem_cons_self ..)
      rcases List.mem_cons.mp ha with rfl | ha
      · omega
      · rcases List.mem_cons.mp ha with rfl | ha
        · omega
        · exact h2 a (List.mem_cons_of_mem _ ha)
theorem min_sound {l : Addr} {vs : List Value} {i : Int} {r : List Int} {Q : Value → Shared → Prop} {E : Value → Shared → Prop} (hh : A.handled = none) (hl : s.heap.IsList l vs.toArray) (hi : IntsAre vs (i :: r))
    (h : ∀ h' t tk, (∀ b o, s.heap.get? b = some o → h'.get? b = some o) → Q (.int (r.foldl min i) t) { s with heap := h', toks := tk }) :
    wpAny (model prog w) A (call (.builtin "min") [.ref l]) Q E s := by
  obtain ⟨xs, e⟩ := hi.allInts.items
  have hns : i :: r = xs.toList.map (·.1) := by
    rw [← hi.numsOf, ← nums_intItems, ← e]
  have hsz : 0 < xs.size := by
    have h3 : 0 < (i :: r).length := by simp
    rw [hns, List.length_map, Array.length_toList] at h3; exact h3
  rw [e] at hl
  refine min_intList hh hl hsz fun v h' tk hv hk => ?_
  apply exE (intItems_at hv); intro t
  obtain ⟨h1, h2⟩ := argBest_lt (numAt xs) (xs.size - 1)
  obtain ⟨g1, g2⟩ := foldl_min_spec r i
  have hm : numAt xs (argBest (fun i j => decide (numAt xs i < numAt xs j)) (xs.size - 1)) ∈ i :: r := by
    rw [hns, numAt_eq]; exact getD_mem (by rw [List.length_map, Array.length_toList]; omega)
  have hle : ∀ a ∈ i :: r, numAt xs (argBest (fun i j => decide (numAt xs i < numAt xs j)) (xs.size - 1)) ≤ a := fun a ha => by
    rw [hns] at ha
    refine elEA (mem_getD ha) fun j hj eq66x1 => ?_
    subst eq66x1
    rw [List.length_map, Array.length_toList] at hj
    rw [← numAt_eq]; exact h2 j (by omega)
  have : numAt xs (argBest (fun i j => decide (numAt xs i < numAt xs j)) (xs.size - 1)) = r.foldl min i := Int.le_antisymm (hle _ g1) (g2 _ hm)
  refine this.symm ▸ ?_
  exact h h' t tk hk
theorem max_sound {l : Addr} {vs : List Value} {i : Int} {r : List Int} {Q : Value → Shared → Prop} {E : Value → Shared → Prop} (hh : A.handled = none) (hl : s.heap.IsList l vs.toArray) (hi : IntsAre vs (i :: r))
    (h : ∀ h' t tk, (∀ b o, s.heap.get? b = some o → h'.get? b = some o) → Q (.int (r.foldl max i) t) { s with heap := h', toks := tk }) :
    wpAny (model prog w) A (call (.builtin "max") [.ref l]) Q E s := by
  obtain ⟨xs, e⟩ := hi.allInts.items
  have hns : i :: r = xs.toList.map (·.1) := by
    rw [← hi.numsOf, ← nums_intItems, ← e]
  have hsz : 0 < xs.size := by
    have h3 : 0 < (i :: r).length := by simp
    rw [hns, List.length_map, Array.length_toList] at h3; exact h3
  rw [e] at hl
  refine max_intList hh hl hsz fun v h' tk hv hk => ?_
  apply exE (intItems_at hv); intro t
  obtain ⟨h1, h2⟩ := argBest_gt (numAt xs) (xs.size - 1)
  obtain ⟨g1, g2⟩ := foldl_max_spec r i
  have hm : numAt xs (argBest (fun i j => decide (numAt xs i > numAt xs j)) (xs.size - 1)) ∈ i :: r := by
    rw [hns, numAt_eq]; exact getD_mem (by rw [List.length_map, Array.length_toList]; omega)
  have hle : ∀ a ∈ i :: r, a ≤ numAt xs (argBest (fun i j => decide (numAt xs i > numAt xs j)) (xs.size - 1)) := fun a ha => by
    rw [hns] at ha
    refine elEA (mem_getD ha) fun j hj eq91x2 => ?_
    subst eq91x2
    rw [List.length_map, Array.length_toList] at hj
    rw [← numAt_eq]; exact h2 j (by omega)
  have : numAt xs (argBest (fun i j => decide (numAt xs i > numAt xs j)) (xs.size - 1)) = r.foldl max i := Int.le_antisymm (g2 _ hm) (hle _ g1)
  refine this.symm ▸ ?_
  exact h h' t tk hk
theorem foldl_add_sum : ∀ (r : List Int) (i : Int), r.foldl (· + ·) i = i + r.sum
  | [], i => by simp
  | j :: r, i => by simp only [List.foldl_cons, List.sum_cons, foldl_add_sum r]; omega
theorem sum_sound {l : Addr} {vs : List Value} {r : List Int} {Q : Value → Shared → Prop} {E : Value → Shared → Prop} (hh : A.handled = none) (hl : s.heap.IsList l vs.toArray) (hi : IntsAre vs r)
    (h : ∀ h' t tk, (∀ b o, s.heap.get? b = some o → h'.get? b = some o) → Q (.int (r.foldl (· + ·) 0) t) { s with heap := h', toks := tk }) :
    wpAny (model prog w) A (call (.builtin "sum") [.ref l]) Q E s := by
  obtain ⟨xs, e⟩ := hi.allInts.items
  have hns : r = xs.toList.map (·.1) := by
    rw [← hi.numsOf, ← nums_intItems, ← e]
  rw [e] at hl
  refine sum_intListG hh hl fun h' tk t hk => ?_
  have := h h' t tk hk
  rw [foldl_add_sum, Int.zero_add] at this
  rw [preSum_eq, List.take_of_length_le (by simp), ← hns]
  exact this
theorem index_sound {l : Addr} {vs : List Value} {ns : List Int} {k : Int} {t : Tok} {Q : Value → Shared → Prop} {E : Value → Shared → Prop} (hl : s.heap.IsList l vs.toArray) (hi : IntsAre vs ns)
    (hlay : ns.length ≤ lim) (hk : k ∈ ns) (h : Q (.int (ns.idxOf k : Nat) s.toks) { s with toks := s.toks + 1 }) :
    wpAny (model prog w) A (call (.builtin "list.index") [.ref l, .int k t]) Q E s := by
  refine elEAAE (id hl) fun pt118x3 ho hc n hd => ?_
  obtain ⟨cls, dd, data, sl⟩ := pt118x3
  simp only at hc hd
  subst hc hd
  have hlen := hi.length
  have hj : ns.idxOf k < ns.length := List.idxOf_lt_length_iff.mpr hk
  unfold lim at hlay
  refine call_meets PySem.F.slot_list_index ⟨_, ho, rfl⟩ PySem.F.entry_list_index (PySem.F.args_list_index_2 _ _)
    (PySem.SeqAt.list_indexAt l vs.toArray n dd sl (.int k t) (isInt k) (ns.idxOf k) (by simpa [hlen] using hj) (by omega) ?_ ?_) ⟨ho, fun y hy => (eq_isInt k t hi y (by simpa using hy)).at _ _, h⟩
  · refine (?_ : isInt k vs[ns.idxOf k] = true)
    rw [isInt_at k hi _ (by omega) hj]
    simpa using List.getElem_idxOf hj
  · intro j hjs hlt
    refine (?_ : isInt k vs[j] = false)
    rw [isInt_at k hi j (by simpa using hjs) (by omega)]
    exact ne_of_lt_idxOf hlt _
theorem append_sound {n : Nat} {a : Addr} {vs : List PV} {v : Value} {p : PV} (I : Inv h₀ s.heap as σ) (ha : as[n]? = some a) (hs : σ[n]? = some (.list vs)) (hv : VR h₀ as v p) (hlim : vs.length ≤ lim) :
    wpAny (model prog w) A (call (.builtin "list.append") [.ref a, v]) (EP h₀ s as .none (σ.set n (.list (vs ++ [p])))) (fun _ _ => False) s := by
  refine elEA (I.obj n a _ ha hs) fun its hp hvs => ?_
  refine wpAny_list_append_plain hp (fun h' hp' hsame => ?_) (by have := paired_length hvs; simp; unfold lim at hlim; unfold sizeLine; omega)
  have hm : a ∈ as := List.mem_of_getElem? ha
  refine ⟨as, ⟨⟨[], by simp, fun _ h => nomatch h⟩, fun b o _ hb e => ?_, fun b o e => ?_, rfl, .refl _⟩, I.set ha (fun b hb => hsame.2 b hb) ⟨its ++ [v], ?_, paired_append hvs (.cons hv .nil)⟩, rfl⟩
  · refine (?_ : h'.get? b = some o)
    rw [hsame.2 b (fun q => hb (q ▸ hm))]; exact e
  · by_cases q : b = a
    · subst q
      obtain ⟨nn, hh⟩ := hp'
      exact ⟨_, hh⟩
    · exact ⟨o, (hsame.2 b q).trans e⟩
  · have : (its.toArray.push v) = (its ++ [v]).toArray := by simp
    rw [← this]; exact hp'
end
end Mine.Internal
end
section
set_option backward.match.sparseCases false
namespace Mine.Internal
open PySem PyProof.Rows
open Sem (wp)
noncomputable def holderIds : List String := ["bytearray.__contains__", "bytearray.__mod__", "bytearray.__rmod__", "_struct.pack_into.held", "bytearray.find.held"]
noncomputable def holder : Code → Bool
  | .builtin id _ => Builtin.Bytes.decodersThatHold.contains id || holderIds.contains id
  | _ => false
noncomputable def Clean (Γ : Ctx) : Prop := holder Γ.code = false ∧ ∀ x ∈ Γ.below, holder x.1 = false
structure Pl (P : Ctx → Prop) : Prop where
  enter : ∀ Γ c h p, holder c = false → P Γ → P (Γ.enter c h p)
  goto : ∀ Γ c, holder c = false → P Γ → P (Γ.goto c)
theorem pl_true : Pl (fun _ => True) := ⟨fun _ _ _ _ _ _ => trivial, fun _ _ _ _ => trivial⟩
theorem pl_clean : Pl Clean := ⟨fun Γ c h p hc hΓ => ⟨hc, fun x hx => by
    rcases List.mem_cons.mp hx with rfl | hx
    · exact hΓ.1
    · exact hΓ.2 x hx⟩, fun Γ c hc hΓ => ⟨hc, hΓ.2⟩⟩
noncomputable def wpP {α : Type} (P : Ctx → Prop) (M : Model) (A : Around) (t : Sem α) (Q : α → Shared → Prop) (E : Value → Shared → Prop) (s : Shared) : Prop :=
  ∀ Γ p, Γ.In A → P Γ → wp M Γ t (fun a _ s' => Q a s') (fun e _ s' => E e s') p s
noncomputable def codeP (P : Ctx → Prop) (M : Model) (A : Around) (c : Code) (R : Result → Shared → Prop) (s : Shared) : Prop :=
  ∀ Γ p, Γ.code = c → Γ.Below A → P Γ → wpCode M Γ R p s
section
variable {α β : Type} {P : Ctx → Prop} {M : Model} {A : Around} {E : Value → Shared → Prop} {s : Shared}
theorem wpP_any {t : Sem α} {Q : α → Shared → Prop} (h : wpAny M A t Q E s) : wpP P M A t Q E s := fun Γ p hΓ _ => h Γ p hΓ
theorem codeP_any {c : Code} {R : Result → Shared → Prop} (h : codeAny M A c R s) : codeP P M A c R s := fun Γ p hc hΓ _ => h Γ p hc hΓ
theorem wpP_to_any {t : Sem α} {Q : α → Shared → Prop} (h : wpP (fun _ => True) M A t Q E s) : wpAny M A t Q E s := fun Γ p hΓ => h Γ p hΓ trivial
theorem codeP_to_any {c : Code} {R : Result → Shared → Prop} (h : codeP (fun _ => True) M A c R s) : codeAny M A c R s := fun Γ p hc hΓ => h Γ p hc hΓ trivial
theorem wpP_pure {a : α} {Q : α → Shared → Prop} (h : Q a s) : wpP P M A (pure a) Q E s := wpP_any (wpAny_pure h)
theorem wpP_mono {t : Sem α} {Q Q' : α → Shared → Prop} {E' : Value → Shared → Prop} (h : wpP P M A t Q E s) (hQ : ∀ a s, Q a s → Q' a s) (hE : ∀ e s, E e s → E' e s) : wpP P M A t Q' E' s :=
  fun Γ p hΓ hP => Sem.wp_mono M Γ t (fun a _ s => hQ a s) (fun e _ s => hE e s) p s (h Γ p hΓ hP)
theorem wpP_bind {m : Sem α} {f : α → Sem β} {Q : β → Shared → Prop} (h : wpP P M A m (fun a s' => wpP P M A (f a) Q E s') E s) : wpP P M A (m >>= f) Q E s := fun Γ p hΓ hP => by
  rw [Sem.wp_bind']
  exact Sem.wp_mono M Γ m (fun a p' s' h' => h' Γ p' hΓ hP) (fun _ _ _ h' => h') p s (h Γ p hΓ hP)
theorem wpP_leaf {m : Sem α} {f : α → Sem β} {Q : β → Shared → Prop} (h : wpAny M A m (fun a s' => wpP P M A (f a) Q E s') E s) : wpP P M A (m >>= f) Q E s := wpP_bind (wpP_any h)
theorem wpP_of_eq {t : Sem α} {a : α} {Q : α → Shared → Prop} (e : t = pure a) (h : Q a s) : wpP P M A t Q E s := e ▸ wpP_pure h
theorem wpP_holding {vs : List Value} {m : Sem α} {Q : α → Shared → Prop} (h : wpP P M A m Q E s) : wpP P M A (holding vs m) Q E s := fun Γ p hΓ hP => by
  rw [Sem.wp_holding]; exact h Γ p hΓ hP
theorem wpP_keep {vs : List Value} {m : Sem α} {Q : α → Shared → Prop} (h : wpP P M A m Q E s) : wpP P M A (m.keep vs) Q E s := fun Γ p hΓ hP => by
  rw [Sem.wp_keep]; exact h Γ p hΓ hP
theorem wpP_onRaise {m : Sem α} {k : Value → Sem Unit} {Q : α → Shared → Prop} (h : wpP P M A m Q (fun e s' => wpP P M A (k e) (fun _ s'' => E e s'') E s') s) : wpP P M A (m.onRaise k) Q E s := fun Γ p hΓ hP => by
  rw [Sem.wp_onRaise]
  exact Sem.wp_mono M Γ m (fun _ _ _ h' => h') (fun e p' s' h' => h' Γ p' hΓ hP) p s (h Γ p hΓ hP)
theorem wpP_tryCatch {m : Sem α} {k : Value → Sem α} {Q : α → Shared → Prop} (h : wpP P M A m Q (fun e s' => wpP P M A (k e) Q E s') s) : wpP P M A (tryCatch m k) Q E s := fun Γ p hΓ hP => by
  rw [Sem.wp_tryCatch']
  exact Sem.wp_mono M Γ m (fun _ _ _ h' => h') (fun e p' s' h' => h' Γ p' hΓ hP) p s (h Γ p hΓ hP)
theorem wpP_attempt {m : Sem α} {Q : Except Value α → Shared → Prop} (h : wpP P M A m (fun a => Q (.ok a)) (fun e => Q (.error e)) s) : wpP P M A m.attempt Q E s := fun Γ p hΓ hP => by
  rw [Sem.wp_attempt]; exact h Γ p hΓ hP
theorem wpP_bindName {env : Env} {x : Str} {v : Value} {Q : Unit → Shared → Prop} (h : wpP P M A (storeName env x v) Q E s) : wpP P M A (bindName env x v) Q E s := fun Γ p hΓ hP => by
  rw [Sem.wp_bindName]; exact h Γ p hΓ hP
theorem codeP_mono {c : Code} {R R' : Result → Shared → Prop} (h : codeP P M A c R s) (hR : ∀ r s, R r s → R' r s) : codeP P M A c R' s := fun Γ p hc hΓ hP => wpCode_mono hR (h Γ p hc hΓ hP)
theorem wpP_run (L : Pl P) {c : Code} {h : Option Value} {Q : Flow → Shared → Prop} (hn : holder c = false)
    (hc : codeP P M (A.mark h) c (fun r s' => match r with | .ok f => Q f s' | .error e => E e s') s) (hnb : h ≠ some byPass) : wpP P M A (run c h) Q E s :=
  fun Γ p hΓ hP => by rw [Sem.wp_run]; exact hc _ p rfl (hΓ.enter c h p hnb) (L.enter _ _ _ _ hn hP)
theorem wpP_runValue (L : Pl P) {c : Code} {Q : Value → Shared → Prop} (hn : holder c = false)
    (hc : codeP P M A c (wants Q E) s) : wpP P M A (runValue c) Q E s := fun Γ p hΓ hP => by
  rw [Sem.wp_runValue]
  exact wpCode_mono (fun r s' h => by cases r with | error e => exact h | ok f => cases f <;> exact h) (hc _ p rfl (hΓ.enter c none p (by intro x; cases x)) (L.enter _ _ _ _ hn hP))
theorem wpP_call (L : Pl P) {f : Value} {pos : List Value} {kw : List (Str × Value)} {Q : Value → Shared → Prop}
    (hc : codeP P M A (.call f ⟨pos, kw⟩) (wants Q E) s) : wpP P M A (call f pos kw) Q E s := wpP_runValue L rfl hc
noncomputable def finP (P : Ctx → Prop) (M : Model) (A : Around) (R : Result → Shared → Prop) : Fin → Shared → Prop :=
  fun fin s' => match fin with | .done f => R (.ok f) s' | .again c' => c'.quiet = true ∧ holder c' = false ∧ codeP P M A c' R s'
theorem codeP_of_tree (L : Pl P) {c : Code} {R : Result → Shared → Prop}
    (h : wpP P M (A.under c) (M.den c) (finP P M A R) (fun e s' => R (.error e) s') s) : codeP P M A c R s := fun Γ p hc hΓ hP => by
  rw [wpCode_iff_wp, hc]
  refine Sem.wp_mono M Γ _ (fun fin p' s' h' => ?_) (fun _ _ _ h' => h') p s (h Γ p (hc ▸ hΓ.in) hP)
  cases fin with
  | done f => exact h'
  | again c' => exact ⟨h'.1, h'.2.2 (Γ.goto c') p' rfl (hΓ.goto c') (L.goto _ _ h'.2.1 hP)⟩
theorem codeP_loop (L : Pl P) {c : Code} {R : Result → Shared → Prop} (hq : c.quiet = true) (hn : holder c = false) (I : Nat → Shared → Prop)
    (turn : ∀ n s, I n s → wpP P M (A.under c) (M.den c)
      (fun fin s' => match fin with
        | .done f => R (.ok f) s'
        | .again c' => (c' = c ∧ ∃ m, m < n ∧ I m s') ∨ (c'.quiet = true ∧ holder c' = false ∧ codeP P M A c' R s')) (fun e s' => R (.error e) s') s)
    (n : Nat) (h : I n s) : codeP P M A c R s := by
  induction n using Nat.strongRecOn generalizing s with
  | ind n ih =>
    refine codeP_of_tree L (wpP_mono (turn n s h) (fun fin s' hf => ?_) fun _ _ h' => h')
    cases fin with
    | done f => exact hf
    | again c' =>
      rcases hf with ⟨rfl, m, hm, hI⟩ | hf
      · exact ⟨hq, hn, ih m hm hI⟩
      · exact hf
end
section
variable {prog : Program} {w : World} {P : Ctx → Prop} {A : Around} {E : Value → Shared → Prop} {R : Result → Shared → Prop} {s : Shared}
theorem den_builtin {id : String} {args : Args} {b : Builtin} (hb : entryFor table id = some b) : (model prog w).den (.builtin id args) = b args := by
  show (match entryFor table id with | some b => b args | none => unsupported ((withoutEnding? id "#data").getD id)) = _
  rw [hb]
theorem codeP_builtin (L : Pl P) {id : String} {args : Args} {b : Builtin} (hb : entryFor table id = some b)
    (h : wpP P (model prog w) (A.under (.builtin id args)) (b args) (finP P (model prog w) A R) (fun e s' => R (.error e) s') s) : codeP P (model prog w) A (.builtin id args) R s := by
  refine codeP_of_tree L ?_
  rw [den_builtin hb]; exact h
theorem codeP_call_builtin (L : Pl P) {id : String} {args : Args} {b : Builtin} (hq : plainId id = true) (hn : holder (.builtin id args) = false) (hb : entryFor table id = some b)
    (h : wpAny (model prog w) A.in1 (checkBuiltinCall id args) (fun _ s₁ => wpP P (model prog w) A.in1 (b args) (finP P (model prog w) A R) (fun e s' => R (.error e) s') s₁) (fun e s' => R (.error e) s') s) :
    codeP P (model prog w) A (.call (.builtin id) args) R s := by
  refine codeP_of_tree L ?_
  show wpP _ _ A.in1 (do checkBuiltinCall id args; again (.builtin id args)) _ _ s
  refine wpP_leaf (wpAny_mono h (fun _ s₁ h₁ => wpP_pure ⟨plainId_quiet hq args, hn, codeP_builtin L hb ?_⟩) fun _ _ h' => h')
  rw [Around.under_plainId hq args]; exact h₁
theorem hold_or {id : String} (h : (Builtin.Bytes.decodersThatHold.contains id || holderIds.contains id) = false) : Builtin.Bytes.decodersThatHold.contains id = false ∧ ∀ y ∈ holderIds, ¬ id = y := by
  obtain ⟨h1, h2⟩ := Bool.or_eq_false_iff.mp h
  refine ⟨h1, fun y hy q => ?_⟩
  subst q
  rw [List.contains_iff_mem.mpr hy] at h2
  cases h2
theorem exported_no {Q : Bool → Shared → Prop} (v : Value) (h : Q false s) : wpP Clean (model prog w) A (Builtin.Bytes.exported v) Q E s := fun Γ p _ hP => by
  skip
  have hl : ∀ x ∈ (Γ.code, p) :: Γ.below, holder x.1 = false := fun x hx => by
    rcases List.mem_cons.mp hx with rfl | hx
    · exact hP.1
    · exact hP.2 x hx
  refine (?_ : Q (List.any ((Γ.code, p) :: Γ.below) _) s)
  have e : ∀ f : Code × Pos → Bool, (∀ x, holder x.1 = false → f x = false) → List.any ((Γ.code, p) :: Γ.below) f = false := fun f hf => by
    rw [List.any_eq_false]
    intro x hx
    rw [hf x (hl x hx)]; simp
  rw [e]
  · exact h
  · clear e hl h hP
    intro x hh
    obtain ⟨c, p⟩ := x
    cases c with
    | builtin id args =>
      obtain ⟨h1, h2⟩ := hold_or (show (Builtin.Bytes.decodersThatHold.contains id || holderIds.contains id) = false from hh)
      have n1 := h2 "bytearray.__contains__" (by decide)
      have n2 := h2 "bytearray.__mod__" (by decide)
      have n3 := h2 "bytearray.__rmod__" (by decide)
      have n4 := h2 "_struct.pack_into.held" (by decide)
      have n5 := h2 "bytearray.find.held" (by decide)
      clear h2 hh
      obtain ⟨pos, kw⟩ := args
      delta Builtin.Bytes.exported.match_1
      refine (dif_neg n1).trans ((dif_neg n2).trans ((dif_neg n3).trans ((dif_neg n4).trans ((dif_neg n5).trans ?_))))
      cases pos with
      | nil => rfl
      | cons a r =>
        refine (?_ : (Builtin.Bytes.sameRef a v && Builtin.Bytes.decodersThatHold.contains id) = false)
        rw [h1, Bool.and_false]
    | _ => rfl
end
end Mine.Internal
end
section
set_option maxRecDepth 100000
set_option backward.match.sparseCases false
namespace Mine.Internal
open PySem PySem.Spec PySem.Calls PyProof.Rows PySem.W
open Sem (wp)
theorem caller_clean : Clean ⟨.builtin "claim.caller" {}, none, none, [], none⟩ := ⟨by decide +kernel, fun _ h => nomatch h⟩
theorem ends_clean {prog : Program} {w : World} {t : Sem Fin} {s : Shared} {R : Result → Shared → Prop} (hreg : s.asleep)
    (h : wpP Clean (model prog w) callerA t (fun fin s' => ∃ f, fin = .done f ∧ (R (.ok f) s' ∧ leftWithCleanup s'.gens = false)) (fun e s' => R (.error e) s' ∧ leftWithCleanup s'.gens = false) s) :
    ∃ n r s' s'', runN (denote table) prog w n s ⟨t, .builtin "claim.caller" {}, default, []⟩ = .halted (outcomeOf r) s' ∧
      schedN (denote table) prog w n (.single s ⟨t, .builtin "claim.caller" {}, default, []⟩) = .halted (outcomeOf r) s' ∧ s'.forget = s''.forget ∧ R r s'' := by
  have hw : wp (model prog w) ⟨.builtin "claim.caller" {}, none, none, [], none⟩ t (Sem.finPost (model prog w) ⟨.builtin "claim.caller" {}, none, none, [], none⟩ fun r s' => R r s' ∧ leftWithCleanup s'.gens = false)
      (fun e _ s' => R (.error e) s' ∧ leftWithCleanup s'.gens = false) default s :=
    Sem.wp_mono _ _ t (fun fin p' s' h' => by obtain ⟨f, rfl, hf⟩ := h'; exact hf) (fun _ _ _ h' => h') default s (h _ default caller_in caller_clean)
  refine elEEEEAAA (wp_halts_full (M := model prog w) (R := R) hreg hw) fun n r s₁ s₂ hs hn hfo hR => ?_
  exact ⟨n, r, s₂, s₁, hn, hs, hfo, hR⟩
theorem callFrom_clean {c : ClaimW} {tree : List Value → Sem Fin} {w : World} {s : Shared} {free : Addr → Prop} {gens : Prop} {kept : Heap → Prop} (hz : s.asleep) (hgens : s.gens = #[])
    (hspec : ∀ args, c.pre args = true → WData.layableAll args = true → ∀ ord : List DictEntry → List DictEntry, (∀ l, (ord l).Perm l) →
      ∃ vs s₁, layAllW c.records (classAt s.heap) w.params ord args s = some (vs, s₁) ∧
        wpP Clean (model c.prog w) callerA (tree vs) (fun fin s' => ∃ f, fin = .done f ∧ (c.Ends s args vs s₁ (.ok f) s' ∧ s'.os = s.os ∧ AllBare s'.gens ∧ kept s'.heap))
          (fun e s' => c.Ends s args vs s₁ (.error e) s' ∧ s'.os = s.os ∧ AllBare s'.gens ∧ kept s'.heap) s₁) :
    c.CallFrom (fun vs => ⟨tree vs, .builtin "claim.caller" {}, default, []⟩) w free gens kept s := by
  intro args hpre hlay ord hord
  refine elEEA (hspec args hpre hlay ord hord) fun vs s₁ hlaid hcode => ?_
  have hal := layAllW_rest _ _ _ hlaid
  refine elEEEEAAA (ends_clean (prog := c.prog) (w := w) (t := tree vs) (s := s₁) (R := fun r s' => c.Ends s args vs s₁ r s' ∧ s'.os = s.os ∧ kept s'.heap)
    (Shared.asleep_of_life hal.2.2.2 hz)
    (wpP_mono hcode (fun fin s' ⟨f, e, h1, h2, h3, h4⟩ => ⟨f, e, ⟨h1, h2, h4⟩, leftWithCleanup_false_of_bare h3⟩) fun e s' ⟨h1, h2, h3, h4⟩ => ⟨⟨h1, h2, h4⟩, leftWithCleanup_false_of_bare h3⟩)) fun k r s' s'' hrun hsched hfo hR => ?_
  refine elAA hR fun hcase hos hkp => ?_
  clear hR
  refine elAAAA (Shared.forget_eq hfo) fun eh _ _ eo _ => ?_
  have hcase := hcase.congr eh
  have hkp : kept s'.heap := by rw [eh]; exact hkp
  rw [← eo] at hos
  have hlife : s'.heap.life = s.heap.life := (runN_life _ _ _ hrun).trans hal.2.2.2
  refine ⟨vs, s₁, hlaid, k, _, s', hsched, ?_, (fun _ i x hx => by rw [hgens] at hx; simp at hx), hkp, by rw [hlife], Shared.rest_eq hos⟩
  refine (show _ ∨ _ from hcase).imp (fun h => h.imp fun v h => ⟨congrArg outcomeOf h.1, h.2.1, h.2.2.1, h.2.2.2.1, fun b o y _ => h.2.2.2.2.1 b o y, h.2.2.2.2.2⟩) fun h => h.imp fun e h => h.imp fun ob h => h.imp fun cls h => ⟨congrArg outcomeOf h.1, h.2.1, h.2.2.1, h.2.2.2.1, h.2.2.2.2.1, fun b o y _ => h.2.2.2.2.2 b o y⟩
noncomputable abbrev WalkC (q : Program) (loose : List Str) (XP : (Str → Option Value) → Heap → Prop) (YP : World → Heap → Prop) (r : RowW) (d : DefRec) (kwd : List (Str × Expr)) : Prop :=
  ∀ (w : World) (s₀ s₁ : Shared) (mg mb : Str → Option Value), Ground q loose r.records XP w s₀ mg mb s₁.heap → YP w s₁.heap → ∀ (a : Addr) (o : Obj) (pm cd doc dV kV : Value), s₁.heap.get? a = some o →
    o.data = .func { docDef d.name d.params d.body d.scope pm cd doc with defaults := dV, kwdefaults := kV } → s₁.heap.CodeRec cd d.name → Dflts mg s₁.heap d.params kwd dV kV → mg d.name = some (.ref a) → s₁.gens = #[] →
    ∀ (args : List WData) (vals : List Value) (as : List Addr), r.claim.pre args = true → WData.layableAll args = true → ReadsAllW r.records (classAt s₀.heap) s₁.heap vals args as → WellAll w.params s₁.heap vals args → (∀ a ∈ as, (a == sysModules) = false) →
      wpP Clean (model r.prog w) callerA (PySem.call (.ref a) vals) (fun v s' => GoodWG r.claim (classAt s₀.heap) (ExcName.means s₀.heap) args s₁ (.ok (.ret v)) s')
        (fun e s' => GoodWG r.claim (classAt s₀.heap) (ExcName.means s₀.heap) args s₁ (.error e) s') s₁
theorem holds_clean {r : OpenRow} {q : Program} {loose : List Str} {Xt : Shared → Bool} {XP : (Str → Option Value) → Heap → Prop} {α : Type} {Yf : Shared → α} {Ya : World → α} {YP : World → Heap → Prop} {d : DefRec} {kwd : List (Str × Expr)} {N : Nat}
    (left : LeftO r.prog q loose Xt Yf Ya N) (hY : ∀ w s, Yf s = Ya w → YP w s.heap) (hYk : ∀ w h h', YP w h → (∀ b o, h.get? b = some o → h'.get? b = some o) → YP w h')
    (hX : ∀ s, Xt s = true → XP (s.heap.nsMap mainGlobals) s.heap) (hXk : ∀ mg h h', XP mg h → (∀ b o, h.get? b = some o → h'.get? b = some o) → XP mg h')
    (hdef : defOf q r.name = some (d, kwd)) (hp : r.prog.theDef r.name = some (d.params, d.body, d.scope)) (hk : kwWritten? d.params.kwonlyargs d.params.kw_defaults = some kwd) (hRf : ∀ s, Xt s = true → RecFacts r.records s.heap) (hwr : (!r.writes || r.records.isEmpty) = true)
    (k1 : r.wellSaid = true) (ok : (chainsOk q && opensWell r.prog && (frees r.toRowW && r.within.isEmpty)) = true) (hb : r.prog.bare) (hw : r.toRowW.promised)
    (call : WalkC q loose XP YP r.toRowW d kwd) : r.Holds := by
  obtain ⟨ok, k5⟩ := Bool.and_eq_true_iff.mp ok
  obtain ⟨hch, o1⟩ := Bool.and_eq_true_iff.mp ok
  obtain ⟨k5, k6⟩ := Bool.and_eq_true_iff.mp k5
  refine elAAAA (frees_parts k5) fun hsame hu ha hap hm => ?_
  refine ⟨k1, hw, ⟨hb, o1, by show r.makers.map _ = []; rw [hm]; rfl⟩, hw.witness, fun w => ⟨(left.behind hX hch w).1, fun s' hs' => ?_⟩⟩
  refine elEAA ((left.behind (XP := fun mg h => XP mg h ∧ RecFacts r.records h) (fun s hs => ⟨hX s hs, hRf s hs⟩) hch w).2 s' hs') fun s₀ hf hg0 hs₀ => ?_
  refine el1_5 hs₀ fun s hT hz hgens hg G00 y => ?_
  clear hs₀
  have G0 : Ground q loose [] XP w s (s.heap.nsMap mainGlobals) (s.heap.nsMap builtinsNs) s.heap := ⟨G00.T, G00.B, G00.D, G00.TE, G00.TD, G00.W, G00.X.1, G00.cls, G00.has, G00.apart, G00.once, G00.K⟩
  have RF := G00.X.2
  have hT' := hT
  refine ⟨s₀, hf, hg0, s, hT, fun n hn => ?_, RF.1, RF.2.1, ?_⟩
  · obtain rfl : n = r.name := by split at hn <;> simp_all
    exact pinned_of_view hg G0 hdef hp hk
  have hgens : s.gens = #[] := Array.eq_empty_of_size_eq_zero (beq_iff_eq.mp hgens)
  have G : Ground q loose r.records XP w s _ _ s.heap := RF.ground G0
  refine callFrom_clean (c := r.toRowW.claim) hz hgens fun args hpre hlay ord hord => ?_
  obtain ⟨⟨vs, s₁⟩, hlaid⟩ := Option.isSome_iff_exists.mp (layAllW_isSome (P := w.params) (ord := ord) G.has args r.args s (pre_splitW hpre).1)
  have keeps := layAllW_keeps _ _ _ hlaid
  have hal := layAllW_rest _ _ _ hlaid
  refine elEAA (reads_layAllW hord _ _ _ hlaid hlay s₁.heap (fun _ _ e => e)) fun as hrd hin hold => ?_
  have L : Laid r.records w s s₁ args vs as := ⟨⟨ord, hord, hlaid⟩, hrd, hin, hold, keeps, hal.1.trans hgens, hal.2.2.1⟩
  have G₁ := G.keeps hXk keeps
  refine el7_4 (G₁.fn hdef) fun a o pm cd doc dV kV h1 h2 h3 h4 h5 => ?_
  have h := call w s s₁ _ _ G₁ (hYk _ _ _ (hY w s y) keeps) a o pm cd doc dV kV h2 h3 h4 h5 (defOf_name hdef ▸ h1) L.gens args vs as hpre hlay L.reads L.well (L.low G.low)
  have hi := ident_freeW hu ha hap
  have hwi : r.claim.within = [] := List.isEmpty_iff.mp k6
  refine ⟨vs, s₁, hlaid, wpP_leaf (wpAny_nsGet G₁.T.g ?_)⟩
  refine h1.symm ▸ ?_
  refine wpP_bind (wpP_mono h (fun v s' g => wpP_pure ⟨_, rfl, ?_⟩) fun e s' g => ?_)
  · have z := g.laid (c := r.claim) hsame hwi hi L
    exact ⟨z.1, z.2.1, z.2.2, fun q => ⟨namesKept_of hT' hg _ keeps g.2.1.old, noTable hwr q⟩⟩
  · have z := g.laid (c := r.claim) hsame hwi hi L
    exact ⟨z.1, z.2.1, z.2.2, fun q => ⟨namesKept_of hT' hg _ keeps g.2.1.old, noTable hwr q⟩⟩
end Mine.Internal
end
section
set_option maxRecDepth 100000
set_option backward.match.sparseCases false
namespace Mine.Internal
open PySem PySem.Spec PySem.Calls PyProof.Rows PySem.W PySem.Challenge
theorem hd_opening : W.opening rw_pg0065_01.row.toRowW.1 = W.plainProg rw_pg0065_01.row.toRowW.1.main.scope.names := by kernel_rfl
theorem hd_fence (s : Shared) : fenceModules? rw_pg0065_01.row.toRowW.1 s = some s := by kernel_rfl
theorem hd_boot (w : World) : ((W.boot_heap w.params).isNs mainGlobals && ({ toList := [] } : Array (Str × Value)).size == 0, (W.boot_heap w.params).objs.size, (W.boot_heap w.params).nsMap mainGlobals (Str.ofString "__annotations__")) = (true, 11, some (Value.ref 6)) := by kernel_rfl
theorem hd_run (w : World) (os : OsState) : W.topRun treeTable rw_pg0065_01.row.toRowW.1 w 11 (some (Value.ref 6)) (Nat.add 12 (Nat.add 1 (Nat.add 277 2))) { heap := W.boot_heap w.params, drawn := W.boot_drawn, toks := W.boot_toks, os := os } (W.topStub rw_pg0065_01.row.toRowW.1) = some { heap := hd.heap_105 w.params, toks := 268, os := os } := by kernel_rfl
theorem hd_seen (w : World) (os : OsState) : (W.staticsOk (importedModules rw_pg0065_01.row.toRowW.1.main.body) (W.boot_heap w.params) (hd.heap_105 w.params) && W.namesBound rw_pg0065_01.row.toRowW.1 (hd.heap_105 w.params) && W.gensDone { heap := hd.heap_105 w.params, toks := 268, os := os } && W.laidKept (W.boot_heap w.params) (hd.heap_105 w.params),
    W.openSeen hd.view_39 [] (importedModules rw_pg0065_01.row.toRowW.1.main.body) (fun s => W.xlAt hd.view_39 [] s && W.recOk rw_pg0065_01.row.records s) true { heap := hd.heap_105 w.params, toks := 268, os := os },
    Hook.none.obs { heap := hd.heap_105 w.params, toks := 268, os := os }) = (true, W.openGood hd.view_39 [], Hook.none.val w) := by kernel_rfl
theorem hd_chains : (W.chainsOk hd.view_39 && W.opensWell rw_pg0065_01.row.prog && (W.frees rw_pg0065_01.row.toRowW && rw_pg0065_01.row.within.isEmpty)) = true := by kernel_rfl
theorem hd_tables : rw_pg0065_01.row.prog.tablesWhole = true := by kernel_rfl
theorem hd_pre : rw_pg0065_01.row.claim.pre [W.WData.list []] = true := by kernel_rfl
theorem hd_lay : (W.WData.layableAll [W.WData.list []] && rw_pg0065_01.row.returnsAt [W.WData.list []]) = true := by kernel_rfl
theorem hd_said : rw_pg0065_01.wellSaid = true := by kernel_rfl
set_option maxRecDepth 100000 in
set_option maxHeartbeats 8000000 in
theorem top {d : DefRec} {kwd : List (Str × Expr)} (hdef : defOf hd.view_39 rw_pg0065_01.row.name = some (d, kwd)) (hp : rw_pg0065_01.row.prog.theDef rw_pg0065_01.row.name = some (d.params, d.body, d.scope)) (hkw : kwWritten? d.params.kwonlyargs d.params.kw_defaults = some kwd)
    (walk : WalkC hd.view_39 [] (XL hd.view_39 []) Hook.none.says rw_pg0065_01.row.toRowW d kwd) : rw_pg0065_01.Holds := by
  refine holds_law hd_said fun said => ?_
  exact holds_clean (Xt := fun s => xlAt hd.view_39 [] s && recOk rw_pg0065_01.row.records s) (Yf := Hook.none.obs) (Ya := Hook.none.val) (N := 880)
    (LeftO.of_pieces (boot_open hd_opening (of_decide_eq_true (id (Eq.refl true))) hd_fence) hd_boot hd_run (of_decide_eq_true (id (Eq.refl true))) fun w => funext fun os => hd_seen w os)
    Hook.none.of Hook.none.keeps (fun s e => xl_of s (Bool.and_eq_true_iff.mp e).1) XL.keeps hdef hp hkw (fun s e => recFacts_of (Bool.and_eq_true_iff.mp e).2) rfl (by assumption) hd_chains ⟨rfl, rfl, rfl, rfl, rfl, hd_tables⟩ ⟨[WData.list []], hd_pre, hd_lay⟩ walk
end Mine.Internal
end
section
set_option maxRecDepth 100000
set_option backward.match.sparseCases false
namespace Mine.Internal
open PySem PyProof.Rows
open Sem (wp)
open Builtin
section
variable {α : Type} {P : Ctx → Prop} {M : Model} {A : Around} {E : Value → Shared → Prop} {s : Shared}
theorem wpP_no {c : Bool} {a b : Sem α} {Q : α → Shared → Prop} (hc : c = false) (h : wpP P M A b Q E s) : wpP P M A (if c = true then a else b) Q E s := by subst hc; exact h
theorem wpP_yes {c : Bool} {a b : Sem α} {Q : α → Shared → Prop} (hc : c = true) (h : wpP P M A a Q E s) : wpP P M A (if c = true then a else b) Q E s := by subst hc; exact h
end
theorem ba_mro : mroOf (.type "bytearray") = pure [.type "bytearray", .type "object"] := by rw [mroOf_type]; kernel_rfl
theorem ba_lookup_new : typeLookup (.type "bytearray") "__new__" = pure (some (.builtin "bytearray.__new__")) := by rw [typeLookup_type, builtinLookup_eq_fast]; kernel_rfl
theorem ba_slot_init : Slot "bytearray" "__init__" "bytearray.__init__" :=
  .of (owner := "bytearray") (n := "__init__") (by rw [typeLookup_type, builtinLookup_eq_fast]; kernel_rfl) (by decide +kernel) (by decide +kernel) (by decide +kernel)
    (by first | exact .inl (by decide +kernel) | exact .inr (by decide +kernel)) (by rw [isSubtype_type]; kernel_rfl)
theorem ba_sub : isSubtype (.type "bytearray") (.type "bytearray") = pure true := by rw [isSubtype_type]; kernel_rfl
theorem ba_called : TypeCalled "bytearray" "bytearray.__new__" "bytearray.__init__" :=
  ⟨by decide +kernel, by decide +kernel, ⟨_, _, ba_mro⟩, madeBy_type ba_mro ba_lookup_new (by decide +kernel), by decide +kernel, ba_sub, ba_slot_init⟩
theorem ba_typeCall (a : Value) : checkTypeCall "bytearray" ⟨[a], []⟩ = pure () := by kernel_rfl
theorem ba_newCall (a : Value) : checkBuiltinCall "bytearray.__new__" ⟨[.type "bytearray", a], []⟩ = pure () := by kernel_rfl
theorem ba_entry_new : entryFor table "bytearray.__new__" = some Builtin.«list.__new__» :=
  entryFor_alias (id' := "list.__new__") (by kernel_rfl) (by first | rfl | decide +kernel) (by decide +kernel) (by kernel_rfl)
theorem ba_entry_init : entryFor table "bytearray.__init__" = some Builtin.«bytearray.__init__» := by first | exact entryFor_of_fast (by kernel_rfl) | exact entryFor_of_tree (by kernel_rfl)
theorem ba_plain_new : plainId "bytearray.__new__" = true := by decide +kernel
set_option maxRecDepth 1000000 in
set_option maxHeartbeats 4000000 in
theorem ba_owner : ("bytearray.__new__".splitOn ".__new__").headD "" = "bytearray" := by simp +decide [String.splitOn, String.splitOnAux]
theorem ba_no_release : typeLookup (.type "bytearray") "__release_buffer__" = pure (some (.builtin "bytearray.__release_buffer__")) := by rw [typeLookup_type, builtinLookup_eq_fast]; kernel_rfl
theorem ba_buffer : typeLookup (.type "bytearray") "__buffer__" = pure (some (.builtin "bytearray.__buffer__")) := by rw [typeLookup_type, builtinLookup_eq_fast]; kernel_rfl
theorem ba_bind (v : Value) : Bytes.bindOptional "bytearray.__init__" "bytearray" ["source", "encoding", "errors"] [v] [] = pure [some v, none, none] := by kernel_rfl
section
variable {prog : Program} {w : World} {A : Around} {E : Value → Shared → Prop} {s : Shared}
theorem ba_new (a : Value) {Q₁ : Value → Shared → Prop}
    (h : Q₁ (.ref s.heap.objs.size) { s with heap := s.heap.push { cls := .type "bytearray", data := .bytearray #[] } }) :
    codeAny (model prog w) A (.call (.builtin "bytearray.__new__") ⟨[.type "bytearray", a], []⟩) (wants Q₁ E) s := by
  refine codeAny_of_tree ?_
  show wpAny _ A.in1 (do checkBuiltinCall "bytearray.__new__" ⟨[.type "bytearray", a], []⟩; again (.builtin "bytearray.__new__" ⟨[.type "bytearray", a], []⟩)) _ _ s
  refine wpAny_bind (wpAny_of_eq (ba_newCall a) (wpAny_pure ⟨plainId_quiet ba_plain_new _, codeAny_builtin_stack ba_entry_new rfl fun p st => ?_⟩))
  rw [Around.under_plainId ba_plain_new _]
  have hsub := ba_sub
  have hown := ba_owner
  obtain ⟨hp, g, d, tk, os⟩ := s
  simp only [hown]
  wp_walk
  exact h
theorem endsWith_rel : ("bytearray.__release_buffer__".endsWith ("." ++ "__release_buffer__")) = true := by decide +kernel
theorem drop_rel : ("bytearray.__release_buffer__".dropRight (("__release_buffer__".length) + 1)) = "bytearray" := by decide +kernel
theorem own_release {a : Addr} {o : Obj} {Q : Bool → Shared → Prop} (ho : s.heap.get? a = some o) (hc : o.cls = .type "bytearray") (h : Q false s) :
    wpAny (model prog w) A (Bytes.ownRelease (.ref a)) Q E s := by
  have hT : s.TypeIs (.ref a) "bytearray" := ⟨o, ho, hc⟩
  skip
  refine wpAny_bind (wpAny_bind (wpAny_specialOf hT ba_no_release ?_))
  dsimp only
  rw [endsWith_rel, drop_rel]
  refine bm_if_false rfl ?_
  first
    | exact wpAny_isInstance hT ba_sub (wpAny_pure h)
    | exact wpAny_bind (wpAny_isInstance hT ba_sub (wpAny_pure h))
theorem ba_int_index : typeLookup (.type "int") "__index__" = pure (some (.builtin "int.__index__")) := F.slot_int_index.lookup
theorem upd_ba {a : Addr} {o : Obj} {x : Array UInt8} {f : Array UInt8 → Array UInt8} {Q : Unit → Shared → Prop} (ho : s.heap.get? a = some o) (hd : o.data = .bytearray x 0) (hsz : (f x).size ≤ sizeLine)
    (h : ∀ o', o'.cls = o.cls → o'.data = .bytearray (f x) 0 → ∀ h', h'.get? a = some o' → Heap.SameBut a s.heap h' → Q () { s with heap := h' }) :
    wpAny (model prog w) A (Bytes.write (.ref a) f) Q E s := by
  refine (?_ : wpAny _ _ (updateBytearray a f) _ _ _)
  skip
  refine wpAny_bind (wpAny_load ho ?_)
  refine hd.symm ▸ ?_
  refine (?_ : wpAny _ _ (update a (Obj.mapBytearray f) >>= fun _ => lookBehind a) _ _ _)
  refine wpAny_bind (wpAny_update ho ?_)
  have hm : (Obj.mapBytearray f o).data = .bytearray (f x) 0 := by
    obtain ⟨c, d, dat, sl⟩ := o
    simp only at hd
    subst hd
    rfl
  have hg : (s.heap.update a (Obj.mapBytearray f)).get? a = some (Obj.mapBytearray f o) := by
    refine Heap.get?_update_self _ ho ?_
    obtain ⟨c, d, dat, sl⟩ := o
    simp only at hd
    subst hd
    rfl
  refine wpAny_lookBehind hg ?_ (h _ ?_ hm _ hg (Heap.SameBut.update ..))
  · refine hm.symm ▸ ?_
    refine (?_ : (if (f x).size > sizeLine then some "bytearray:memory" else none) = none)
    rw [if_neg (by omega)]
  · obtain ⟨c, d, dat, sl⟩ := o
    simp only at hd
    subst hd
    rfl
end
end Mine.Internal
end
section
set_option maxRecDepth 100000
set_option backward.match.sparseCases false
namespace Mine.Internal
open PySem PyProof.Rows
open Sem (wp)
open Builtin
section
variable {prog : Program} {w : World} {A : Around} {E : Value → Shared → Prop} {s : Shared}
theorem checkCodec_no (a b c : String) : Bytes.checkCodecArg a b c none = pure () := rfl
set_option pp.maxSteps 400 in
theorem ba_init {a : Addr} {o : Obj} {n : Int} {t : Tok} {R : Result → Shared → Prop} {B : Around} (ho : s.heap.get? a = some o) (hc : o.cls = .type "bytearray") (hd : o.data = .bytearray #[] 0) (h0 : 0 ≤ n) (h1 : n ≤ 10000)
    (h : ∀ o', o'.cls = .type "bytearray" → o'.data = .bytearray (Array.replicate n.toNat 0) 0 → ∀ h', h'.get? a = some o' → Heap.SameBut a s.heap h' → R (.ok (.ret .none)) { s with heap := h' }) :
    wpP Clean (model prog w) A (Builtin.«bytearray.__init__» ⟨[.ref a, .int n t], []⟩) (finP Clean (model prog w) B R) (fun e s' => R (.error e) s') s := by
  skip
  skip
  refine wpP_leaf (own_release ho hc ?_)
  refine wpP_no rfl ?_
  refine wpP_bind (wpP_of_eq (ba_bind _) ?_)
  skip
  refine wpP_bind (wpP_of_eq (checkCodec_no _ _ _) ?_)
  refine wpP_bind (wpP_of_eq (checkCodec_no _ _ _) ?_)
  refine wpP_bind (wpP_bind (exported_no _ ?_))
  refine (?_ : wpP _ _ _ (Bytes.exportsOf (.ref a) >>= fun r => pure (decide (r > 0))) _ _ _)
  refine wpP_bind ?_
  skip
  refine wpP_leaf (wpAny_load ho ?_)
  refine hd.symm ▸ ?_
  skip
  refine wpP_pure (wpP_pure ?_)
  refine wpP_no (by decide) ?_
  refine wpP_leaf (upd_ba ho hd (by decide) fun o₁ hc₁ hd₁ h₁ hg₁ hs₁ => ?_)
  refine wpP_bind (wpP_of_eq (a := none) rfl ?_)
  refine wpP_no rfl ?_
  refine wpP_bind (wpP_of_eq (a := ()) rfl ?_)
  refine wpP_leaf (wpAny_specialOf (T := "int") (typeIs_int _ _ _) F.slot_int_index.lookup ?_)
  refine wpP_yes rfl ?_
  refine wpP_bind (wpP_attempt (wpP_of_eq (a := n) rfl ?_))
  skip
  refine wpP_no (by simp [Bytes.fitsIndex]; omega) ?_
  rw [if_neg (by omega)]
  refine wpP_no (by simp; omega) ?_
  refine wpP_no (by simp [Bytes.tooLong, sizeLine]; omega) ?_
  refine wpP_leaf (wpAny_rule ?_)
  by_cases hn : n > 0
  · rw [if_pos hn]
    refine wpP_leaf (upd_ba (s := { s with heap := h₁ }) hg₁ hd₁ (by simp [sizeLine]; omega) fun o₂ hc₂ hd₂ h₂ hg₂ hs₂ => ?_)
    exact wpP_pure (h o₂ (hc₂.trans (hc₁.trans hc)) hd₂ h₂ hg₂ (hs₁.trans hs₂))
  · rw [if_neg hn]
    have : n.toNat = 0 := by omega
    rw [this] at h
    exact wpP_pure (h o₁ (hc₁.trans hc) hd₁ h₁ hg₁ hs₁)
theorem callSpecialP {P : Ctx → Prop} {M : Model} {A : Around} {E : Value → Shared → Prop} {s : Shared} {self : Value} {T : String} {name : Str} {id : String} {args : List Value} {kw : List (Str × Value)}
    {Q : Option Value → Shared → Prop} (hT : s.TypeIs self T) (h : Slot T name id)
    (hc : wpP P M A (call (.builtin id) (self :: args) kw) (fun v => Q (some v)) E s) : wpP P M A (callSpecial? self name args kw) Q E s := by
  skip
  refine wpP_leaf (wpAny_specialOf hT h.lookup ?_)
  skip
  refine wpP_holding (wpP_bind (wpP_of_eq (h.bind self) ?_))
  dsimp only
  exact wpP_bind (wpP_mono hc (fun v s' hv => wpP_pure hv) fun _ _ x => x)
theorem holder_of {id : String} {args : Args} (h : (Builtin.Bytes.decodersThatHold.contains id || holderIds.contains id) = false) : holder (.builtin id args) = false := h
theorem ba_make {n : Int} {t : Tok} {Q : Value → Shared → Prop} (h0 : 0 ≤ n) (h1 : n ≤ 10000)
    (h : ∀ o' h', o'.cls = .type "bytearray" → o'.data = .bytearray (Array.replicate n.toNat 0) 0 → h'.get? s.heap.objs.size = some o' → (∀ b o, s.heap.get? b = some o → h'.get? b = some o) → Q (.ref s.heap.objs.size) { s with heap := h' }) :
    wpP Clean (model prog w) A (call (.type "bytearray") [.int n t]) Q E s := by
  have ft := ba_called
  refine wpP_call pl_clean (codeP_of_tree pl_clean ?_)
  show wpP _ _ _ (callAny (.type "bytearray") _) _ _ _
  refine wpP_pure ⟨Code.quiet_builtin _ (by decide +kernel), rfl, codeP_builtin pl_clean F.entry_type_call ?_⟩
  rw [Around.under_plain (weight_type_call_type "bytearray" [.int n t] []) rfl]
  unfold Builtin.«type.__call__»
  dsimp only
  refine wpP_no ft.notType ?_
  refine wpP_no ft.canCreate ?_
  refine wpP_bind (wpP_of_eq (ba_typeCall _) ?_)
  refine wpP_bind (wpP_of_eq ba_mro ?_)
  refine wpP_no rfl ?_
  refine wpP_bind (wpP_of_eq ft.made ?_)
  skip
  refine wpP_bind (wpP_pure ?_)
  refine wpP_leaf (wpAny_holding (wpAny_call (codeAny_mono (ba_new (E := fun _ _ => False) _ (Q₁ := fun v s₁ => v = .ref s.heap.objs.size ∧ s₁ = { s with heap := s.heap.push { cls := .type "bytearray", data := .bytearray #[] } }) ⟨rfl, rfl⟩) ?_)))
  intro r s₁ hr
  match r, hr with
  | .ok (.ret v), hr =>
    obtain ⟨rfl, rfl⟩ := hr
    have ho : (s.heap.push { cls := .type "bytearray", data := .bytearray #[] }).get? s.heap.objs.size = some { cls := .type "bytearray", data := .bytearray #[] } := Heap.get?_push_size _ rfl
    have hT : Shared.TypeIs { s with heap := s.heap.push { cls := .type "bytearray", data := .bytearray #[] } } (.ref s.heap.objs.size) "bytearray" := ⟨_, ho, rfl⟩
    refine (?_ : wpP _ _ _ _ _ _ _)
    refine wpP_leaf (wpAny_isInstance hT ba_sub ?_)
    refine wpP_no rfl ?_
    refine wpP_bind (wpP_holding (callSpecialP hT ba_slot_init (wpP_call pl_clean (codeP_call_builtin pl_clean ba_slot_init.plain (holder_of (by decide +kernel)) ba_entry_init ?_))))
    refine ba_slot_init.check _ _ _ _ _ _ _ _ hT (by unfold argsOk; kernel_rfl) ?_
    refine ba_init ho rfl rfl h0 h1 fun o' hc hd h' hg hs => ?_
    refine (?_ : wpP _ _ _ _ _ _ _)
    skip
    refine wpP_no rfl ?_
    exact wpP_pure (h o' h' hc hd hg fun b o e => (hs.2 b (Nat.ne_of_lt (Heap.lt_size e))).trans (Heap.get?_push_of_some _ e))
  | .ok .next, hr => exact hr.elim
  | .ok .brk, hr => exact hr.elim
  | .ok .cont, hr => exact hr.elim
  | .error e, hr => exact hr.elim
end
end Mine.Internal
end
section
set_option maxRecDepth 100000
set_option backward.match.sparseCases false
namespace Mine.Internal
open PySem PyProof.Rows
open Sem (wp)
open Builtin
theorem ba_no_bytes : typeLookup (.type "bytearray") "__bytes__" = pure none := by rw [typeLookup_type, builtinLookup_eq_fast]; kernel_rfl
theorem ba_no_index : typeLookup (.type "bytearray") "__index__" = pure none := by rw [typeLookup_type, builtinLookup_eq_fast]; kernel_rfl
theorem endsWith_buf : ("bytearray.__buffer__".endsWith ("." ++ "__buffer__")) = true := by decide +kernel
theorem drop_buf : ("bytearray.__buffer__".dropRight (("__buffer__".length) + 1)) = "bytearray" := by decide +kernel
theorem ba_slot_set : Slot "bytearray" "__setitem__" "bytearray.__setitem__" :=
  .of (owner := "bytearray") (n := "__setitem__") (by rw [typeLookup_type, builtinLookup_eq_fast]; kernel_rfl) (by decide +kernel) (by decide +kernel) (by decide +kernel)
    (by first | exact .inl (by decide +kernel) | exact .inr (by decide +kernel)) (by rw [isSubtype_type]; kernel_rfl)
theorem ba_entry_set : entryFor table "bytearray.__setitem__" = some Builtin.«bytearray.__setitem__» := by first | exact entryFor_of_fast (by kernel_rfl) | exact entryFor_of_tree (by kernel_rfl)
theorem ba_args_set (a b c : Value) : argsOk "bytearray.__setitem__" ⟨[a, b, c], []⟩ := by unfold argsOk; kernel_rfl
section
variable {prog : Program} {w : World} {A : Around} {E : Value → Shared → Prop} {s : Shared}
theorem own_buffer {a : Addr} {o : Obj} {Q : Bool → Shared → Prop} (ho : s.heap.get? a = some o) (hc : o.cls = .type "bytearray") (h : Q true s) :
    wpAny (model prog w) A (Bytes.slotIsOwn (.ref a) "__buffer__") Q E s := by
  have hT : s.TypeIs (.ref a) "bytearray" := ⟨o, ho, hc⟩
  skip
  refine wpAny_bind (wpAny_specialOf hT ba_buffer ?_)
  try dsimp only
  rw [endsWith_buf, drop_buf]
  refine bm_if_false rfl ?_
  exact wpAny_isInstance hT ba_sub h
theorem payload_ba {a : Addr} {o : Obj} {x : Array UInt8} {n : Nat} {Q : Array UInt8 → Shared → Prop} (ho : s.heap.get? a = some o) (hd : o.data = .bytearray x n) (h : Q x s) :
    wpAny (model prog w) A (Bytes.payload (.ref a)) Q E s := by
  skip
  refine wpAny_bind (wpAny_bind (wpAny_load ho ?_))
  refine hd.symm ▸ ?_
  exact wpAny_pure (wpAny_pure h)
theorem buffer_ba {a : Addr} {o : Obj} {x : Array UInt8} {id : String} {full : Bool} {Q : Option (Array UInt8) → Shared → Prop} (ho : s.heap.get? a = some o) (hc : o.cls = .type "bytearray") (hd : o.data = .bytearray x 0) (h : Q (some x) s) :
    wpAny (model prog w) A (Bytes.buffer? id (.ref a) full) Q E s := by
  have hT : s.TypeIs (.ref a) "bytearray" := ⟨o, ho, hc⟩
  skip
  refine wpAny_bind (wpAny_specialOf hT ba_buffer ?_)
  skip
  refine wpAny_bind (own_buffer ho hc ?_)
  refine bm_if_false rfl ?_
  refine wpAny_bind (wpAny_specialOf hT ba_buffer ?_)
  skip
  refine wpAny_bind (own_release ho hc ?_)
  refine bm_if_false rfl ?_
  exact wpAny_bind (payload_ba ho hd (wpAny_pure h))
set_option pp.maxSteps 300 in
theorem bytes_of_ba {a : Addr} {o : Obj} {x : Array UInt8} {Q : Value → Shared → Prop} (ho : s.heap.get? a = some o) (hc : o.cls = .type "bytearray") (hd : o.data = .bytearray x 0) (hz : x.size ≤ sizeLine)
    (hQ : ∀ t k, Q (.bytes x t) { s with toks := k }) : wpAny (model prog w) A (call (.type "bytes") [.ref a]) Q E s := by
  have hT : s.TypeIs (.ref a) "bytearray" := ⟨o, ho, hc⟩
  refine callType_codes (Q₁ := fun obj s₁ => s₁.TypeIs obj "bytes" ∧ Q obj s₁) F.bm_called (F.bm_typeCall _) F.entry_object_init ?_ fun obj s₁ h₁ => ?_
  · refine codeAny_of_tree ?_
    show wpAny _ A.in1.in1 (do checkBuiltinCall "bytes.__new__" ⟨[.type "bytes", .ref a], []⟩; again (.builtin "bytes.__new__" ⟨[.type "bytes", .ref a], []⟩)) _ _ s
    refine wpAny_bind (wpAny_of_eq (F.bm_newCall _) (wpAny_pure ⟨plainId_quiet F.bm_plain _, codeAny_builtin F.bm_entry ?_⟩))
    rw [Around.under_plainId F.bm_plain _]
    skip
    refine wpAny_bind (wpAny_of_eq (a := true) rfl ?_)
    refine bm_if_false rfl ?_
    refine wpAny_bind (wpAny_of_eq F.bm_sub ?_)
    refine bm_if_false rfl ?_
    refine wpAny_bind (wpAny_of_eq (F.bm_bind _) ?_)
    refine wpAny_bind (wpAny_of_eq (a := ()) rfl ?_)
    refine wpAny_bind (wpAny_of_eq (a := ()) rfl ?_)
    refine bm_if_false rfl ?_
    refine wpAny_bind (wpAny_specialOf hT ba_no_bytes ?_)
    refine wpAny_bind (wpAny_bind ?_)
    refine (?_ : wpAny _ _ (load a >>= _) _ _ _)
    refine wpAny_bind (wpAny_load ho ?_)
    refine hd.symm ▸ ?_
    refine wpAny_pure (wpAny_pure ?_)
    refine bm_if_false rfl ?_
    refine wpAny_bind (wpAny_specialOf hT ba_no_index ?_)
    refine bm_if_true rfl ?_
    first
      | show wpAny _ _ (Builtin.Bytes.buffer? "bytes.__new__" (.ref a) true >>= _) _ _ _
      | (refine wpAny_bind ?_; show wpAny _ _ (Builtin.Bytes.buffer? "bytes.__new__" (.ref a) true >>= _) _ _ _)
    refine wpAny_bind (buffer_ba ho hc hd ?_)
    refine wpAny_bind (wpAny_rule ?_)
    refine wpAny_bind (wpAny_mkBytes ?_ hz)
    refine (?_ : wpAny _ _ (if (Value.type "bytes" == Value.type "bytes") = true then _ else _) _ _ _)
    refine bm_if_true (by decide) ?_
    first
      | exact wpAny_pure ⟨PySem.W.typeIs_bytes _ _ _, hQ _ _⟩
      | exact wpAny_pure (wpAny_pure ⟨PySem.W.typeIs_bytes _ _ _, hQ _ _⟩)
      | exact wpAny_bind (wpAny_pure (wpAny_pure ⟨PySem.W.typeIs_bytes _ _ _, hQ _ _⟩))
  · exact ⟨h₁.1, F.args_object_init_2 obj _, object_init_meets F.bm_called.init.lookup F.bm_called.made (by decide) prog w A.in1 _ s₁ ⟨h₁.1, rfl, h₁.2⟩⟩
theorem seqIndex_in {i : Int} {n : Nat} (h0 : 0 ≤ i) (h1 : i < n) : seqIndex? i n = some i.toNat := by
  unfold seqIndex?
  simp only
  split <;> (try split) <;> first | rfl | omega | (simp_all; done) | (congr 1; omega) | skip
  all_goals (simp_all; try omega)
set_option pp.maxSteps 300 in
theorem set_ba {a : Addr} {o : Obj} {x : Array UInt8} {i c : Int} {t u : Tok} {Q : Value → Shared → Prop} (ho : s.heap.get? a = some o) (hc : o.cls = .type "bytearray") (hd : o.data = .bytearray x 0) (hz : x.size ≤ sizeLine)
    (h0 : 0 ≤ i) (h1 : i < x.size) (c0 : 0 ≤ c) (c1 : c < 256)
    (hQ : ∀ o' h', o'.cls = .type "bytearray" → o'.data = .bytearray (x.setIfInBounds i.toNat c.toNat.toUInt8) 0 → h'.get? a = some o' → Heap.SameBut a s.heap h' → Q .none { s with heap := h' }) :
    wpAny (model prog w) A (call (.builtin "bytearray.__setitem__") [.ref a, .int i t, .int c u]) Q E s := by
  have hT : s.TypeIs (.ref a) "bytearray" := ⟨o, ho, hc⟩
  refine wpAny_call_entry ba_slot_set hT ba_entry_set ?_ (ba_args_set _ _ _)
  unfold Builtin.«bytearray.__setitem__»
  try dsimp only
  refine bm_if_false rfl ?_
  refine wpAny_bind ?_
  skip
  refine wpAny_bind (wpAny_specialOf (T := "int") (typeIs_int _ _ _) F.slot_int_index.lookup ?_)
  refine bm_if_false rfl ?_
  refine wpAny_bind (wpAny_of_eq (a := i) rfl ?_)
  refine bm_if_false (by have : x.size ≤ 2 ^ 24 := by unfold sizeLine at hz; exact hz
                         simp [Bytes.fitsIndex]; omega) ?_
  refine wpAny_pure ?_
  skip
  refine wpAny_bind ?_
  skip
  refine wpAny_bind (wpAny_of_eq (a := c) rfl ?_)
  refine bm_if_false (by simp; omega) ?_
  refine wpAny_pure ?_
  refine wpAny_bind (payload_ba ho hd ?_)
  rw [seqIndex_in h0 (by omega)]
  skip
  refine wpAny_bind (upd_ba ho hd (by simpa using hz) fun o' hc' hd' h' hg hs => ?_)
  exact wpAny_pure ⟨_, rfl, hQ o' h' (hc'.trans hc) hd' hg hs⟩
end
end Mine.Internal
end
section
set_option maxRecDepth 100000
set_option backward.match.sparseCases false
namespace Mine.Internal
open PySem PyProof.Rows
open Sem (wp)
open Builtin
theorem forIn_steps {σ : Type} {α : Type} (S : Nat → σ) (N : Nat) (f : α → σ → Sem (ForInStep σ)) (hf : ∀ x p, p < N → f x (S p) = pure (.yield (S (p + 1)))) :
    ∀ (l : List α) (p : Nat), p + l.length ≤ N → forIn l (S p) f = pure (S (p + l.length))
  | [], p, _ => by simp
  | x :: l, p, h => by
    simp only [List.length_cons] at h
    rw [List.forIn_cons, hf x p (by omega)]
    refine (?_ : forIn l (S (p + 1)) f = _)
    rw [forIn_steps S N f hf l (p + 1) (by omega)]
    simp only [List.length_cons]
    congr 2; omega
theorem ascii_run {id : String} (b : List UInt8) (hb : asciiOk b = true) (hz : b.length ≤ sizeLine) : _codecs.runDecoder id _codecs.asciiDecoder none true b.toArray 0 [] = pure ((b.map UInt8.toNat).toArray, b.length) := by
  unfold _codecs.runDecoder
  simp only [Std.Legacy.Range.forIn_eq_forIn_range', Std.Legacy.Range.size]
  have key := forIn_steps (α := Nat) (fun p => (p, ((b.take p).map UInt8.toNat).toArray, ({ } : _codecs.Faults))) b.length
  simp only [List.size_toArray]
  have e0 : ((0 : Nat), (#[] : Array Nat), ({ } : _codecs.Faults)) = (fun p => (p, ((b.take p).map UInt8.toNat).toArray, ({ } : _codecs.Faults))) 0 := by simp
  refine e0.symm ▸ ?_
  rw [key]
  · simp
  · intro x p hp
    have h1 : ¬ ((b.take p).map UInt8.toNat).toArray.size > sizeLine := by simp; omega
    have h2 : ¬ p ≥ b.length := by omega
    simp only [h1, h2, if_false]
    have hlt : (b.toArray.getD p 0).toNat < 128 := by
      unfold asciiOk at hb
      rw [List.all_eq_true] at hb
      have hm : b[p] ∈ b := List.getElem_mem hp
      have := hb _ hm
      simp at this
      simpa [Array.getD, hp] using this
    have hf : _codecs.asciiDecoder.find true b.toArray p = .text [(b.toArray.getD p 0).toNat] (p + 1) := by
      refine (?_ : (if (b.toArray.getD p 0).toNat < 128 then _ else _) = _)
      rw [if_pos hlt]
      rfl
    refine hf.symm ▸ ?_
    skip
    congr 3
    have : b.toArray.getD p 0 = b[p] := by simp [Array.getD, hp]
    rw [this, List.take_add_one, List.getElem?_eq_getElem hp]
    simp only [List.map_append, List.map_cons, List.map_nil, Option.toList_some]
    simp
  · simp
theorem road_ascii {id : String} (b : Array UInt8) : _codecs.decodeRoad id b (Str.ofString "ascii") none [] = (_codecs.runDecoder id _codecs.asciiDecoder none true b 0 [] >>= fun r => mkStr ⟨r.1⟩) := by kernel_rfl
theorem str_ascii : (Str.mk #[97, 115, 99, 105, 105]) = Str.ofString "ascii" := by decide +kernel
theorem text_ascii (b : List UInt8) (t t1 t2 : Tok) (d : Str) (hb : asciiOk b = true) (hz : b.length ≤ sizeLine) :
    Meets («_codecs.decode.text» ⟨[.bytes b.toArray t, .str (Str.ofString "ascii") t1, .none, .str d t2], []⟩) (fun _ R s => R (.ok (.ret (.str ⟨(b.map UInt8.toNat).toArray⟩ s.toks))) { s with toks := s.toks + 1 }) := by
  refine .of_wp fun prog w A R s h => ?_
  refine (?_ : wpAny _ _ (Bytes.bytesLike _ (.bytes b.toArray t) >>= fun r => _) _ _ s)
  refine wpAny_bind (wpAny_of_eq PySem.W.KBd.like_eq ?_)
  refine wpAny_bind (wpAny_of_eq PySem.W.KBd.held_eq ?_)
  refine (?_ : wpAny _ _ (_codecs.decodeRoad _ b.toArray (Str.ofString "ascii") none [] >>= fun v => _) _ _ s)
  rw [road_ascii, ascii_run b hb hz]
  refine wpAny_bind (wpAny_bind (wpAny_pure ?_))
  exact wpAny_mkStr (wpAny_pure ⟨_, rfl, h⟩) (by simpa [Str.length] using hz)
theorem args_decode_2 (a b : Value) : argsOk "bytes.decode" ⟨[a, b], []⟩ := by unfold argsOk; kernel_rfl
theorem decode_ascii_tree {c : UInt8} {cs : List UInt8} {t u : Tok} : «bytes.decode» ⟨[.bytes (c :: cs).toArray t, .str (Str.ofString "ascii") u], []⟩ = (mkStr (Str.ofString "utf-8") >>= fun _ => mkStr (Str.ofString "ascii") >>= fun e => mkStr (Str.ofString "bytes.decode") >>= fun d =>
    call (.builtin "_codecs.decode.text") [.bytes (c :: cs).toArray t, e, .none, d] >>= fun v => ret v) := by kernel_rfl
theorem decode_empty_tree {t u : Tok} : «bytes.decode» ⟨[.bytes #[] t, .str (Str.ofString "ascii") u], []⟩ = (rule "bytes.decode.empty" >>= fun _ => retStr Str.empty) := by kernel_rfl
section
variable {prog : Program} {w : World} {A : Around} {E : Value → Shared → Prop} {s : Shared}
theorem decode_sound {b : List UInt8} {t u : Tok} {Q : Value → Shared → Prop} (hb : asciiOk b = true) (hz : b.length ≤ sizeLine) (h : ∀ t' k, Q (.str ⟨(b.map UInt8.toNat).toArray⟩ t') { s with toks := k }) :
    wpAny (model prog w) A (call (.builtin "bytes.decode") [.bytes b.toArray t, .str (Str.mk #[97, 115, 99, 105, 105]) u]) Q E s := by
  refine str_ascii.symm ▸ ?_
  cases b with
  | nil =>
    refine call_meets PySem.W.FB.slot_bytes_decode (PySem.W.typeIs_bytes _ _ _) PySem.W.FB.entry_bytes_decode (args_decode_2 _ _) (S := fun _ R s => ∀ t' k, R (.ok (.ret (.str ⟨#[]⟩ t'))) { s with toks := k }) ?_ h
    refine .of_wp fun prog w A R s h => ?_
    refine decode_empty_tree.symm ▸ ?_
    refine wpAny_bind (wpAny_rule ?_)
    exact wpAny_bind (wpAny_mkStr (wpAny_pure ⟨_, rfl, h _ _⟩) (by decide))
  | cons c cs =>
    refine call_meets PySem.W.FB.slot_bytes_decode (PySem.W.typeIs_bytes _ _ _) PySem.W.FB.entry_bytes_decode (args_decode_2 _ _) (S := fun _ R s => ∀ t' k, R (.ok (.ret (.str ⟨((c :: cs).map UInt8.toNat).toArray⟩ t'))) { s with toks := k }) ?_ h
    refine .of_wp fun prog w A R s h => ?_
    refine decode_ascii_tree.symm ▸ ?_
    refine wpAny_bind (wpAny_mkStr ?_ (by decide))
    refine wpAny_bind (wpAny_mkStr ?_ (by decide))
    refine wpAny_bind (wpAny_mkStr ?_ (by decide))
    exact wpAny_bind (call_function_meets PySem.W.KBd.kind_text PySem.W.KBd.plain_text PySem.W.KBd.entry_text (PySem.W.KBd.args_text _ _ _ _) (text_ascii _ _ _ _ _ hb hz) (wpAny_pure ⟨_, rfl, h _ _⟩))
end
end Mine.Internal
end
section
set_option maxRecDepth 100000
set_option backward.match.sparseCases false
namespace Mine.Internal
open PySem PyProof.Rows
open Sem (wp)
open Builtin
theorem foldl_bytes (x : List Nat) : ∀ acc : Array UInt8, x.foldl (fun acc y => acc ++ (_codecs.asciiCodec.bytesOf y).toArray) acc = acc ++ (x.map fun c => UInt8.ofNat c).toArray := by
  induction x with
  | nil => intro acc; simp
  | cons c r ih =>
    intro acc
    rw [List.foldl_cons, ih]
    simp [_codecs.asciiCodec]
    try rfl
theorem forIn_stop {σ α : Type} (S : σ) (f : α → σ → Sem (ForInStep σ)) (hf : ∀ x, f x S = pure (.done S)) : ∀ l : List α, forIn l S f = pure S
  | [] => by simp
  | x :: l => by rw [List.forIn_cons, hf x]; rfl
theorem loop2 {β : Type} {f : Nat → β → Sem (ForInStep β)} {init mid : β} (h1 : f 0 init = pure (.yield mid)) (h2 : ∀ i, f i mid = pure (.done mid)) (n : Nat) {l : List Nat} (hl : l = List.range' 0 (n + 1) 1) : forIn l init f = pure mid := by
  subst hl
  rw [List.range'_succ, List.forIn_cons, h1, pure_bind]
  cases n with
  | zero => rfl
  | succ n =>
    refine (?_ : forIn (List.range' 1 (n + 1) 1) mid f = _)
    rw [List.range'_succ, List.forIn_cons, h2, pure_bind]
theorem bind_l {α β : Type} {x y : Sem α} {k : α → Sem β} {z : Sem β} (h : x = y) (e : (y >>= k) = z) : (x >>= k) = z := by rw [h]; exact e
theorem ascii_clean {x : List Nat} (hbad : ∀ y ∈ x, _codecs.asciiCodec.bad y = false) : (((x.toArray.extract 0 x.toArray.size).findIdx? _codecs.asciiCodec.bad).getD (x.toArray.extract 0 x.toArray.size).size) = x.length := by
  have e : x.toArray.extract 0 x.toArray.size = x.toArray := by simp
  rw [e, Array.findIdx?_eq_none_iff.mpr (fun y hy => hbad y (List.mem_toArray.mp hy))]
  rfl
theorem narrow_ascii {id : String} {self : Value} (x : List Nat) (hx : x.all (· < 128) = true) (hz : x.length ≤ sizeLine) : _codecs.encodeNarrow id _codecs.asciiCodec none self ⟨x.toArray⟩ = pure (x.map fun c => UInt8.ofNat c).toArray := by
  have hbad : ∀ y ∈ x, _codecs.asciiCodec.bad y = false := fun y hy => by
    have := List.all_eq_true.mp hx y hy
    simp at this
    simp [_codecs.asciiCodec]; exact this
  cases x with
  | nil => exact bind_l (Std.Legacy.Range.forIn_eq_forIn_range' ..) rfl
  | cons c r =>
    have hcl := ascii_clean hbad
    have hc : _codecs.asciiCodec.bad c = false := hbad c (List.mem_cons_self ..)
    have e3 : Array.foldl (fun acc y => acc ++ (_codecs.asciiCodec.bytesOf y).toArray) #[] (((c :: r).toArray.extract 0 (c :: r).toArray.size).extract 0 (c :: r).length) = ((c :: r).map fun c => UInt8.ofNat c).toArray := by
      have e1 : ((c :: r).toArray.extract 0 (c :: r).toArray.size).extract 0 (c :: r).length = (c :: r).toArray := by simp
      rw [e1, List.foldl_toArray', foldl_bytes] <;> simp
    refine bind_l ((Std.Legacy.Range.forIn_eq_forIn_range' ..).trans (loop2 (mid := (0 + (c :: r).length, ((c :: r).map fun c => UInt8.ofNat c).toArray, {})) ?h1 ?h2 r.length (by simp [Std.Legacy.Range.size, Str.length]))) rfl
    case h1 =>
      refine (if_neg (show ¬ (#[] : Array UInt8).size > sizeLine by simp)).trans ?_
      refine (if_pos (show (!_codecs.asciiCodec.bad c) = true by rw [hc]; rfl)).trans ?_
      dsimp only
      rw [hcl, e3]
    case h2 =>
      intro i
      refine (if_neg (show ¬ ((c :: r).map fun c => UInt8.ofNat c).toArray.size > sizeLine by simp at hz ⊢; omega)).trans ?_
      have h2 : (c :: r).toArray[0 + (c :: r).length]? = none := by simp
      dsimp only
      rw [h2]
theorem road_enc {id : String} {self : Value} (x : Str) : _codecs.encodeRoad id self x (Str.ofString "ascii") none = (_codecs.encodeNarrow id _codecs.asciiCodec none self x >>= fun b => mkBytes b) := by kernel_rfl
theorem enc_tree {x : Str} {t u : Tok} : «str.encode» ⟨[.str x t, .str (Str.ofString "ascii") u], []⟩ = (_codecs.encodeRoad "str.encode" (.str x t) x (Str.ofString "ascii") none >>= fun v => ret v) := by kernel_rfl
theorem args_encode_2 (a b : Value) : argsOk "str.encode" ⟨[a, b], []⟩ := by unfold argsOk; kernel_rfl
section
variable {prog : Program} {w : World} {A : Around} {E : Value → Shared → Prop} {s : Shared}
theorem encode_sound {x : List Nat} {t u : Tok} {Q : Value → Shared → Prop} (hb : x.all (· < 128) = true) (hz : x.length ≤ sizeLine) (h : ∀ t' k, Q (.bytes (x.map fun c => UInt8.ofNat c).toArray t') { s with toks := k }) :
    wpAny (model prog w) A (call (.builtin "str.encode") [.str ⟨x.toArray⟩ t, .str (Str.mk #[97, 115, 99, 105, 105]) u]) Q E s := by
  refine str_ascii.symm ▸ ?_
  refine call_meets F.slot_str_encode (typeIs_str _ _ _) F.entry_str_encode (args_encode_2 _ _) (S := fun _ R s => ∀ t' k, R (.ok (.ret (.bytes (x.map fun c => UInt8.ofNat c).toArray t'))) { s with toks := k }) ?_ h
  refine .of_wp fun prog w A R s h => ?_
  rw [enc_tree, road_enc, narrow_ascii x hb hz]
  exact wpAny_bind (wpAny_bind (wpAny_pure (wpAny_mkBytes (wpAny_pure ⟨_, rfl, h _ _⟩) (by simpa using hz))))
end
theorem joinN_flat : ∀ l : List (List Nat), joinN [] l = l.flatten
  | [] => rfl
  | [x] => by simp [joinN]
  | x :: y :: r => by
    have := joinN_flat (y :: r)
    simp only [joinN, List.append_nil] at this ⊢
    rw [this]; simp
theorem joinB_flat : ∀ l : List (List UInt8), joinB [] l = l.flatten
  | [] => rfl
  | [x] => (List.append_nil x).symm
  | x :: y :: r => by
    have := joinB_flat (y :: r)
    refine (?_ : x ++ [] ++ joinB [] (y :: r) = (x :: y :: r).flatten)
    rw [this]; simp
theorem foldl_strs (l : List (List Nat)) : ∀ acc : Array Nat, (l.map fun x => Str.mk x.toArray).foldl (fun acc p => acc ++ Str.empty.cps ++ p.cps) acc = acc ++ l.flatten.toArray := by
  induction l with
  | nil => intro acc; simp
  | cons x r ih =>
    intro acc
    rw [List.map_cons, List.foldl_cons, ih]
    simp [Str.empty]
theorem txt_join (l : List (List Nat)) : PySem.Builtin.Str.glued ⟨#[]⟩ (l.map fun x => Str.mk x.toArray) = ⟨l.flatten.toArray⟩ := by
  unfold PySem.Builtin.Str.glued
  cases l with
  | nil => rfl
  | cons x r =>
    have := foldl_strs r x.toArray
    simp only [List.map_cons, List.drop_succ_cons, List.drop_zero, List.headD_cons]
    congr 1
    refine Eq.trans ?_ (this.trans ?_)
    · rfl
    · simp
theorem strs_are {h₀ : Heap} {as : List Addr} : ∀ {its : List Value} {ss : List (List Nat)}, Paired (VR h₀ as) its (ss.map .str) → StrsAre its (ss.map fun x => Str.mk x.toArray)
  | _, [], h => by cases h; exact .nil
  | _, x :: r, h => by
    cases h with
    | cons hv ht =>
      apply exE hv; intro t; clear hv
      exact .cons _ _ (strs_are ht)
theorem sum_len : ∀ l : List (List Nat), ((l.map fun x => Str.mk x.toArray).map (·.length)).sum = l.flatten.length
  | [] => rfl
  | x :: r => by simp only [List.map_cons, List.sum_cons, sum_len r]; simp [Str.length]
section
variable {prog : Program} {w : World} {A : Around} {s : Shared} {h₀ : Heap} {as : List Addr} {σ σ' : Sto}
theorem joinS_sound {D : Addr} {its : List Value} {ss : List (List Nat)} {t : Tok} {Q : Value → Shared → Prop} {E : Value → Shared → Prop} (hl : s.heap.IsList D its.toArray) (hi : Paired (VR h₀ as) its (ss.map .str)) (hz : ss.flatten.length ≤ lim)
    (h : ∀ t' k, Q (.str ⟨ss.flatten.toArray⟩ t') { s with toks := k }) : wpAny (model prog w) A (call (.builtin "str.join") [.str ⟨#[]⟩ t, .ref D]) Q E s := by
  refine join_list hl (strs_are hi) ?_ fun t' k => ?_
  · rw [sum_len]
    have e : (Str.mk #[]).length = 0 := rfl
    refine e.symm ▸ ?_
    unfold lim at hz; omega
  · have := txt_join ss
    refine (?_ : Q (.str (PySem.Builtin.Str.glued ⟨#[]⟩ (ss.map fun x => Str.mk x.toArray)) t') _)
    rw [this]; exact h t' k
end
end Mine.Internal
end
section
set_option maxRecDepth 100000
set_option backward.match.sparseCases false
namespace Mine.Internal
open PySem PyProof.Rows
open Sem (wp)
open Builtin
theorem bj_slot : Slot "bytes" "join" "bytes.join" :=
  .of (owner := "bytes") (n := "join") (by rw [typeLookup_type, builtinLookup_eq_fast]; kernel_rfl) (by decide +kernel) (by decide +kernel) (by decide +kernel)
    (by first | exact .inl (by decide +kernel) | exact .inr (by decide +kernel)) (by rw [isSubtype_type]; kernel_rfl)
theorem bj_type : typeOf (.builtin "bytes.join") = pure (.type "method_descriptor") := by show builtinType _ = _; rw [builtinType_eq_fast]; kernel_rfl
theorem bj_entry : entryFor table "bytes.join" = some Builtin.«bytes.join» := by first | exact entryFor_of_fast (by kernel_rfl) | exact entryFor_of_tree (by kernel_rfl)
theorem bj_args (a b : Value) : argsOk "bytes.join" ⟨[a, b], []⟩ := by unfold argsOk; kernel_rfl
theorem takeBuf_eq {id : String} {b : Array UInt8} {t : Tok} : Bytes.takeBufferQuiet? id (.bytes b t) 0 = pure (some (b, none)) := by
  have h1 : Bytes.takeBuffer? id (.bytes b t) 0 = pure (some (b, none)) := by
    unfold Bytes.takeBuffer?
    rw [PySem.W.KBy.special_eq PySem.W.KBy.look_buffer, PySem.W.KBy.own_buffer]
    refine (?_ : (do return (← Bytes.buffer? id (.bytes b t) (full := (0 : Int) == Bytes.fullReadOnly)).map (·, none)) = _)
    have : ((0 : Int) == Bytes.fullReadOnly) = false := by decide
    refine this.symm ▸ ?_
    rw [PySem.W.KBy.buffer_eq]
    rfl
  unfold Bytes.takeBufferQuiet?
  rw [h1]
  rfl
theorem joined_eq (l : List (List UInt8)) : Bytes.joined #[] (l.map (·.toArray)) = l.flatten.toArray := by
  unfold Bytes.joined
  have key : ∀ (l : List (List UInt8)) (k : Nat) (acc : Array UInt8), ((l.map (·.toArray)).zipIdx k).foldl (fun out (p : Array UInt8 × Nat) => (if p.2 > 0 then out ++ #[] else out) ++ p.1) acc = acc ++ l.flatten.toArray := by
    intro l
    induction l with
    | nil => intro k acc; simp
    | cons x r ih =>
      intro k acc
      rw [List.map_cons, List.zipIdx_cons, List.foldl_cons, ih]
      simp
  have := key l 0 #[]
  simpa using this
theorem letGo_taken {M : Model} {A : Around} {E : Value → Shared → Prop} {s : Shared} {keep : List Value} {Q : Unit → Shared → Prop} : ∀ (l : List Value), Q () s → wpAny M A (Bytes.joinLetGo (l.map fun x => (x, none)) keep) Q E s
  | [], h => wpAny_pure h
  | x :: r, h => by
    rw [List.map_cons]
    unfold Bytes.joinLetGo
    exact wpAny_bind (wpAny_letGo (letGo_taken r h))
section
variable {prog : Program} {w : World} {A : Around} {s : Shared} {h₀ : Heap} {as : List Addr} {σ σ' : Sto}
theorem byts_vals {h₀ : Heap} {as : List Addr} : ∀ {its : List Value} {ss : List (List UInt8)}, Paired (VR h₀ as) its (ss.map .bytes) → ∀ {i : Nat} {b : List UInt8}, ss[i]? = some b → ∃ t, its[i]? = some (.bytes b.toArray t)
  | _, [], h, i, b, e => by simp at e
  | _, x :: r, h, i, b, e => by
    cases h with
    | cons hv ht =>
      cases i with
      | zero =>
        simp at e; subst e
        apply exE hv; intro t; clear hv
        exact ⟨t, rfl⟩
      | succ i =>
        simp at e
        obtain ⟨t, ht'⟩ := byts_vals ht e
        exact ⟨t, by simpa using ht'⟩
set_option pp.maxSteps 500 in
theorem joinB_sound {D : Addr} {its : List Value} {ss : List (List UInt8)} {t : Tok} {Q : Value → Shared → Prop} {E : Value → Shared → Prop} (hl : s.heap.IsList D its.toArray) (hi : Paired (VR h₀ as) its (ss.map .bytes)) (hz : ss.flatten.length ≤ lim) (h2 : 2 ≤ ss.length)
    (h : ∀ t' k, Q (.bytes ss.flatten.toArray t') { s with toks := k }) : wpAny (model prog w) A (call (.builtin "bytes.join") [.bytes #[] t, .ref D]) Q E s := by
  refine elEAAE (id hl) fun o ho hc n hd => ?_
  have hlen : its.length = ss.length := by have := paired_length hi; simpa using this
  refine wpAny_call_entry bj_slot (PySem.W.typeIs_bytes _ _ _) bj_entry ?_ (bj_args _ _)
  show wpAny _ _ (Bytes.joinM .bytes ⟨[.bytes #[] t, .ref D], []⟩) _ _ _
  unfold Bytes.joinM
  refine wpAny_bind (wpAny_of_eq (a := (.bytes #[] t, .ref D)) rfl ?_)
  dsimp only
  refine wpAny_bind ?_
  unfold Bytes.joinItems
  refine wpAny_bind (wpAny_typeOf hl.typeIs ?_)
  refine bm_if_true (by decide) (wpAny_pure ?_)
  refine wpAny_bind (wpAny_seqItems ho hd ?_)
  dsimp only
  refine bm_if_true (by decide) ?_
  have two : ∃ x y r, its = x :: y :: r := by
    match its, hlen with
    | [], e => simp at e; omega
    | [_], e => simp at e; omega
    | x :: y :: r, _ => exact ⟨x, y, r, rfl⟩
  refine elEEE two fun x0 y0 r0 e0 => ?_
  try clear two
  subst e0
  refine wpAny_bind ?_
  generalize hits : x0 :: y0 :: r0 = its at *
  rw [Std.Legacy.Range.forIn_eq_forIn_range']
  refine wpAny_forIn_list _ (fun rest st s' => s' = s ∧ ∃ k, rest = List.range' k (ss.length - k) ∧ k ≤ ss.length ∧ st = (((ss.take k).map (·.toArray)).toArray, (its.take k).map fun x => (x, none))) _ ?_ ?_ _ _ ⟨rfl, 0, by simp [Std.Legacy.Range.size, hlen], Nat.zero_le _, by simp⟩
  · rintro i rest st s' ⟨rfl, k, hr, hk, rfl⟩
    have hlt : k < ss.length := by
      rcases Nat.lt_or_ge k ss.length with q | q
      · exact q
      · have : ss.length - k = 0 := by omega
        rw [this] at hr; cases hr
    have e : ss.length - k = (ss.length - (k + 1)) + 1 := by omega
    rw [e, List.range'_succ] at hr
    injection hr with hi' hrest
    subst hi'
    obtain ⟨tb, hb⟩ := byts_vals hi (List.getElem?_eq_getElem hlt)
    have hget : its.toArray.getD i .none = .bytes (ss[i]).toArray tb := by
      simp [Array.getD_eq_getD_getElem?, hb]
    refine wpAny_bind (wpAny_seqItems ho hd ?_)
    skip
    refine bm_if_false ?_ ?_
    · simp only [Bool.or_eq_false_iff]
      refine ⟨by decide, ?_⟩
      rw [List.any_eq_false]
      intro y hy
      refine elEA (List.mem_map.mp hy) fun z hz' eq115x1 => ?_
      subst eq115x1
      obtain ⟨j, hj, rfl⟩ := List.getElem_of_mem hz'
      have hj' : j < ss.length := by simp at hj; omega
      obtain ⟨t3, h3⟩ := byts_vals hi (List.getElem?_eq_getElem hj')
      have : (its.take i)[j] = .bytes (ss[j]).toArray t3 := by
        rw [List.getElem_take]
        have := (List.getElem?_eq_some_iff.mp h3).2
        exact this
      rw [this]; simp [Value.onHeap]
    · rw [hget, takeBuf_eq]
      refine wpAny_bind (wpAny_holding (wpAny_pure ?_))
      skip
      refine wpAny_bind (wpAny_seqItems ho hd ?_)
      skip
      refine bm_if_false (by simp) (wpAny_pure ⟨rfl, i + 1, hrest, hlt, ?_⟩)
      congr 1
      · rw [List.take_add_one, List.getElem?_eq_getElem hlt]
        simp only [List.map_append, List.map_cons, List.map_nil, Option.toList_some]
        simp
      · rw [List.take_add_one, hb]; simp
  · rintro st s' ⟨rfl, k, hr, hk, rfl⟩
    have hk' : k = ss.length := by
      rcases Nat.lt_or_ge k ss.length with q | q
      · have e : ss.length - k = (ss.length - (k + 1)) + 1 := by omega
        rw [e, List.range'_succ] at hr; cases hr
      · omega
    subst hk'
    refine wpAny_bind (wpAny_of_eq (a := (#[] : Array UInt8)) rfl ?_)
    have e1 : (List.map (fun x => x.toArray) (List.take ss.length ss)).toArray.toList = ss.map (·.toArray) := by simp
    have e2 : List.foldl (fun (a : Nat) (b : Array UInt8) => a + b.size) 0 (ss.map (·.toArray)) = ss.flatten.length := by
      have key : ∀ (l : List (List UInt8)) (a : Nat), List.foldl (fun (a : Nat) (b : Array UInt8) => a + b.size) a (l.map (·.toArray)) = a + l.flatten.length := by
        intro l
        induction l with
        | nil => intro a; simp
        | cons x r ih => intro a; rw [List.map_cons, List.foldl_cons, ih]; simp; omega
      simpa using key ss 0
    refine bm_if_false ?_ ?_
    · rw [← Array.foldl_toList, e1]
      have : (#[] : Array UInt8).size * ((List.map (fun x => x.toArray) (List.take ss.length ss)).toArray.size - 1) = 0 := by simp
      rw [this, e2]
      unfold lim at hz
      unfold Bytes.tooLong sizeLine
      exact decide_eq_false (by omega)
    rw [e1, joined_eq]
    refine wpAny_bind (wpAny_mkBytes ?_ (by unfold lim at hz; unfold sizeLine; rw [List.size_toArray]; omega))
    refine wpAny_bind (wpAny_holding (wpAny_point ?_))
    refine wpAny_bind (letGo_taken _ ?_)
    exact wpAny_pure ⟨_, rfl, h _ _⟩
end
end Mine.Internal
end
section
set_option maxRecDepth 100000
set_option backward.match.sparseCases false
namespace Mine.Internal
open PySem PyProof.Rows
theorem byteArr_eq (is : List Int) : byteArr is = (is.map fun i => UInt8.ofNat i.toNat).toArray := rfl
theorem paired1 {α β : Type} {F : α → β → Prop} {a : List α} {q : β} (h : Paired F a [q]) : ∃ v, a = [v] ∧ F v q := by
  cases h with
  | cons h1 ht => cases ht; exact ⟨_, rfl, h1⟩
section
variable {prog : Program} {w : World} {A : Around} {s : Shared} {h₀ : Heap} {as : List Addr} {σ σ' : Sto}
theorem list_of {n : Nat} {vs : List PV} {is : List Int} {a : Addr} (I : Inv h₀ s.heap as σ) (hv : listAt σ (.ref n) = some vs) (hi : pvInts vs = some is) (ha : as[n]? = some a) :
    ∃ its : List Value, s.heap.IsList a its.toArray ∧ IntsAre its is := by
  refine elEA (I.list hv ha) fun its hp hvs => ?_
  exact ⟨its, hp.isList, ints_are hi hvs⟩
theorem len_sound {v : PV} {vv : Value} {i : Int} (h : lenV σ v = some i) (I : Inv h₀ s.heap as σ) (hv : VR h₀ as vv v) :
    wpAny (model prog w) A (call (.builtin "len") [vv]) (EP h₀ s as (.int i) σ) (fun _ _ => False) s := by
  cases v with
  | str x =>
    refine iteE h fun hx zz => ?_
    clear h
    rename _ => h
    cases h
    apply exE hv; intro t; clear hv
    exact PySem.P.len_str (by show ¬ (x.length : Int) ≥ 2 ^ 63; unfold lim at hx; omega) (EP.toks I vr_int)
  | bytes x =>
    refine iteE h fun hx zz => ?_
    clear h
    rename _ => h
    cases h
    apply exE hv; intro t; clear hv
    exact PySem.W.len_bytes (by show x.length ≤ _; unfold lim at hx; omega) (EP.toks I vr_int)
  | ref n =>
    refine bindE h fun us hl zz => ?_
    clear h
    refine iteE zz fun hx h => ?_
    clear zz
    cases h
    refine elEA hv fun a eq37x1 ha => ?_
    try clear hv
    subst eq37x1
    refine elEA (I.list hl ha) fun its hp hvs => ?_
    have e := paired_length hvs
    refine PySem.Calls.call_len_list hp.isList (by rw [List.size_toArray, e]; unfold lim at hx; omega) ?_
    rw [List.size_toArray, e]
    exact EP.toks I vr_int
  | _ => exact noE h
theorem best_ok {f : Int → Int → Int} {l : List Int} {k : Int} (h : best f l = some k) : ∃ i r, l = i :: r ∧ k = r.foldl f i := by
  cases l with
  | nil => cases h
  | cons i r => cases h; exact ⟨i, r, rfl, rfl⟩
theorem intsAt_of {v : PV} {vv : Value} {is : List Int} (h : intsAt σ v = some is) (I : Inv h₀ s.heap as σ) (hv : VR h₀ as vv v) : ∃ a its, vv = .ref a ∧ s.heap.IsList a (List.toArray its) ∧ IntsAre its is := by
  refine bindE h fun us hl hi => ?_
  clear h
  refine elEA (listAt_ref hl) fun n eq50x2 _ => ?_
  subst eq50x2
  refine elEA hv fun a eq51x3 ha => ?_
  try clear hv
  subst eq51x3
  refine elEA (list_of I hl hi ha) fun its h1 h2 => ?_
  exact ⟨a, its, rfl, h1, h2⟩
theorem bytesV_sound {v : PV} {vv : Value} {x : List UInt8} (h : bytesV σ v = some x) (hh : A.handled = none) (I : Inv h₀ s.heap as σ) (hv : VR h₀ as vv v) :
    wpAny (model prog w) A (call (.type "bytes") [vv]) (EP h₀ s as (.bytes x) σ) (fun _ _ => False) s := by
  cases v with
  | ref n =>
    refine bindE h fun o hs zz => ?_
    clear h
    rename _ => h
    refine elEA hv fun a eq59x4 ha => ?_
    try clear hv
    subst eq59x4
    cases o with
    | list us =>
      refine bindE h fun is hi zz => ?_
      clear h
      refine iteE zz fun hx h => ?_
      clear zz
      cases h
      refine elEA (I.obj n a _ ha hs) fun its hp hvs => ?_
      have hI := ints_are hi hvs
      have hr := List.all_eq_true.mp hx.2
      exact call_bytes_ints hp.isList hI (fun m hm => of_decide_eq_true (hr m hm)) (by rw [hI.length]; exact Nat.le_trans hx.1 (by decide)) hh fun h' t k hk => EP.heap I hk vr_bytes
    | ba y =>
      refine iteE h fun hx zz => ?_
      clear h
      rename _ => h
      cases h
      refine elEAA (I.obj n a _ ha hs) fun o ho hc hd => ?_
      exact bytes_of_ba ho hc hd (Nat.le_trans hx (by decide)) fun t k => EP.toks I vr_bytes
    | _ => exact noE h
  | _ => exact noE h
theorem bcall_sound {f : Str} {bv : Value} {ps : List PV} {vs : List Value} {p : PV} (hb : bval f = some bv) (h : bcall f ps σ = some (p, σ')) (hh : A.handled = none) (I : Inv h₀ s.heap as σ) (hv : Paired (VR h₀ as) vs ps) :
    wpAny (model prog w) A (call bv vs) (EP h₀ s as p σ') (fun _ _ => False) s := by
  refine bindE h fun v h1 zz => ?_
  clear h
  rename _ => h
  rw [one1_some h1] at hv
  refine elEA (paired1 hv) fun vv eq79x5 hw => ?_
  subst eq79x5
  replace hv := hw
  refine ite2 h (fun hf h => ?_) fun n1 h => ite2 h (fun hf h => ?_) fun n2 h => ite2 h (fun hf h => ?_) fun n3 h => ite2 h (fun hf h => ?_) fun n4 h => ite2 h (fun hf h => ?_) fun n5 h => iteE h fun hf h => ?_ <;> subst hf
  · refine mapE h fun i hi zz => ?_
    clear h
    rename _ => h
    cases h
    cases hb
    exact len_sound hi I hv
  · refine bindE h fun i hi zz => ?_
    clear h
    refine iteE zz fun hx h => ?_
    clear zz
    apply spE h; clear h
    cases hb
    rw [asInt_ok hi] at hv
    apply exE hv; intro t; clear hv
    exact PySem.P.chr_of_int (by simp; omega) (EP.toks I vr_str)
  · refine mapE h fun k hk h => bindE hk fun is hi hk => ?_
    cases h
    cases hb
    refine elEEA (best_ok hk) fun i r eq95x6 eq95x7 => ?_
    subst eq95x6
    subst eq95x7
    refine elEEAA (intsAt_of hi I hv) fun a its eq96x8 hL hI => ?_
    subst eq96x8
    exact min_sound hh hL hI fun h' t tk hk => EP.heap I hk vr_int
  · refine mapE h fun k hk h => bindE hk fun is hi hk => ?_
    cases h
    cases hb
    refine elEEA (best_ok hk) fun i r eq101x9 eq101x10 => ?_
    subst eq101x9
    subst eq101x10
    refine elEEAA (intsAt_of hi I hv) fun a its eq102x11 hL hI => ?_
    subst eq102x11
    exact max_sound hh hL hI fun h' t tk hk => EP.heap I hk vr_int
  · refine bindE h fun is hi zz => ?_
    clear h
    refine iteE zz fun hx h => ?_
    clear zz
    apply spE h; clear h
    cases hb
    refine elEEAA (intsAt_of hi I hv) fun a its eq107x12 hL hI => ?_
    subst eq107x12
    exact sum_sound hh hL hI fun h' t tk hk => EP.heap I hk vr_int
  · refine mapE h fun x hx zz => ?_
    clear h
    rename _ => h
    cases h
    cases hb
    exact bytesV_sound hx hh I hv
noncomputable def MidF (T : String) (name : Str) (id : String) : Prop := PlainAttrs T ∧ Slot T name id ∧ typeOf (.builtin id) = pure (.type "method_descriptor")
theorem mid_list {name : Str} {m : String × String} {Q : Prop} (h : (if name = "append" then some ("list", "list.append") else if name = "count" then some ("list", "list.count") else if name = "index" then some ("list", "list.index") else none) = some m)
    (k : (name = "append" ∧ m.2 = "list.append") ∨ (name = "count" ∧ m.2 = "list.count") ∨ (name = "index" ∧ m.2 = "list.index") → m.1 = "list" → MidF m.1 name m.2 → Q) : Q := by
  refine ite2 h (fun e h => ?_) fun _ h => ite2 h (fun e h => ?_) fun _ h => iteE h fun e h => ?_ <;> subst e <;> cases h
  · exact k (.inl ⟨rfl, rfl⟩) rfl ⟨F.plainAttrs_list, F.slot_list_append, F.type_list_append⟩
  · exact k (.inr (.inl ⟨rfl, rfl⟩)) rfl ⟨F.plainAttrs_list, F.slot_list_count, F.type_list_count⟩
  · exact k (.inr (.inr ⟨rfl, rfl⟩)) rfl ⟨F.plainAttrs_list, F.slot_list_index, F.type_list_index⟩
theorem mid_byts {name : Str} {m : String × String} {Q : Prop} (h : (if name = "decode" then some ("bytes", "bytes.decode") else if name = "join" then some ("bytes", "bytes.join") else none) = some m)
    (k : (name = "decode" ∧ m.2 = "bytes.decode") ∨ (name = "join" ∧ m.2 = "bytes.join") → m.1 = "bytes" → MidF m.1 name m.2 → Q) : Q := by
  refine ite2 h (fun e h => ?_) fun _ h => iteE h fun e h => ?_ <;> subst e <;> cases h
  · exact k (.inl ⟨rfl, rfl⟩) rfl ⟨PySem.W.FB.plainAttrs_bytes, PySem.W.FB.slot_bytes_decode, PySem.W.FB.type_bytes_decode⟩
  · exact k (.inr ⟨rfl, rfl⟩) rfl ⟨PySem.W.FB.plainAttrs_bytes, bj_slot, bj_type⟩
theorem mid_str {name : Str} {m : String × String} {Q : Prop} (h : (if name = "encode" then some ("str", "str.encode") else if name = "join" then some ("str", "str.join") else none) = some m)
    (k : (name = "encode" ∧ m.2 = "str.encode") ∨ (name = "join" ∧ m.2 = "str.join") → m.1 = "str" → MidF m.1 name m.2 → Q) : Q := by
  refine ite2 h (fun e h => ?_) fun _ h => iteE h fun e h => ?_ <;> subst e <;> cases h
  · exact k (.inl ⟨rfl, rfl⟩) rfl ⟨F.plainAttrs_str, F.slot_str_encode, F.type_str_encode⟩
  · exact k (.inr ⟨rfl, rfl⟩) rfl ⟨F.plainAttrs_str, F.slot_str_join, F.type_str_join⟩
theorem mid_ok {name : Str} {o : PV} {m : String × String} {vo : Value} (h : mid name o σ = some m) (I : Inv h₀ s.heap as σ) (ho : VR h₀ as vo o) :
    s.TypeIs vo m.1 ∧ ∀ a, vo = .ref a → ∃ ob, s.heap.get? a = some ob ∧ ob.dict = none := by
  cases o with
  | ref n =>
    refine bindE h fun us hs zz => ?_
    clear h
    rename _ => h
    refine elEA ho fun a eq138x13 ha => ?_
    try clear ho
    subst eq138x13
    refine elEA (I.list hs ha) fun its pt139x14 hvs => ?_
    obtain ⟨k, hg⟩ := pt139x14
    refine mid_list h fun _ e _ => ?_
    refine e.symm ▸ ?_
    exact ⟨⟨_, hg, rfl⟩, fun b e => by cases e; exact ⟨_, hg, rfl⟩⟩
  | bytes x =>
    apply exE ho; intro t; clear ho
    refine mid_byts h fun _ e _ => ?_
    refine e.symm ▸ ?_
    exact ⟨rfl, fun b e => nomatch e⟩
  | str x =>
    apply exE ho; intro t; clear ho
    refine mid_str h fun _ e _ => ?_
    refine e.symm ▸ ?_
    exact ⟨rfl, fun b e => nomatch e⟩
  | _ => exact noE h
theorem mid_facts {name : Str} {o : PV} {m : String × String} (h : mid name o σ = some m) : MidF m.1 name m.2 := by
  cases o with
  | ref n => exact bindE h fun us hs h => mid_list h fun _ _ k => k
  | bytes x => exact mid_byts h fun _ _ k => k
  | str x => exact mid_str h fun _ _ k => k
  | _ => exact noE h
theorem mList_sound {name : Str} {n : Nat} {v : PV} {id : String} {vo u : Value} {p : PV} (hm : (name = "append" ∧ id = "list.append") ∨ (name = "count" ∧ id = "list.count") ∨ (name = "index" ∧ id = "list.index")) (h : mList name n v σ = some (p, σ')) (I : Inv h₀ s.heap as σ) (ho : VR h₀ as vo (.ref n)) (hv : VR h₀ as u v) :
    wpAny (model prog w) A (call (.builtin id) [vo, u]) (EP h₀ s as p σ') (fun _ _ => False) s := by
  rcases hm with ⟨rfl, rfl⟩ | ⟨rfl, rfl⟩ | ⟨rfl, rfl⟩
  · refine bindE (iteT rfl h) fun us hs h => iteE h fun hx h => ?_
    apply spE h; clear h
    refine elEA ho fun a eq167x15 ha => ?_
    try clear ho
    subst eq167x15
    exact append_sound I ha (listAt_eq hs) hv hx
  · refine bindE (iteT rfl (iteF (by decide) h)) fun i hi h => bindE h fun is hs h => iteE h fun hx h => ?_
    apply spE h; clear h
    rw [asInt_ok hi] at hv
    apply exE hv; intro t; clear hv
    refine elEEAA (intsAt_of hs I ho) fun a its eq173x16 hL hI => ?_
    subst eq173x16
    exact count_list_ints hL hI (EP.toks I vr_int)
  · refine bindE (iteT rfl (iteF (by decide) (iteF (by decide) h))) fun i hi h => bindE h fun is hs h => iteE h fun hx h => ?_
    apply spE h; clear h
    rw [asInt_ok hi] at hv
    apply exE hv; intro t; clear hv
    refine elEEAA (intsAt_of hs I ho) fun a its eq179x17 hL hI => ?_
    subst eq179x17
    exact index_sound hL hI hx.1 hx.2 (EP.toks I vr_int)
theorem mByts_sound {name : Str} {x : List UInt8} {v : PV} {id : String} {t : Tok} {u : Value} {p : PV} (hm : (name = "decode" ∧ id = "bytes.decode") ∨ (name = "join" ∧ id = "bytes.join")) (h : mByts name x v σ = some (p, σ')) (I : Inv h₀ s.heap as σ) (hv : VR h₀ as u v) :
    wpAny (model prog w) A (call (.builtin id) [.bytes x.toArray t, u]) (EP h₀ s as p σ') (fun _ _ => False) s := by
  rcases hm with ⟨rfl, rfl⟩ | ⟨rfl, rfl⟩
  · refine bindE (iteT rfl h) fun e he h => iteE h fun hx h => ?_
    apply spE h; clear h
    refine elAA hx fun h1 h2 eq186x18 => ?_
    try clear hx
    subst eq186x18
    rw [asStr_ok he] at hv
    apply exE hv; intro t; clear hv
    exact decode_sound h1 (Nat.le_trans h2 (by decide)) fun t' k => EP.toks I vr_str
  · refine iteE (iteT rfl (iteF (by decide) h)) fun hx0 h => bindE h fun us hl h => bindE h fun ss hi h => iteE h fun hx h => ?_
    apply spE h; clear h
    subst hx0
    refine elEA (listAt_ref hl) fun n eq193x19 _ => ?_
    subst eq193x19
    refine elEA hv fun a eq194x20 ha => ?_
    try clear hv
    subst eq194x20
    refine elEA (I.list hl ha) fun its hp hvs => ?_
    rw [pvByts_map hi] at hvs
    rw [joinB_flat] at hx ⊢
    exact joinB_sound hp.isList hvs hx.1 hx.2 fun t' k => EP.toks I vr_bytes
theorem mStr_sound {name : Str} {x : List Nat} {v : PV} {id : String} {t : Tok} {u : Value} {p : PV} (hm : (name = "encode" ∧ id = "str.encode") ∨ (name = "join" ∧ id = "str.join")) (h : mStr name x v σ = some (p, σ')) (I : Inv h₀ s.heap as σ) (hv : VR h₀ as u v) :
    wpAny (model prog w) A (call (.builtin id) [.str ⟨x.toArray⟩ t, u]) (EP h₀ s as p σ') (fun _ _ => False) s := by
  rcases hm with ⟨rfl, rfl⟩ | ⟨rfl, rfl⟩
  · refine bindE (iteT rfl h) fun e he h => iteE h fun hx h => ?_
    apply spE h; clear h
    refine elAA hx fun h1 h2 eq204x21 => ?_
    try clear hx
    subst eq204x21
    rw [asStr_ok he] at hv
    apply exE hv; intro t; clear hv
    exact encode_sound h1 (Nat.le_trans h2 (by decide)) fun t' k => EP.toks I vr_bytes
  · refine iteE (iteT rfl (iteF (by decide) h)) fun hx0 h => bindE h fun us hl h => bindE h fun ss hi h => iteE h fun hx h => ?_
    apply spE h; clear h
    subst hx0
    refine elEA (listAt_ref hl) fun n eq211x22 _ => ?_
    subst eq211x22
    refine elEA hv fun a eq212x23 ha => ?_
    try clear hv
    subst eq212x23
    refine elEA (I.list hl ha) fun its hp hvs => ?_
    rw [pvStrs_map hi] at hvs
    rw [joinN_flat] at hx ⊢
    exact joinS_sound hp.isList hvs hx.1 fun t' k => EP.toks I vr_str
theorem mcall_sound {name : Str} {o : PV} {m : String × String} {vo : Value} {ps : List PV} {vs : List Value} {p : PV} {σ₀ : Sto} (hm : mid name o σ₀ = some m) (h : mcall name o ps σ = some (p, σ')) (I : Inv h₀ s.heap as σ) (ho : VR h₀ as vo o) (hv : Paired (VR h₀ as) vs ps) :
    wpAny (model prog w) A (call (.builtin m.2) (vo :: vs)) (EP h₀ s as p σ') (fun _ _ => False) s := by
  refine bindE h fun v h1 zz => ?_
  clear h
  rename _ => h
  rw [one1_some h1] at hv
  refine elEA (paired1 hv) fun u eq221x24 hw => ?_
  subst eq221x24
  cases o with
  | ref n => exact bindE hm fun _ _ hm => mid_list hm fun k _ _ => mList_sound k h I ho hw
  | bytes x =>
    apply exE ho; intro t; clear ho
    exact mid_byts hm fun k _ _ => mByts_sound k h I hw
  | str x =>
    apply exE ho; intro t; clear ho
    exact mid_str hm fun k _ _ => mStr_sound k h I hw
  | _ => exact noE h
end
end Mine.Internal
end
section
set_option maxRecDepth 100000
set_option backward.match.sparseCases false
namespace Mine.Internal
open PySem PyProof.Rows
structure Bs (h₀ : Heap) (mg mb : Str → Option Value) : Prop where
  g : h₀.Ns mainGlobals mg
  b : h₀.Ns builtinsNs mb
  val : ∀ f v, bval f = some v → mg f = none ∧ mb f = some v
  range : mg "range" = none ∧ mb "range" = some (.type "range")
  zip : mg "zip" = none ∧ mb "zip" = some (.type "zip")
  isi : mg "isinstance" = none ∧ mb "isinstance" = some (.builtin "isinstance")
  ba : mg "bytearray" = none ∧ mb "bytearray" = some (.type "bytearray")
  en : mg "enumerate" = none ∧ mb "enumerate" = some (.type "enumerate")
  ve : mg "ValueError" = none ∧ mb "ValueError" = some (.type "ValueError")
  ie : mg "IndexError" = none ∧ mb "IndexError" = some (.type "IndexError")
noncomputable def FnOk (P : Ctx → Prop) (prog : Program) (w : World) (h₀ : Heap) (mg : Str → Option Value) (k : Nat) (f : Str) (g : Nat1) : Prop :=
  ∃ a o fd, mg f = some (.ref a) ∧ h₀.get? a = some o ∧ o.data = .func fd ∧ ∀ (A : Around) (s : Shared) (as : List Addr) (σ : Sto) (vs : List Value) (ps : List PV) (p : PV) (σ' : Sto),
    AOk k A → Inv h₀ s.heap as σ → Paired (VR h₀ as) vs ps → g ps σ = some (p, σ') → wpP P (model prog w) A (call (.ref a) vs) (EP h₀ s as p σ') (fun _ _ => False) s
structure Sd (P : Ctx → Prop) (prog : Program) (w : World) (h₀ : Heap) (k : Nat) (R : Rec) : Prop where
  ev : ∀ {A : Around} {env : Env} {s : Shared} {as : List Addr} {σ σ' : Sto} {ρ : Rho} {t : Bool} {e : Expr} {p : PV}, AOk k A → FrI h₀ env s.heap as ρ → Inv h₀ s.heap as σ → R.ev ⟨env.scope, t⟩ ρ σ e = some (p, σ') →
    wpAny (model prog w) A (eval e env) (EP h₀ s as p σ') (fun _ _ => False) s
  tr : ∀ {A : Around} {env : Env} {s : Shared} {as : List Addr} {σ σ' : Sto} {ρ : Rho} {t : Bool} {e : Expr} {b : Bool}, AOk k A → FrI h₀ env s.heap as ρ → Inv h₀ s.heap as σ → R.tr ⟨env.scope, t⟩ ρ σ e = some (b, σ') →
    wpAny (model prog w) A (isTrue e env (eval e env)) (TP h₀ s as b σ') (fun _ _ => False) s
  es : ∀ {A : Around} {env : Env} {s : Shared} {as : List Addr} {σ σ' : Sto} {ρ : Rho} {t : Bool} {e : Expr} {p : PV}, AOk k A → FrI h₀ env s.heap as ρ → Inv h₀ s.heap as σ → R.es ⟨env.scope, t⟩ ρ σ e = some (p, σ') →
    wpP P (model prog w) A (eval e env) (EP h₀ s as p σ') (fun _ _ => False) s
theorem EP.trans {h₀ : Heap} {s s₁ s' : Shared} {as as₁ : List Addr} {p : PV} {σ' : Sto} {v : Value} (g : Grow [] s as s₁ as₁) (h : EP h₀ s₁ as₁ p σ' v s') : EP h₀ s as p σ' v s' :=
  let ⟨as', g', I, hv⟩ := h; ⟨as', g.trans g', I, hv⟩
theorem EPs.trans {h₀ : Heap} {s s₁ s' : Shared} {as as₁ : List Addr} {p : List PV} {σ' : Sto} {v : List Value} (g : Grow [] s as s₁ as₁) (h : EPs h₀ s₁ as₁ p σ' v s') : EPs h₀ s as p σ' v s' :=
  let ⟨as', g', I, hv⟩ := h; ⟨as', g.trans g', I, hv⟩
theorem TP.trans {h₀ : Heap} {s s₁ s' : Shared} {as as₁ : List Addr} {p : Bool} {σ' : Sto} {v : Bool} (g : Grow [] s as s₁ as₁) (h : TP h₀ s₁ as₁ p σ' v s') : TP h₀ s as p σ' v s' :=
  let ⟨as', g', I, hv⟩ := h; ⟨as', g.trans g', I, hv⟩
section
variable {P : Ctx → Prop} {prog : Program} {w : World} {h₀ : Heap} {mg mb : Str → Option Value} {k : Nat} {R : Rec} {T : Tab}
variable {A : Around} {env : Env} {s : Shared} {as : List Addr} {σ σ' : Sto} {ρ : Rho} {t : Bool}
theorem name_sound {x : Str} {px : Pos} {p : PV} (F : FrI h₀ env s.heap as ρ) (I : Inv h₀ s.heap as σ) (hd : x ≠ "__debug__") (hx : ρ.lookup x = some p) :
    wpAny (model prog w) A (eval (.Name x px) env) (EP h₀ s as p σ) (fun _ _ => False) s := by
  have hd' : (x == ("__debug__" : Str)) = false := by simpa using hd
  refine wpAny_Name ?_ hd'
  rcases F.kinds x p hx with hk | hk | hk
  · refine elEA (F.ns) fun m hn hm => ?_
    refine elEA (hm x p hx hk) fun v e hv => ?_
    exact wpAny_loadName_local F.fn hk hn e (EP.same I hv)
  · refine elEEAA (F.cell x p hx (.inl hk)) fun c v e hc hv => ?_
    exact wpAny_loadName_cell F.fn hk e hc (EP.same I hv)
  · refine elEEAA (F.cell x p hx (.inr hk)) fun c v e hc hv => ?_
    by_cases hcd : (x == ("__classdict__" : Str)) = true
    · exact (F.nocd x hk (by simpa using hcd)).elim
    · exact wpAny_loadName_free F.fn hk e hc (EP.same I hv) (by simpa using hcd)
theorem star_cons {e : Expr} {r : List Expr} (h : isStar e = false) : starEach (e :: r) env = (false, eval e env) :: starEach r env := by
  have k : ∀ e, if isStar e then True else starEach (e :: r) env = (false, eval e env) :: starEach r env := fun e => by
    cases e <;> first | exact True.intro | rfl
  have := k e
  rw [h] at this
  exact this
theorem evs_sound (S : Sd P prog w h₀ k R) (hA : AOk k A) {pos : Pos} : ∀ {args : List Expr} {σ : Sto} {s : Shared} {as : List Addr} {ps : List PV}, FrI h₀ env s.heap as ρ → Inv h₀ s.heap as σ → evs R ⟨env.scope, t⟩ ρ σ args = some (ps, σ') →
    wpAny (model prog w) A (spliced (backTo pos (starEach args env))) (EPs h₀ s as ps σ') (fun _ _ => False) s
  | [], σ, s, as, ps, F, I, h => by
    apply spE h; clear h
    exact Calls.spliced_nil ⟨as, .refl _ _ _, I, .nil⟩
  | e :: r, σ, s, as, ps, F, I, h => by
    refine iteN h fun hst zz => ?_
    clear h
    refine bndE zz fun v σ₁ he h => ?_
    clear zz
    refine bndE h fun vs σ₂ hr zz => ?_
    clear h
    rename _ => h
    cases h
    rw [star_cons (Bool.eq_false_iff.mpr hst)]
    refine Calls.spliced_cons (wpAny_mono (S.ev hA F I he) (fun v s₁ h₁ => ?_) fun _ _ x => x)
    refine elEAA h₁ fun as₁ g₁ I₁ hv => ?_
    try clear h₁
    refine wpAny_mono (evs_sound S hA (F.grow g₁) I₁ hr) (fun vs s₂ h₂ => ?_) fun _ _ x => x
    refine elEAA h₂ fun as₂ g₂ I₂ hvs => ?_
    try clear h₂
    exact ⟨as₂, g₁.trans g₂, I₂, .cons (g₂.vr hv) hvs⟩
theorem evs_length : ∀ {args : List Expr} {σ σ' : Sto} {c : Cx} {ps : List PV}, evs R c ρ σ args = some (ps, σ') → args.any isStar = false
  | [], _, _, _, _, _ => rfl
  | e :: r, σ, σ', c, ps, h => by
    refine iteN h fun hst zz => ?_
    clear h
    refine bndE zz fun v σ₁ _ h => ?_
    clear zz
    refine bndE h fun vs σ₂ hr zz => ?_
    clear h
    rename _ => h
    rw [List.any_cons, evs_length hr, Bool.eq_false_iff.mpr hst]; rfl
theorem plainArgs {args : List Expr} {pos : Pos} (h : args.any isStar = false) : (backTo pos (starEach args env)).any (·.1) = false := by
  induction args with
  | nil => rfl
  | cons e r ih =>
    rw [List.any_cons, Bool.or_eq_false_iff] at h
    rw [star_cons h.1]
    exact ih h.2
theorem binop_ev (S : Sd P prog w h₀ k R) (hA : AOk k A) (F : FrI h₀ env s.heap as ρ) (I : Inv h₀ s.heap as σ) {l r : Expr} {op : Operator} {pos : Pos} {a b p : PV} {σ₁ σ₂ : Sto}
    (hl : R.ev ⟨env.scope, t⟩ ρ σ l = some (a, σ₁)) (hr : R.ev ⟨env.scope, t⟩ ρ σ₁ r = some (b, σ₂)) (h : binop op a b σ₂ = some (p, σ')) :
    wpAny (model prog w) A (eval (.BinOp l op r pos) env) (EP h₀ s as p σ') (fun _ _ => False) s := by
  refine wpAny_BinOp (wpAny_mono (S.ev hA F I hl) (fun va s₁ h₁ => ?_) fun _ _ x => x)
  refine elEAA h₁ fun as₁ g₁ I₁ hv => ?_
  try clear h₁
  refine wpAny_mono (S.ev hA (F.grow g₁) I₁ hr) (fun vb s₂ h₂ => ?_) fun _ _ x => x
  refine elEAA h₂ fun as₂ g₂ I₂ hv₂ => ?_
  try clear h₂
  exact wpAny_mono (binop_sound h I₂ (g₂.vr hv) hv₂) (fun v s₃ h₃ => EP.trans (g₁.trans g₂) h₃) fun _ _ x => x
theorem cmp_ev (S : Sd P prog w h₀ k R) (hA : AOk k A) (F : FrI h₀ env s.heap as ρ) (I : Inv h₀ s.heap as σ) {l r : Expr} {op : CmpOp} {pos : Pos} {a b : PV} {c : Bool} {σ₁ : Sto} (hm : behindInMarks op r = false)
    (hl : R.ev ⟨env.scope, t⟩ ρ σ l = some (a, σ₁)) (hr : R.ev ⟨env.scope, t⟩ ρ σ₁ r = some (b, σ')) (h : cmpop op a b σ' = some c) :
    wpAny (model prog w) A (eval (.Compare l [op] [r] pos) env) (EP h₀ s as (.bool c) σ') (fun _ _ => False) s := by
  refine wpAny_Compare1 (wpAny_mono (S.ev hA F I hl) (fun va s₁ h₁ => ?_) fun _ _ x => x) hm
  refine elEAA h₁ fun as₁ g₁ I₁ hv => ?_
  try clear h₁
  refine wpAny_mono (S.ev hA (F.grow g₁) I₁ hr) (fun vb s₂ h₂ => ?_) fun _ _ x => x
  refine elEAA h₂ fun as₂ g₂ I₂ hv₂ => ?_
  try clear h₂
  exact wpAny_mono (cmpop_sound h I₂ (g₂.vr hv) hv₂ hA) (fun v s₃ h₃ => by obtain ⟨rfl, rfl⟩ := h₃; exact ⟨as₂, g₁.trans g₂, I₂, rfl⟩) fun _ _ x => x
theorem cmp_tr (S : Sd P prog w h₀ k R) (hA : AOk k A) (F : FrI h₀ env s.heap as ρ) (I : Inv h₀ s.heap as σ) {l r : Expr} {op : CmpOp} {pos : Pos} {a b : PV} {c : Bool} {σ₁ : Sto} {whole : Sem Value} (hm : behindInMarks op r = false)
    (hl : R.ev ⟨env.scope, t⟩ ρ σ l = some (a, σ₁)) (hr : R.ev ⟨env.scope, t⟩ ρ σ₁ r = some (b, σ')) (h : cmpop op a b σ' = some c) :
    wpAny (model prog w) A (isTrue (.Compare l [op] [r] pos) env whole) (TP h₀ s as c σ') (fun _ _ => False) s := by
  refine wpAny_isTrue_Compare1 (wpAny_mono (S.ev hA F I hl) (fun va s₁ h₁ => ?_) fun _ _ x => x) hm
  refine elEAA h₁ fun as₁ g₁ I₁ hv => ?_
  try clear h₁
  refine wpAny_mono (S.ev hA (F.grow g₁) I₁ hr) (fun vb s₂ h₂ => ?_) fun _ _ x => x
  refine elEAA h₂ fun as₂ g₂ I₂ hv₂ => ?_
  try clear h₂
  exact wpAny_mono (cmpop_sound h I₂ (g₂.vr hv) hv₂ hA) (fun v s₃ h₃ => by obtain ⟨rfl, rfl⟩ := h₃; exact wpAny_truthy_bool ⟨as₂, g₁.trans g₂, I₂, rfl⟩) fun _ _ x => x
theorem truth_sound {v : Value} {p : PV} {b : Bool} (h : truth p = some b) (I : Inv h₀ s.heap as σ) (hv : VR h₀ as v p) : wpAny (model prog w) A (truthy v) (TP h₀ s as b σ) (fun _ _ => False) s := by
  cases p with
  | bool c => cases h; cases hv; exact wpAny_truthy_bool ⟨as, .refl _ _ _, I, rfl⟩
  | int i =>
    cases h; obtain ⟨u, rfl⟩ := hv
    exact PySem.P.truthy_int ⟨as, .refl _ _ _, I, rfl⟩
  | _ => cases h
theorem stops_and {b : Bool} (h : stops .And b = true) : b = false := by cases b <;> first | rfl | cases h
theorem stops_or {b : Bool} (h : stops .Or b = true) : b = true := by cases b <;> first | rfl | cases h
theorem evBool_sound (S : Sd P prog w h₀ k R) (hA : AOk k A) {pos : Pos} {op : BoolOp} : ∀ {vs : List Expr} {σ : Sto} {s : Shared} {as : List Addr} {p : PV}, FrI h₀ env s.heap as ρ → Inv h₀ s.heap as σ → evBool R ⟨env.scope, t⟩ ρ op σ vs = some (p, σ') →
    wpAny (model prog w) A (eval (.BoolOp op vs pos) env) (EP h₀ s as p σ') (fun _ _ => False) s
  | [], σ, s, as, p, F, I, h => noE h
  | [e], σ, s, as, p, F, I, h => BoolOp_one (S.ev hA F I h)
  | e :: e' :: r, σ, s, as, p, F, I, h => by
    refine bndE h fun v σ₁ he zz => ?_
    clear h
    refine bindE zz fun b hb h => ?_
    clear zz
    rw [asBool_ok hb] at he
    cases op with
    | And =>
      refine BoolOp_and (wpAny_mono (S.ev hA F I he) (fun v s₁ h₁ => ?_) fun _ _ x => x)
      refine elEAA h₁ fun as₁ g₁ I₁ hv => ?_
      try clear h₁
      cases hv
      refine wpAny_truthy_bool ?_
      cases b with
      | false => cases h; exact ⟨as₁, g₁, I₁, rfl⟩
      | true => exact wpAny_mono (evBool_sound S hA (F.grow g₁) I₁ h) (fun v s₂ h₂ => EP.trans g₁ h₂) fun _ _ x => x
    | Or =>
      refine BoolOp_or (wpAny_mono (S.ev hA F I he) (fun v s₁ h₁ => ?_) fun _ _ x => x)
      refine elEAA h₁ fun as₁ g₁ I₁ hv => ?_
      try clear h₁
      cases hv
      refine wpAny_truthy_bool ?_
      cases b with
      | true => cases h; exact ⟨as₁, g₁, I₁, rfl⟩
      | false => exact wpAny_mono (evBool_sound S hA (F.grow g₁) I₁ h) (fun v s₂ h₂ => EP.trans g₁ h₂) fun _ _ x => x
theorem trBool_sound (S : Sd P prog w h₀ k R) (hA : AOk k A) {pos : Pos} {op : BoolOp} {whole : Sem Value} : ∀ {vs : List Expr} {σ : Sto} {s : Shared} {as : List Addr} {b : Bool}, FrI h₀ env s.heap as ρ → Inv h₀ s.heap as σ → trBool R ⟨env.scope, t⟩ ρ op σ vs = some (b, σ') →
    wpAny (model prog w) A (isTrue (.BoolOp op vs pos) env whole) (TP h₀ s as b σ') (fun _ _ => False) s
  | [], σ, s, as, b, F, I, h => by
    apply spE h; clear h
    cases op with
    | And => exact isTrue_and_nil ⟨as, .refl _ _ _, I, rfl⟩
    | Or => exact isTrue_or_nil ⟨as, .refl _ _ _, I, rfl⟩
  | e :: r, σ, s, as, b, F, I, h => by
    refine bndE h fun b₁ σ₁ he zz => ?_
    clear h
    rename _ => h
    cases op with
    | And =>
      refine isTrue_and (wpAny_mono (S.tr hA F I he) (fun v s₁ h₁ => ?_) fun _ _ x => x)
      refine elEAA h₁ fun as₁ g₁ I₁ eq166x1 => ?_
      try clear h₁
      subst eq166x1
      cases v with
      | false => cases h; exact ⟨as₁, g₁, I₁, rfl⟩
      | true => exact wpAny_mono (trBool_sound S hA (F.grow g₁) I₁ h) (fun v s₂ h₂ => TP.trans g₁ h₂) fun _ _ x => x
    | Or =>
      refine isTrue_or (wpAny_mono (S.tr hA F I he) (fun v s₁ h₁ => ?_) fun _ _ x => x)
      refine elEAA h₁ fun as₁ g₁ I₁ eq172x2 => ?_
      try clear h₁
      subst eq172x2
      cases v with
      | true => cases h; exact ⟨as₁, g₁, I₁, rfl⟩
      | false => exact wpAny_mono (trBool_sound S hA (F.grow g₁) I₁ h) (fun v s₂ h₂ => TP.trans g₁ h₂) fun _ _ x => x
noncomputable def Pln (e : Expr) : Prop := ∀ (env : Env) (whole : Sem Value), isTrue e env whole = (do let v ← whole; standAt e.pos; holding [v] (truthy v))
theorem pln_of {e : Expr} {v : V} (k : v.Ok e) (hp : v.plain = true) : Pln e := by
  cases v with
  | name x => obtain ⟨_, _, rfl⟩ := k; exact fun _ _ => rfl
  | bin => obtain ⟨_, rfl⟩ := k; exact fun _ _ => rfl
  | meth => obtain ⟨_, _, _, _, rfl⟩ := k; exact fun _ _ => rfl
  | call => obtain ⟨_, _, _, rfl⟩ := k; exact fun _ _ => rfl
  | isi => obtain ⟨_, _, _, _, rfl⟩ := k; exact fun _ _ => rfl
  | slice => obtain ⟨_, _, rfl⟩ := k; exact fun _ _ => rfl
  | rev => obtain ⟨_, _, _, _, _, rfl⟩ := k; exact fun _ _ => rfl
  | idxN => obtain ⟨_, _, _, _, rfl⟩ := k; exact fun _ _ => rfl
  | idx => obtain ⟨_, rfl⟩ := k; exact fun _ _ => rfl
  | _ => cases hp
theorem trP_sound (S : Sd P prog w h₀ k R) (hA : AOk k A) (F : FrI h₀ env s.heap as ρ) (I : Inv h₀ s.heap as σ) {e : Expr} {v : V} {b : Bool} (ok : v.Ok e) (h : (if v.plain = true then bnd (R.ev ⟨env.scope, t⟩ ρ σ e) fun v σ => (truth v).map fun b => (b, σ) else none) = some (b, σ')) :
    wpAny (model prog w) A (isTrue e env (eval e env)) (TP h₀ s as b σ') (fun _ _ => False) s := by
  refine iteE h fun hp zz => ?_
  clear h
  refine bndE zz fun v σ₁ he h => ?_
  clear zz
  refine mapE h fun c hc zz => ?_
  clear h
  rename _ => h
  cases h
  refine isTrue_plain (wpAny_mono (S.ev hA F I he) (fun v s₁ h₁ => ?_) fun _ _ x => x) (pln_of ok hp env _)
  refine elEAA h₁ fun as₁ g₁ I₁ hv => ?_
  try clear h₁
  exact wpAny_mono (truth_sound hc I₁ hv) (fun v s₂ h₂ => TP.trans g₁ h₂) fun _ _ x => x
theorem tr_sound (S : Sd P prog w h₀ k R) (hA : AOk k A) (F : FrI h₀ env s.heap as ρ) (I : Inv h₀ s.heap as σ) {e : Expr} {b : Bool} (h : trStep T R ⟨env.scope, t⟩ ρ σ e = some (b, σ')) :
    wpAny (model prog w) A (isTrue e env (eval e env)) (TP h₀ s as b σ') (fun _ _ => False) s := by
  have ok := view_ok e
  unfold trStep at h
  generalize view e = v at ok h
  cases v with
  | not x =>
    apply exE ok; intro q; clear ok
    refine mapE h fun p hx zz => ?_
    clear h
    rename _ => h
    obtain ⟨c, σ₁⟩ := p
    cases h
    refine isTrue_not (wpAny_mono (S.tr hA F I hx) (fun v s₁ h₁ => ?_) fun _ _ x => x)
    refine elEAA h₁ fun as₁ g₁ I₁ eq211x3 => ?_
    try clear h₁
    subst eq211x3
    exact ⟨as₁, g₁, I₁, rfl⟩
  | bool op vs =>
    apply exE ok; intro q; clear ok
    exact trBool_sound S hA F I h
  | cmp op l r =>
    refine elAE ok fun hm q eq217x4 => ?_
    try clear ok
    subst eq217x4
    refine bndE h fun a σ₁ hl zz => ?_
    clear h
    refine bndE zz fun c σ₂ hr h => ?_
    clear zz
    refine mapE h fun d hc zz => ?_
    clear h
    rename _ => h
    cases h
    exact cmp_tr S hA F I hm hl hr hc
  | _ => exact trP_sound (t := t) S hA F I ok h
end
end Mine.Internal
end
section
set_option maxRecDepth 100000
set_option backward.match.sparseCases false
namespace Mine.Internal
open PySem PyProof.Rows
section
variable {P : Ctx → Prop} {M : Model} {A : Around} {E : Value → Shared → Prop} {s : Shared} {env : Env}
theorem splicedP_cons {x : Sem Value} {rest : List (Bool × Sem Value)} {Q : List Value → Shared → Prop}
    (h : wpP P M A x (fun v s₁ => wpP P M A (spliced rest) (fun vs s₂ => Q (v :: vs) s₂) E s₁) E s) : wpP P M A (spliced ((false, x) :: rest)) Q E s := by
  rw [spliced]
  refine wpP_bind (wpP_mono h (fun v s₁ h₁ => ?_) fun _ _ x => x)
  refine wpP_bind (wpP_of_eq (a := [v]) rfl ?_)
  exact wpP_bind (wpP_holding (wpP_mono h₁ (fun vs s₂ h₂ => wpP_pure h₂) fun _ _ x => x))
theorem evalArgsP {f : Value} {args : List (Bool × Sem Value)} {Q : Args → Shared → Prop} (hp : args.any (·.1) = false)
    (h : wpP P M A (spliced args) (fun vs s' => Q ⟨vs, []⟩ s') E s) : wpP P M A (evalArgs f true args []) Q E s := by
  have go : evalArgs f true args [] = (spliced args >>= fun pos => holding (pos ++ []) (pure ⟨pos, []⟩)) := by
    skip
    match args, hp with
    | [], _ => rfl
    | (false, x) :: rest, _ =>
      first
        | rfl
        | (cases rest <;> rfl)
    | (true, x) :: rest, hp => simp at hp
  rw [go]
  exact wpP_bind (wpP_mono h (fun vs s₁ h₁ => wpP_holding (wpP_pure h₁)) fun _ _ x => x)
theorem callWithP_fn {pos : Pos} {a : Addr} {args : List (Bool × Sem Value)} {Q : Value → Shared → Prop} (hp : args.any (·.1) = false)
    (h : wpP P M A (spliced args) (fun vs s₁ => (∃ o fd, s₁.heap.get? a = some o ∧ o.data = .func fd) ∧ wpP P M A (call (.ref a) vs) Q E s₁) E s) :
    wpP P M A (callWith pos (.ref a) [] args []) Q E s := by
  skip
  refine wpP_bind (wpP_holding (evalArgsP hp (wpP_mono h (fun vs s₁ h₁ => ?_) fun _ _ x => x)))
  refine wpP_leaf (wpAny_standAt ?_)
  obtain ⟨⟨o, fd, ho, hd⟩, hc⟩ := h₁
  simp only [hp, List.any_nil, Bool.or_false, List.nil_append]
  refine wpP_bind (m := keeperOf (.ref a)) ?_
  skip
  refine wpP_leaf (wpAny_load ho ?_)
  refine hd.symm ▸ ?_
  refine wpP_pure ?_
  have tail : ∀ {t : Sem Value}, wpP P M A t Q E s₁ → wpP P M A (t >>= fun r => holding [r] point >>= fun _ => pure r) Q E s₁ :=
    fun ht => wpP_bind (wpP_mono ht (fun r s₂ hr => wpP_leaf (wpAny_holding (wpAny_point (wpP_pure hr)))) fun _ _ x => x)
  dsimp only
  split
  · exact tail hc
  · exact tail (by unfold callMarked; exact wpP_keep hc)
theorem callWithP_val {pos : Pos} {f : Value} {args : List (Bool × Sem Value)} {Q : Value → Shared → Prop} (hf : keeperOf f = pure .machine) (hp : args.any (·.1) = false)
    (h : wpP P M A (spliced args) (fun vs s₁ => wpP P M A (call f vs) Q E s₁) E s) :
    wpP P M A (callWith pos f [] args []) Q E s := by
  refine wpP_bind (wpP_holding (evalArgsP hp (wpP_mono h (fun vs s₁ h₁ => ?_) fun _ _ x => x)))
  refine wpP_leaf (wpAny_standAt ?_)
  refine hp.symm ▸ ?_
  refine wpP_bind (wpP_of_eq hf ?_)
  exact wpP_bind (wpP_mono h₁ (fun r s₂ hr => wpP_leaf (wpAny_holding (wpAny_point (wpP_pure hr)))) fun _ _ x => x)
theorem callNameP {id : Str} {p pos : Pos} {args : List Expr} {Q : Value → Shared → Prop}
    (h : wpAny M A (eval (.Name id p) env) (fun f s₁ => wpP P M A (callWith pos f [] (backTo pos (starEach args env)) []) Q E s₁) E s) :
    wpP P M A (eval (.Call (.Name id p) args [] pos) env) Q E s := by
  refine (?_ : wpP P M A (do callWith pos (← eval (.Name id p) env) [] (backTo pos (starEach args env)) (backToKw pos (keywordEach [] env))) Q E s)
  exact wpP_leaf h
end
section
variable {P : Ctx → Prop} {prog : Program} {w : World} {h₀ : Heap} {mg mb : Str → Option Value} {k : Nat} {R : Rec} {T : Tab}
variable {A : Around} {env : Env} {s : Shared} {as : List Addr} {σ σ' : Sto} {ρ : Rho} {t : Bool}
theorem keeper_bval {f : Str} {v : Value} (h : bval f = some v) : keeperOf v = pure .machine := by
  unfold bval at h
  repeat' (split at h)
  all_goals first | (cases h; rfl) | cases h
theorem global_sound {f : Str} {pf : Pos} {v : Value} {Q : Value → Shared → Prop} {E : Value → Shared → Prop} (B : Bs h₀ mg mb) (F : FrI h₀ env s.heap as ρ) (I : Inv h₀ s.heap as σ) (hd : f ≠ "__debug__") (hk : env.scope.names.lookup f = some .globalImplicit)
    (hv : mg f = some v ∨ (mg f = none ∧ mb f = some v)) (h : Q v s) : wpAny (model prog w) A (eval (.Name f pf) env) Q E s := by
  have hd' : (f == ("__debug__" : Str)) = false := by simpa using hd
  refine Calls.Name_function_global F.fn hk ?_ hd'
  have hg : s.heap.Ns env.globals mg := by rw [F.glb]; exact B.g.keeps I.base
  have hb : s.heap.Ns env.builtins mb := by rw [F.blt]; exact B.b.keeps I.base
  rcases hv with hv | ⟨h1, h2⟩
  · exact Calls.loadGlobal_global hg hv h
  · exact Calls.loadGlobal_builtin hg h1 hb h2 h
theorem bcall_ev (B : Bs h₀ mg mb) (S : Sd P prog w h₀ k R) (hA : AOk k A) (F : FrI h₀ env s.heap as ρ) (I : Inv h₀ s.heap as σ) {f : Str} {v : Value} {pf pos : Pos} {args : List Expr} {ps : List PV} {p : PV} {σ₁ : Sto} (hd : f ≠ "__debug__") (hk : env.scope.names.lookup f = some .globalImplicit)
    (hf : bval f = some v) (ha : evs R ⟨env.scope, t⟩ ρ σ args = some (ps, σ₁)) (h : bcall f ps σ₁ = some (p, σ')) :
    wpAny (model prog w) A (eval (.Call (.Name f pf) args [] pos) env) (EP h₀ s as p σ') (fun _ _ => False) s := by
  refine wpP_to_any (callNameP (global_sound B F I hd hk (.inr (B.val f v hf)) (callWithP_val (keeper_bval hf) (plainArgs (evs_length ha)) (wpP_any (wpAny_mono (evs_sound S hA F I ha) (fun vs s₁ h₁ => ?_) fun _ _ x => x)))))
  refine elEAA h₁ fun as₁ g₁ I₁ hv => ?_
  try clear h₁
  exact wpP_any (wpAny_mono (bcall_sound hf h hA.1 I₁ hv) (fun v s₂ h₂ => EP.trans g₁ h₂) fun _ _ x => x)
theorem fcall_ev (B : Bs h₀ mg mb) (S : Sd P prog w h₀ k R) (hA : AOk k A) (F : FrI h₀ env s.heap as ρ) (I : Inv h₀ s.heap as σ) {f : Str} {g : Nat1} {pf pos : Pos} {args : List Expr} {ps : List PV} {p : PV} {σ₁ : Sto} (hd : f ≠ "__debug__") (hk : env.scope.names.lookup f = some .globalImplicit)
    (hf : FnOk (fun _ => True) prog w h₀ mg k f g) (ha : evs R ⟨env.scope, t⟩ ρ σ args = some (ps, σ₁)) (h : g ps σ₁ = some (p, σ')) :
    wpAny (model prog w) A (eval (.Call (.Name f pf) args [] pos) env) (EP h₀ s as p σ') (fun _ _ => False) s := by
  refine elEEEAAA hf fun a o fd hm ho hdat hc => ?_
  try clear hf
  refine wpP_to_any (callNameP (global_sound B F I hd hk (.inl hm) (callWithP_fn (plainArgs (evs_length ha)) (wpP_any (wpAny_mono (evs_sound S hA F I ha) (fun vs s₁ h₁ => ?_) fun _ _ x => x)))))
  refine elEAA h₁ fun as₁ g₁ I₁ hv => ?_
  try clear h₁
  exact ⟨⟨o, fd, I₁.base a o ho, hdat⟩, wpP_mono (hc A s₁ as₁ σ₁ vs ps p σ' hA I₁ hv h) (fun v s₂ h₂ => EP.trans g₁ h₂) fun _ _ x => x⟩
theorem esL_sound (S : Sd P prog w h₀ k R) (hA : AOk k A) {pos : Pos} : ∀ {args : List Expr} {σ : Sto} {s : Shared} {as : List Addr} {ps : List PV}, FrI h₀ env s.heap as ρ → Inv h₀ s.heap as σ → esL R ⟨env.scope, t⟩ ρ σ args = some (ps, σ') →
    wpP P (model prog w) A (spliced (backTo pos (starEach args env))) (EPs h₀ s as ps σ') (fun _ _ => False) s
  | [], σ, s, as, ps, F, I, h => by
    apply spE h; clear h
    exact wpP_any (Calls.spliced_nil ⟨as, .refl _ _ _, I, .nil⟩)
  | e :: r, σ, s, as, ps, F, I, h => by
    refine iteN h fun hst zz => ?_
    clear h
    refine bndE zz fun v σ₁ he h => ?_
    clear zz
    refine bndE h fun vs σ₂ hr zz => ?_
    clear h
    rename _ => h
    cases h
    rw [star_cons (Bool.eq_false_iff.mpr hst)]
    refine splicedP_cons (wpP_mono (S.es hA F I he) (fun v s₁ h₁ => ?_) fun _ _ x => x)
    refine elEAA h₁ fun as₁ g₁ I₁ hv => ?_
    try clear h₁
    refine wpP_mono (esL_sound S hA (F.grow g₁) I₁ hr) (fun vs s₂ h₂ => ?_) fun _ _ x => x
    refine elEAA h₂ fun as₂ g₂ I₂ hvs => ?_
    try clear h₂
    exact ⟨as₂, g₁.trans g₂, I₂, .cons (g₂.vr hv) hvs⟩
theorem esL_length : ∀ {args : List Expr} {σ σ' : Sto} {c : Cx} {ps : List PV}, esL R c ρ σ args = some (ps, σ') → args.any isStar = false
  | [], _, _, _, _, _ => rfl
  | e :: r, σ, σ', c, ps, h => by
    refine iteN h fun hst zz => ?_
    clear h
    refine bndE zz fun v σ₁ _ h => ?_
    clear zz
    refine bndE h fun vs σ₂ hr zz => ?_
    clear h
    rename _ => h
    rw [List.any_cons, esL_length hr, Bool.eq_false_iff.mpr hst]; rfl
theorem isi_ev (B : Bs h₀ mg mb) (S : Sd P prog w h₀ k R) (hA : AOk k A) (F : FrI h₀ env s.heap as ρ) (I : Inv h₀ s.heap as σ) {a : Expr} {pf pt pos : Pos} {x : List UInt8} (hk : env.scope.names.lookup (Str.ofString "isinstance") = some .globalImplicit) (hk2 : env.scope.names.lookup (Str.ofString "bytes") = some .globalImplicit)
    (hs : isStar a = false) (ha : R.ev ⟨env.scope, t⟩ ρ σ a = some (.bytes x, σ')) :
    wpAny (model prog w) A (eval (.Call (.Name "isinstance" pf) [a, .Name "bytes" pt] [] pos) env) (EP h₀ s as (.bool true) σ') (fun _ _ => False) s := by
  have hst : starEach [a, .Name "bytes" pt] env = [(false, eval a env), (false, eval (.Name "bytes" pt) env)] := star_cons hs
  refine wpP_to_any (callNameP (global_sound B F I (by decide) hk (.inr B.isi) ?_))
  refine hst.symm ▸ ?_
  refine callWithP_val rfl rfl ?_
  refine splicedP_cons (wpP_any (wpAny_mono (S.ev hA F I ha) (fun v s₁ h₁ => ?_) fun _ _ x => x))
  refine elEAAE h₁ fun as₁ g₁ I₁ u eq128x1 => ?_
  try clear h₁
  subst eq128x1
  refine splicedP_cons (wpP_any (global_sound B (F.grow g₁) I₁ (by decide) hk2 (.inr (B.val "bytes" (.type "bytes") rfl)) ?_))
  refine wpP_any (Calls.spliced_nil ?_)
  exact wpP_any (call_isinstance (isinstance_true (Tx := "bytes") (by with_unfolding_all rfl) PySem.F.bm_sub) ⟨rfl, ⟨as₁, g₁, I₁, rfl⟩⟩)
theorem base_eq {o : Expr} {name : Str} (h : okBase o = true) : attributeBase o name env (eval o env) = eval o env := by
  have k : ∀ o, if okBase o then attributeBase o name env (eval o env) = eval o env else True := fun o => by
    cases o with
    | Call f args kws p => cases f <;> first | exact True.intro | rfl
    | _ => first | exact True.intro | rfl
  have := k o
  rw [h] at this
  exact this
theorem mcall_ev (S : Sd P prog w h₀ k R) (hA : AOk k A) (F : FrI h₀ env s.heap as ρ) (I : Inv h₀ s.heap as σ) {o : Expr} {name : Str} {apos pos : Pos} {args : List Expr} {ov p : PV} {ps : List PV} {σ₁ σ₂ : Sto} {m : String × String} (hb : okBase o = true) (hl : apos.endLine = pos.line) (hn : args.length < 20)
    (ho : R.ev ⟨env.scope, t⟩ ρ σ o = some (ov, σ₁)) (hm : mid name ov σ₁ = some m) (ha : evs R ⟨env.scope, t⟩ ρ σ₁ args = some (ps, σ₂)) (h : mcall name ov ps σ₂ = some (p, σ')) :
    wpAny (model prog w) A (eval (.Call (.Attribute o name apos) args [] pos) env) (EP h₀ s as p σ') (fun _ _ => False) s := by
  have hpl := plainArgs (env := env) (pos := pos) (evs_length ha)
  have hall : (backTo pos (starEach args env)).all (fun x => !x.1) = true := by
    rw [List.all_eq_true]
    intro x hx
    have := List.any_eq_false.mp hpl x hx
    simpa using this
  have facts := mid_facts hm
  refine wpAny_Call_method (T := m.1) (id := m.2) (base_eq hb) ?_ (by simpa using hl) facts.1 facts.2.1 facts.2.2 (wpAny_mono (S.ev hA F I ho) (fun v s₁ h₁ => ?_) fun _ _ x => x)
  · refine hall.symm ▸ ?_
    exact (Bool.and_eq_true _ _).mpr ⟨(Bool.and_eq_true _ _).mpr ⟨rfl, rfl⟩, decide_eq_true (Nat.lt_of_lt_of_le hn (by decide))⟩
  · refine elEAA h₁ fun as₁ g₁ I₁ hv => ?_
    try clear h₁
    have ok := mid_ok hm I₁ hv
    refine ⟨ok.1, ok.2, ?_⟩
    have fin : ∀ vs s₂, EPs h₀ s₁ as₁ ps σ₂ vs s₂ → wpAny (model prog w) A (call (.builtin m.2) (v :: vs)) (EP h₀ s as p σ') (fun _ _ => False) s₂ := fun vs s₂ h₂ => by
      refine elEAA h₂ fun as₂ g₂ I₂ hvs => ?_
      try clear h₂
      exact wpAny_mono (mcall_sound hm h I₂ (g₂.vr hv) hvs) (fun v s₃ h₃ => EP.trans (g₁.trans g₂) h₃) fun _ _ x => x
    have sp := evs_sound S hA (pos := pos) (F.grow g₁) I₁ ha
    cases args with
    | nil =>
      cases ha
      exact callWith_method0 (fin [] s₁ ⟨as₁, .refl _ _ _, I₁, .nil⟩)
    | cons e r =>
      have := evs_length ha
      rw [List.any_cons, Bool.or_eq_false_iff] at this
      exact callWith_method1 (wpAny_mono sp (fun vs s₂ h₂ => fin vs s₂ h₂) fun _ _ x => x) (star_cons this.1) (plainArgs this.2)
end
end Mine.Internal
end
section
set_option maxRecDepth 100000
set_option backward.match.sparseCases false
namespace Mine.Internal
open PySem PyProof.Rows
section
variable {P : Ctx → Prop} {prog : Program} {w : World} {h₀ : Heap} {mg mb : Str → Option Value} {k : Nat} {R : Rec} {T : Tab}
variable {A : Around} {env : Env} {s : Shared} {as : List Addr} {σ σ' : Sto} {ρ : Rho} {t : Bool}
theorem Grow.toks {X : List Addr} {s : Shared} {as : List Addr} (n : Nat) : Grow X s as { s with toks := n } as := .keeps (fun _ _ e => e) rfl (.refl _)
theorem optInt_sound (S : Sd P prog w h₀ k R) (hA : AOk k A) (F : FrI h₀ env s.heap as ρ) (I : Inv h₀ s.heap as σ) {oe : Option Expr} {oi : Option Int} (h : optInt R ⟨env.scope, t⟩ ρ σ oe = some (oi, σ')) :
    wpAny (model prog w) A (evalPart oe env) (fun v s' => ∃ as', Grow [] s as s' as' ∧ Inv h₀ s'.heap as' σ' ∧ IsPart v oi) (fun _ _ => False) s := by
  cases oe with
  | none => cases h; exact evalPart_none_step ⟨as, .refl _ _ _, I, .none⟩
  | some e =>
    refine bndE h fun v σ₁ he zz => ?_
    clear h
    refine mapE zz fun i hi h => ?_
    clear zz
    cases h
    rw [asInt_ok hi] at he
    refine evalPart_some_step (wpAny_mono (S.ev hA F I he) (fun v s₁ h₁ => ?_) fun _ _ x => x)
    refine elEAAE h₁ fun as₁ g₁ I₁ u eq22x1 => ?_
    try clear h₁
    subst eq22x1
    exact ⟨as₁, g₁, I₁, .int _ _⟩
theorem neg_const {i : Int} {k' : Nat} {p p' : Pos} {Q : Value → Shared → Prop} {E : Value → Shared → Prop} (h : ∀ u n, Q (.int (-i) u) { s with toks := n }) :
    wpAny (model prog w) A (eval (.UnaryOp .USub (.Constant (.int i) k' p) p') env) Q E s :=
  UnaryOp_ (wpAny_Constant_int (PySem.P.neg_int (h _ _)))
theorem item_ev (S : Sd P prog w h₀ k R) (hA : AOk k A) (F : FrI h₀ env s.heap as ρ) (I : Inv h₀ s.heap as σ) {v i : Expr} {pos : Pos} {o p : PV} {n : Int} {σ₁ : Sto}
    (hv : R.ev ⟨env.scope, t⟩ ρ σ v = some (o, σ₁)) (hi : R.ev ⟨env.scope, t⟩ ρ σ₁ i = some (.int n, σ')) (h : itemAt o n σ' = some p) :
    wpAny (model prog w) A (eval (.Subscript v i pos) env) (EP h₀ s as p σ') (fun _ _ => False) s := by
  refine Subscript_ (wpAny_mono (S.ev hA F I hv) (fun vo s₁ h₁ => ?_) fun _ _ x => x)
  refine elEAA h₁ fun as₁ g₁ I₁ ho => ?_
  try clear h₁
  refine wpAny_mono (S.ev hA (F.grow g₁) I₁ hi) (fun vi s₂ h₂ => ?_) fun _ _ x => x
  refine elEAAE h₂ fun as₂ g₂ I₂ u eq35x2 => ?_
  try clear h₂
  subst eq35x2
  exact wpAny_mono (item_sound h I₂ (g₂.vr ho)) (fun v s₃ h₃ => EP.trans (g₁.trans g₂) h₃) fun _ _ x => x
theorem itemN_ev (S : Sd P prog w h₀ k R) (hA : AOk k A) (F : FrI h₀ env s.heap as ρ) (I : Inv h₀ s.heap as σ) {v : Expr} {pos p1 p2 : Pos} {kk : Nat} {o p : PV} {n : Int}
    (hv : R.ev ⟨env.scope, t⟩ ρ σ v = some (o, σ')) (h : itemAt o (-n) σ' = some p) :
    wpAny (model prog w) A (eval (.Subscript v (.UnaryOp .USub (.Constant (.int n) kk p1) p2) pos) env) (EP h₀ s as p σ') (fun _ _ => False) s := by
  refine Subscript_ (wpAny_mono (S.ev hA F I hv) (fun vo s₁ h₁ => ?_) fun _ _ x => x)
  refine elEAA h₁ fun as₁ g₁ I₁ ho => ?_
  try clear h₁
  refine neg_const fun u n => ?_
  have I₂ : Inv h₀ ({ s₁ with toks := n } : Shared).heap as₁ σ' := I₁
  refine wpAny_mono (item_sound (s := { s₁ with toks := n }) h I₂ ho) (fun v s₃ h₃ => ?_) fun _ _ x => x
  exact EP.trans g₁ (EP.trans (Grow.toks n) h₃)
theorem slice_ev (S : Sd P prog w h₀ k R) (hA : AOk k A) (F : FrI h₀ env s.heap as ρ) (I : Inv h₀ s.heap as σ) {v : Expr} {lo hi st : Option Expr} {sp pos : Pos} {o p : PV} {l u : Option Int} {σ₁ σ₂ σ₃ : Sto} {rev : Bool}
    (hv : R.ev ⟨env.scope, t⟩ ρ σ v = some (o, σ₁)) (hl : optInt R ⟨env.scope, t⟩ ρ σ₁ lo = some (l, σ₂)) (hu : optInt R ⟨env.scope, t⟩ ρ σ₂ hi = some (u, σ₃)) (h : slc o l u rev σ₃ = some (p, σ'))
    (hst : (rev = false ∧ st = none) ∨ (rev = true ∧ ∃ kk p1 p2, st = some (.UnaryOp .USub (.Constant (.int 1) kk p1) p2))) :
    wpAny (model prog w) A (eval (.Subscript v (.Slice lo hi st sp) pos) env) (EP h₀ s as p σ') (fun _ _ => False) s := by
  refine Subscript_ (wpAny_mono (S.ev hA F I hv) (fun vo s₁ h₁ => ?_) fun _ _ x => x)
  refine elEAA h₁ fun as₁ g₁ I₁ ho => ?_
  try clear h₁
  refine wpAny_Slice (wpAny_mono (optInt_sound S hA (F.grow g₁) I₁ hl) (fun vl s₂ h₂ => ?_) fun _ _ x => x)
  refine elEAA h₂ fun as₂ g₂ I₂ pl => ?_
  try clear h₂
  refine wpAny_mono (optInt_sound S hA ((F.grow g₁).grow g₂) I₂ hu) (fun vu s₃ h₃ => ?_) fun _ _ x => x
  refine elEAA h₃ fun as₃ g₃ I₃ pu => ?_
  try clear h₃
  have g := (g₁.trans g₂).trans g₃
  rcases hst with ⟨rfl, rfl⟩ | ⟨rfl, kk, p1, p2, rfl⟩
  · refine evalPart_none_step ?_
    exact wpAny_mono (slc_sound h I₃ (g₃.vr (g₂.vr ho)) pl pu (.inl ⟨rfl, rfl⟩)) (fun v s₄ h₄ => EP.trans g h₄) fun _ _ x => x
  · refine evalPart_some_step (neg_const fun u' n => ?_)
    have I₄ : Inv h₀ ({ s₃ with toks := n } : Shared).heap as₃ σ₃ := I₃
    refine wpAny_mono (slc_sound (s := { s₃ with toks := n }) h I₄ (g₃.vr (g₂.vr ho)) pl pu (.inr ⟨rfl, u', rfl⟩)) (fun v s₄ h₄ => ?_) fun _ _ x => x
    exact EP.trans g (EP.trans (Grow.toks n) h₄)
theorem list_ev (S : Sd P prog w h₀ k R) (hA : AOk k A) (F : FrI h₀ env s.heap as ρ) (I : Inv h₀ s.heap as σ) {es : List Expr} {pos : Pos} {ps : List PV} {σ₁ : Sto} (h : evs R ⟨env.scope, t⟩ ρ σ es = some (ps, σ₁)) (hn : ps.length ≤ 1000) :
    wpAny (model prog w) A (eval (.List es pos) env) (EP h₀ s as (.ref σ₁.length) (σ₁ ++ [.list ps])) (fun _ _ => False) s := by
  refine List_ (wpAny_mono (evs_sound S hA F I h) (fun vs s₁ h₁ => ?_) fun _ _ x => x)
  refine elEAA h₁ fun as₁ g₁ I₁ hv => ?_
  try clear h₁
  refine wpAny_newList ?_ (by rw [paired_length hv]; unfold sizeLine; omega)
  exact EP.trans g₁ (EP.new (k := s₁.toks) I₁ (fun _ _ e => Heap.get?_push_of_some _ e) (Heap.get?_none_of_le (Nat.le_refl _)) ⟨vs, ⟨0, Heap.get?_push_size _ rfl⟩, hv⟩)
theorem tup_ev (S : Sd P prog w h₀ k R) (hA : AOk k A) (F : FrI h₀ env s.heap as ρ) (I : Inv h₀ s.heap as σ) {es : List Expr} {kk : Nat} {pos : Pos} {ps : List PV} {σ₁ : Sto} (h : evs R ⟨env.scope, t⟩ ρ σ es = some (ps, σ₁)) (hn : ps.length ≤ 1000) :
    wpAny (model prog w) A (eval (.Tuple es kk pos) env) (EP h₀ s as (.ref σ₁.length) (σ₁ ++ [.tup ps])) (fun _ _ => False) s := by
  refine Tuple_ (wpAny_mono (evs_sound S hA F I h) (fun vs s₁ h₁ => ?_) fun _ _ x => x)
  refine elEAA h₁ fun as₁ g₁ I₁ hv => ?_
  try clear h₁
  refine wpAny_newTuple ?_ (by rw [paired_length hv]; unfold sizeLine; omega)
  exact EP.trans g₁ (EP.new (k := s₁.toks) I₁ (fun _ _ e => Heap.get?_push_of_some _ e) (Heap.get?_none_of_le (Nat.le_refl _)) ⟨vs, ⟨_, Heap.get?_push_size _ rfl, rfl, 0, rfl⟩, hv⟩)
theorem ite_ev (S : Sd P prog w h₀ k R) (hA : AOk k A) (F : FrI h₀ env s.heap as ρ) (I : Inv h₀ s.heap as σ) {tt b o : Expr} {pos : Pos} {c : Bool} {p : PV} {σ₁ : Sto} (ht : R.tr ⟨env.scope, t⟩ ρ σ tt = some (c, σ₁)) (h : R.ev ⟨env.scope, t⟩ ρ σ₁ (if c then b else o) = some (p, σ')) :
    wpAny (model prog w) A (eval (.IfExp tt b o pos) env) (EP h₀ s as p σ') (fun _ _ => False) s := by
  refine IfExp_ (wpAny_mono (S.tr hA F I ht) (fun d s₁ h₁ => ?_) fun _ _ x => x)
  refine elEAA h₁ fun as₁ g₁ I₁ eq84x3 => ?_
  try clear h₁
  subst eq84x3
  cases d with
  | true => exact wpAny_mono (S.ev hA (F.grow g₁) I₁ h) (fun v s₂ h₂ => EP.trans g₁ h₂) fun _ _ x => x
  | false => exact wpAny_mono (S.ev hA (F.grow g₁) I₁ h) (fun v s₂ h₂ => EP.trans g₁ h₂) fun _ _ x => x
theorem const_ev (I : Inv h₀ s.heap as σ) {c : Const} {kk : Nat} {pos : Pos} {p : PV} (h : viewK c = some p) :
    wpAny (model prog w) A (eval (.Constant c kk pos) env) (EP h₀ s as p σ) (fun _ _ => False) s := by
  cases c with
  | none => cases h; exact Constant_none (EP.same I rfl)
  | bool b => cases h; exact Constant_bool (EP.same I rfl)
  | int i => cases h; exact wpAny_Constant_int (EP.toks I vr_int)
  | str x => cases h; exact Calls.Constant_str (EP.toks I ⟨_, rfl⟩)
  | bytes x => cases h; exact fun _ _ _ => EP.toks (k := s.toks + 1) I (v := .bytes _ s.toks) ⟨_, rfl⟩
  | _ => cases h
end
end Mine.Internal
end
section
set_option maxRecDepth 100000
set_option backward.match.sparseCases false
namespace Mine.Internal
open PySem PyProof.Rows
noncomputable def ItAt (I : Addr) (S : Src) (i : Nat) (h : Heap) (as : List Addr) : Prop := match S with
  | .rng a c n => i ≤ n ∧ IsRangeIter h I (a + (i : Int) * c) ((n : Int) - (i : Int)) c
  | .lst m => ∃ l, as[m]? = some l ∧ h.IsListIter I l i
  | .tup m => ∃ l, as[m]? = some l ∧ h.IsTupleIter I l i
  | _ => False
theorem ItAt.keep {I : Addr} {S : Src} {i : Nat} {h h' : Heap} {as as' : List Addr} (x : ItAt I S i h as) (hk : ∀ o, h.get? I = some o → h'.get? I = some o) (hp : ∃ t, as' = as ++ t) : ItAt I S i h' as' := by
  apply exE hp; intro t; clear hp
  cases S with
  | rng a c n => exact ⟨x.1, hk _ x.2⟩
  | lst m =>
    refine elEAEA x fun l hl o ho r => ?_
    try clear x
    exact ⟨l, by rw [List.getElem?_append_left (List.getElem?_eq_some_iff.mp hl).1]; exact hl, o, hk o ho, r⟩
  | tup m =>
    refine elEAEA x fun l hl o ho r => ?_
    try clear x
    exact ⟨l, by rw [List.getElem?_append_left (List.getElem?_eq_some_iff.mp hl).1]; exact hl, o, hk o ho, r⟩
  | _ => exact x.elim
theorem ItAt.live {I : Addr} {S : Src} {i : Nat} {h : Heap} {as : List Addr} (x : ItAt I S i h as) : ∃ o, h.get? I = some o := by
  cases S with
  | rng a c n => exact ⟨_, x.2⟩
  | lst m => obtain ⟨l, hl, o, ho, r⟩ := x; exact ⟨o, ho⟩
  | tup m => obtain ⟨l, hl, o, ho, r⟩ := x; exact ⟨o, ho⟩
  | _ => exact x.elim
structure Skip (I : Addr) (s s' : Shared) : Prop where
  keep : ∀ b o, b ≠ I → s.heap.get? b = some o → s'.heap.get? b = some o
  os : s'.os = s.os
  gens : GK s.gens s'.gens
theorem Grow.skip {X : List Addr} {s s₁ s₂ : Shared} {as as₁ : List Addr} {I : Addr} (g : Grow X s as s₁ as₁) (hI : s.heap.get? I = none) (k : Skip I s₁ s₂) : Grow X s as s₂ as₁ :=
  ⟨g.pre, fun b o hX hb e => k.keep b o (fun q => by rw [q, hI] at e; cases e) (g.keep b o hX hb e),
    fun b o e => by
      obtain ⟨o', e'⟩ := g.live b o e
      exact ⟨o', k.keep b o' (fun q => by rw [q, hI] at e; cases e) e'⟩, k.os.trans g.os, g.gens.trans k.gens⟩
theorem Inv.skip {h₀ : Heap} {s₁ s₂ : Shared} {as : List Addr} {σ : Sto} {I : Addr} (x : Inv h₀ s₁.heap as σ) (h0 : h₀.get? I = none) (hI : I ∉ as) (k : Skip I s₁ s₂) : Inv h₀ s₂.heap as σ :=
  ⟨fun b o e => k.keep b o (fun q => by rw [q, h0] at e; cases e) (x.base b o e), x.new, x.nd, x.len, fun n a po ha hp =>
    (x.obj n a po ha hp).mono ⟨[], by simp⟩ fun o e => k.keep a o (fun q => hI (q ▸ List.mem_of_getElem? ha)) e⟩
theorem FrI.skip {h₀ : Heap} {env : Env} {s₁ s₂ : Shared} {as : List Addr} {ρ : Rho} {I : Addr} (F : FrI h₀ env s₁.heap as ρ) (hI : I ∉ faddrs env) (k : Skip I s₁ s₂) : FrI h₀ env s₂.heap as ρ := by
  have kp : ∀ b ∈ faddrs env, ∀ o, s₁.heap.get? b = some o → s₂.heap.get? b = some o := fun b hb o e => k.keep b o (fun q => hI (q ▸ hb)) e
  have hc : ∀ x c, (x, c) ∈ env.cells → c ∈ faddrs env := fun x c h => List.mem_cons_of_mem _ (List.mem_map.mpr ⟨_, h, rfl⟩)
  refine ⟨F.fn, F.glb, F.blt, ?_, fun x p hx hk => ?_, F.nocd, F.kinds, F.own, fun x c h => ?_, F.apart, F.dict, F.offs⟩
  · refine elEA (F.ns) fun m hn hm => ?_
    exact ⟨m, hn.at' fun o e => kp _ (List.mem_cons_self ..) o e, hm⟩
  · refine elEEAA (F.cell x p hx hk) fun c v e pt52x1 hv => ?_
    obtain ⟨o, ho, hd⟩ := pt52x1
    exact ⟨c, v, e, ⟨o, kp c (hc x c (mem_of_lookup e)) o ho, hd⟩, hv⟩
  · refine elEEA (F.cells x c h) fun v o ho hd => ?_
    exact ⟨v, o, kp c (hc x c h) o ho, hd⟩
section
variable {P : Ctx → Prop} {prog : Program} {w : World} {h₀ : Heap} {mg mb : Str → Option Value} {k : Nat} {R : Rec} {T : Tab}
variable {A : Around} {env : Env} {s : Shared} {as : List Addr} {σ σ' : Sto} {ρ : Rho} {t : Bool}
theorem asTup_ok {o : PO} {vs : List PV} (h : asTup o = some vs) : o = .tup vs := by
  cases o <;> first | (cases h; rfl) | cases h
theorem tupAt_eq {m : Nat} {vs : List PV} (h : tupAt σ m = some vs) : σ[m]? = some (.tup vs) := bindE h fun _ h1 h2 => by rw [h1, asTup_ok h2]
theorem asRef_ok {v : PV} {n : Nat} (h : asRef v = some n) : v = .ref n := by
  cases v <;> first | (cases h; rfl) | cases h
noncomputable def NxP (h₀ : Heap) (I : Addr) (S : Src) (i : Nat) (s : Shared) (as : List Addr) (r : Option PV) (r' : Option Value) (s' : Shared) : Prop :=
  Skip I s s' ∧ match r with
    | none => r' = none
    | some p => ∃ v, r' = some v ∧ VR h₀ as v p ∧ ItAt I S (i + 1) s'.heap as
theorem next_sound {I : Addr} {S : Src} {i : Nat} {r : Option PV} (hh : A.handled = none) (x : ItAt I S i s.heap as) (hI : I ∉ as) (V : Inv h₀ s.heap as σ) (h : nx S i σ = some r) :
    wpAny (model prog w) A (pyNext (.ref I)) (NxP h₀ I S i s as r) (fun _ _ => False) s := by
  have sb : ∀ h', Heap.SameBut I s.heap h' → ∀ n, Skip I s { s with heap := h', toks := n } := fun h' hs n => ⟨fun b o hb e => hs.extBut b o hb e, rfl, .refl _⟩
  have eb : ∀ h', Heap.ExtBut I s.heap h' → Skip I s { s with heap := h' } := fun h' hs => ⟨fun b o hb e => hs b o hb e, rfl, .refl _⟩
  cases S with
  | rng a c n =>
    obtain ⟨hi, x⟩ := x
    unfold nx at h
    dsimp only at h
    by_cases hlt : i < n
    · simp only [hlt, if_true, Option.some.injEq] at h
      subst h
      refine wpAny_pyNext_range_item x (by omega) fun h' hit hs => ⟨sb h' hs _, _, rfl, vr_int, hlt, ?_⟩
      have e1 : a + (i : Int) * c + c = a + ((i + 1 : Nat) : Int) * c := by push_cast; rw [Int.add_mul]; omega
      have e2 : (n : Int) - i - 1 = (n : Int) - ((i + 1 : Nat) : Int) := by push_cast; omega
      rw [e1, e2] at hit
      exact hit
    · simp only [hlt, if_false, Option.some.injEq] at h
      subst h
      exact wpAny_pyNext_range_end hh x (by omega) fun h' hs => ⟨eb h' hs, rfl⟩
  | lst m =>
    refine elEA x fun l hl hit => ?_
    try clear x
    refine mapE h fun vs hv zz => ?_
    clear h
    rename _ => h
    refine elEA (V.list hv hl) fun its hp hvs => ?_
    cases r with
    | none =>
      refine wpAny_pyNext_list_end hh hit hp.isList ?_ fun h' hs => ⟨eb h' hs, rfl⟩
      rw [List.getElem?_toArray, List.getElem?_eq_none_iff, paired_length hvs]
      exact List.getElem?_eq_none_iff.mp h
    | some p =>
      refine elEA (paired_get hvs h) fun v hx hvr => ?_
      exact wpAny_pyNext_list_item (x := v) hit hp.isList (by rw [List.getElem?_toArray]; exact hx) fun h' hit' hs => ⟨sb h' hs s.toks, v, rfl, hvr, l, hl, hit'⟩
  | tup m =>
    refine elEA x fun l hl hit => ?_
    try clear x
    refine mapE h fun vs hs hr => ?_
    clear h
    refine elEA (V.obj m l _ hl (tupAt_eq hs)) fun its hp hvs => ?_
    cases r with
    | none =>
      refine wpAny_pyNext_tuple_end hh hit hp ?_ fun h' hs => ⟨eb h' hs, rfl⟩
      rw [List.getElem?_toArray, List.getElem?_eq_none_iff, paired_length hvs]
      exact List.getElem?_eq_none_iff.mp hr
    | some p =>
      refine elEA (paired_get hvs hr) fun v hx hvr => ?_
      exact wpAny_pyNext_tuple_item (x := v) hit hp (by rw [List.getElem?_toArray]; exact hx) fun h' hit' hs => ⟨sb h' hs s.toks, v, rfl, hvr, l, hl, hit'⟩
  | _ => exact x.elim
noncomputable def IterP (h₀ : Heap) (s : Shared) (as : List Addr) (S : Src) (σ' : Sto) (it : Value) (s' : Shared) : Prop :=
  ∃ I as', it = .ref I ∧ Grow [] s as s' as' ∧ Inv h₀ s'.heap as' σ' ∧ ItAt I S 0 s'.heap as' ∧ I ∉ as' ∧ s.heap.get? I = none ∧ h₀.get? I = none
theorem IterP.new {s₁ : Shared} {as₁ : List Addr} {S : Src} {o : Obj} (g : Grow [] s as s₁ as₁) (V : Inv h₀ s₁.heap as₁ σ') (x : ItAt s₁.heap.objs.size S 0 (s₁.heap.push o) as₁) : IterP h₀ s as S σ' (.ref s₁.heap.objs.size) { s₁ with heap := s₁.heap.push o } := by
  have hn : s₁.heap.get? s₁.heap.objs.size = none := Heap.get?_none_of_le (Nat.le_refl _)
  have fr := V.fresh hn
  refine ⟨_, as₁, rfl, g.trans (.keeps (fun b o e => Heap.get?_push_of_some _ e) rfl (.refl _)), V.push o, x, fr.1, ?_, fr.2⟩
  cases e : s.heap.get? s₁.heap.objs.size with
  | none => rfl
  | some o' =>
    obtain ⟨o'', e'⟩ := g.live _ _ e
    rw [hn] at e'; cases e'
theorem rngIter {a b c : Int} {x y z : Tok} {s₁ : Shared} {as₁ : List Addr} {q : Nat} (hsm : Builtin.Range.small a b c = true) (hc : 0 < c) (g : Grow [] s as s₁ as₁) (V : Inv h₀ s₁.heap as₁ σ') :
    wpAny (model prog w) A (pyIter (.ref s₁.heap.objs.size)) (IterP h₀ s as (.rng a c (Builtin.Range.rangeSize a b c).toNat) σ') (fun _ _ => False) { s₁ with heap := s₁.heap.push { cls := .type "range", data := .fields #[.int a x, .int b y, .int c z] }, toks := q } := by
  have g' : Grow [] s as { s₁ with heap := s₁.heap.push { cls := .type "range", data := .fields #[.int a x, .int b y, .int c z] }, toks := q } as₁ := g.trans (.keeps (fun b o e => Heap.get?_push_of_some _ e) rfl (.refl _))
  have V' : Inv h₀ ({ s₁ with heap := s₁.heap.push { cls := .type "range", data := .fields #[.int a x, .int b y, .int c z] }, toks := q } : Shared).heap as₁ σ' := V.push _
  refine wpAny_pyIter_range (IsRange.new ..) hsm (IterP.new g' V' ⟨Nat.zero_le _, ?_⟩)
  have hnn : 0 ≤ Builtin.Range.rangeSize a b c := by
    unfold Builtin.Range.rangeSize
    rw [if_pos hc]
    split
    · have := Int.ediv_nonneg (a := b - a - 1) (b := c) (by omega) (by omega)
      omega
    · omega
  have e1 : a + ((0 : Nat) : Int) * c = a := by simp
  have e2 : (((Builtin.Range.rangeSize a b c).toNat : Nat) : Int) - ((0 : Nat) : Int) = Builtin.Range.rangeSize a b c := by omega
  rw [e1, e2]
  exact Heap.get?_push_size _ rfl
theorem range_sound {is : List Int} {vs : List Value} {sr : Src} {s₁ : Shared} {as₁ : List Addr} (hsm : smallAll is = true) (hr : rangeOf is = some sr) (hI : IntsAre vs is) (g : Grow [] s as s₁ as₁) (V : Inv h₀ s₁.heap as₁ σ') :
    wpAny (model prog w) A (call (.type "range") vs) (fun x s₂ => wpAny (model prog w) A (pyIter x) (IterP h₀ s as sr σ') (fun _ _ => False) s₂) (fun _ _ => False) s₁ := by
  cases hI with
  | nil => cases hr
  | cons a ta r => cases r with
    | nil =>
      refine iteE hr fun hs zz => ?_
      clear hr
      rename _ => hr
      cases hr
      exact call_range_1 (rngIter hs (by decide) g V)
    | cons b tb r => cases r with
      | nil =>
        refine iteE hr fun hs zz => ?_
        clear hr
        rename _ => hr
        cases hr
        exact call_range_2 (rngIter hs (by decide) g V)
      | cons c tc r => cases r with
        | nil =>
          refine iteE hr fun hs zz => ?_
          clear hr
          rename _ => hr
          cases hr
          have hc3 : c < 1000 := by
            have := List.all_eq_true.mp hsm c (by simp)
            rw [Bool.and_eq_true, decide_eq_true_eq, decide_eq_true_eq] at this
            exact this.2
          exact call_range_3 (by omega) (rngIter hs.2 hs.1 g V) (.inl (PyProof.noPylong_small (by omega)))
        | cons _ _ _ => cases hr
theorem srcF_plain {f : Str} {ps : List PV} {sr : Src} (h : srcF T f ps σ' = some sr) (hg : (∀ ps, sr ≠ .gens ps) ∧ ∀ m n, sr ≠ .zips m n) : f = "range" ∧ ∃ is, pvInts ps = some is ∧ smallAll is = true ∧ rangeOf is = some sr := by
  refine ite2 h (fun hf h => bindE h fun is hi h => iteE h fun hs h => ⟨hf, is, hi, hs, h⟩) fun _ h => ite2 h (fun hf h => ?_) fun _ h => iteE h fun hf h => ?_
  · refine bindE h fun p _ zz => ?_
    clear h
    refine bindE zz fun m _ h => ?_
    clear zz
    refine bindE h fun n _ zz => ?_
    clear h
    refine bindE zz fun xs _ h => ?_
    clear zz
    refine bindE h fun ys _ zz => ?_
    clear h
    refine iteE zz fun _ h => ?_
    clear zz
    cases h
    exact absurd rfl (hg.2 _ _)
  · refine bindE h fun v _ zz => ?_
    clear h
    refine bindE zz fun x _ h => ?_
    clear zz
    refine iteE h fun _ zz => ?_
    clear h
    rename _ => h
    cases h
    exact absurd rfl (hg.1 _)
theorem src_sound (B : Bs h₀ mg mb) (S : Sd P prog w h₀ k R) (hA : AOk k A) (F : FrI h₀ env s.heap as ρ) (I : Inv h₀ s.heap as σ) {iter : Expr} {sr : Src} (h : src T R ⟨env.scope, t⟩ ρ σ iter = some (sr, σ'))
    (hg : (∀ ps, sr ≠ .gens ps) ∧ ∀ m n, sr ≠ .zips m n) :
    wpAny (model prog w) A (eval iter env) (fun x s₁ => wpAny (model prog w) A (pyIter x) (IterP h₀ s as sr σ') (fun _ _ => False) s₁) (fun _ _ => False) s := by
  have ok := view_ok iter
  unfold src at h
  generalize view iter = v at ok h
  cases v with
  | call f args =>
    refine elAEE ok fun _ p q eq191x2 => ?_
    try clear ok
    subst eq191x2
    refine iteE h fun hk zz => ?_
    clear h
    refine bndE zz fun vs σ₁ ha h => ?_
    clear zz
    refine mapE h fun sr' hs zz => ?_
    clear h
    rename _ => h
    cases h
    refine elAEAA (srcF_plain hs hg) fun hf is hi hsm hr => ?_
    subst hf
    refine wpP_to_any (callNameP (global_sound B F I (by decide) hk (.inr B.range) (callWithP_val rfl (plainArgs (evs_length ha)) (wpP_any (wpAny_mono (evs_sound S hA F I ha) (fun us s₁ h₁ => ?_) fun _ _ x => x)))))
    refine elEAA h₁ fun as₁ g₁ I₁ hv => ?_
    try clear h₁
    exact wpP_any (range_sound hsm hr (ints_are hi hv) g₁ I₁)
  | name x =>
    refine bndE h fun v σ₁ he zz => ?_
    clear h
    refine bindE zz fun n hn h => ?_
    clear zz
    refine mapE h fun vs hl zz => ?_
    clear h
    rename _ => h
    cases h
    rw [asRef_ok hn] at he
    refine wpAny_mono (S.ev hA F I he) (fun v s₁ h₁ => ?_) fun _ _ x => x
    refine elEAAEA h₁ fun as₁ g₁ I₁ a eq204x3 ha => ?_
    try clear h₁
    subst eq204x3
    refine elEA (I₁.list hl ha) fun its hp hvs => ?_
    exact wpAny_pyIter_list hp.isList (IterP.new g₁ I₁ ⟨a, ha, _, Heap.get?_push_size _ rfl, rfl, rfl⟩)
  | tup es =>
    refine bndE h fun v σ₁ he zz => ?_
    clear h
    refine bindE zz fun n hn h => ?_
    clear zz
    refine bindE h fun vs hs zz => ?_
    clear h
    refine iteE zz fun _ h => ?_
    clear zz
    apply spE h; clear h
    rw [asRef_ok hn] at he
    refine wpAny_mono (S.ev hA F I he) (fun v s₁ h₁ => ?_) fun _ _ x => x
    refine elEAAEA h₁ fun as₁ g₁ I₁ a eq212x4 ha => ?_
    try clear h₁
    subst eq212x4
    refine elEA (I₁.obj n a _ ha (tupAt_eq hs)) fun its hp hvs => ?_
    exact wpAny_pyIter_tuple hp (IterP.new g₁ I₁ ⟨a, ha, _, Heap.get?_push_size _ rfl, rfl, rfl⟩)
  | _ => exact noE h
end
end Mine.Internal
end
section
set_option maxRecDepth 100000
set_option backward.match.sparseCases false
namespace Mine.Internal
open PySem PyProof.Rows
theorem cells_apart {cells : List (Str × Addr)} (hp : cells.Pairwise fun x y => x.2 ≠ y.2) {x y : Str} {c d : Addr} (hx : cells.lookup x = some c) (hy : cells.lookup y = some d) (hne : x ≠ y) : c ≠ d := by
  induction hp with
  | nil => cases hx
  | cons hh ht ih =>
    rename_i p l
    obtain ⟨z, e⟩ := p
    rw [List.lookup_cons] at hx hy
    by_cases h1 : x = z
    · subst h1
      simp only [beq_self_eq_true] at hx
      cases hx
      have : (y == x) = false := by simpa using fun q => hne q.symm
      rw [this] at hy
      exact hh _ (mem_of_lookup hy)
    · have h1' : (x == z) = false := by simpa using h1
      rw [h1'] at hx
      by_cases h2 : y = z
      · subst h2
        simp only [beq_self_eq_true] at hy
        cases hy
        exact fun q => hh _ (mem_of_lookup hx) q.symm
      · have h2' : (y == z) = false := by simpa using h2
        rw [h2'] at hy
        exact ih hx hy
section
variable {P : Ctx → Prop} {prog : Program} {w : World} {h₀ : Heap} {mg mb : Str → Option Value} {k : Nat} {R : Rec} {T : Tab}
variable {A : Around} {env : Env} {s : Shared} {as : List Addr} {σ σ' : Sto} {ρ : Rho} {t : Bool}
noncomputable def StP (h₀ : Heap) (env : Env) (s : Shared) (as : List Addr) (ρ' : Rho) (σ : Sto) (s' : Shared) : Prop :=
  Grow (faddrs env) s as s' as ∧ Inv h₀ s'.heap as σ ∧ FrI h₀ env s'.heap as ρ'
theorem kind_of {x : Str} (h : kindOk env.scope x = true) : env.kindOf x = some .local ∨ env.kindOf x = some .cell := by
  unfold kindOk at h
  simp only [Bool.or_eq_true, beq_iff_eq] at h
  exact h
theorem store_both {x : Str} {v : Value} {p : PV} (F : FrI h₀ env s.heap as ρ) (I : Inv h₀ s.heap as σ) (hk : env.kindOf x = some .local ∨ env.kindOf x = some .cell) (hv : VR h₀ as v p) :
    wpAny (model prog w) A (storeName env x v) (fun _ s' => StP h₀ env s as (upd ρ x p) σ s' ∧ (env.kindOf x = some .local → Skip env.locals s s')) (fun _ _ => False) s := by
  refine elEA (F.ns) fun m hn hm => ?_
  have step : ∀ (c : Addr) (h' : Heap) (n : Nat), c ∈ faddrs env → Heap.SameBut c s.heap h' → (∃ o, h'.get? c = some o) → Grow (faddrs env) s as { s with heap := h', toks := n } as ∧ Inv h₀ h' as σ := by
    intro c h' n hc hs hl
    have off := F.offs c hc
    refine ⟨⟨⟨[], by simp, fun _ h => nomatch h⟩, fun b o hX _ e => (hs.2 b (fun q => hX (q ▸ hc))).trans e, fun b o e => ?_, rfl, .refl _⟩, ?_⟩
    · by_cases q : b = c
      · subst q; exact hl
      · exact ⟨o, (hs.2 b q).trans e⟩
    · refine ⟨fun b o e => (hs.2 b (fun q => by rw [q, off.2] at e; cases e)).trans (I.base b o e), I.new, I.nd, I.len, fun n a po ha hp => ?_⟩
      exact (I.obj n a po ha hp).mono ⟨[], by simp⟩ fun o e => (hs.2 a (fun q => off.1 (q ▸ List.mem_of_getElem? ha))).trans e
  rcases hk with hk | hk
  · refine wpAny_storeName_local hk hn (fun h' hn' hs => ?_) (by rw [F.fn]; rfl)
    have hl : env.locals ∈ faddrs env := List.mem_cons_self ..
    obtain ⟨g, V⟩ := step env.locals h' (s.toks + 1) hl hs (by obtain ⟨o, _, _, ho, _⟩ := hn'; exact ⟨o, ho⟩)
    refine ⟨⟨g, V, F.fn, F.glb, F.blt, ⟨_, hn', fun y q hy hky => ?_⟩, fun y q hy hky => ?_, F.nocd, fun y q hy => ?_, F.own, fun y c hc => ?_, F.apart, F.dict, F.offs⟩, fun _ => ⟨fun b o hb e => hs.extBut b o hb e, rfl, .refl _⟩⟩
    · rw [lookup_upd] at hy
      by_cases e : y = x
      · subst e
        simp only [if_true, Option.some.injEq] at hy
        subst hy
        exact ⟨v, by simp, hv⟩
      · rw [if_neg e] at hy
        refine elEA (hm y q hy hky) fun u hu hvu => ?_
        exact ⟨u, by rw [if_neg e]; exact hu, hvu⟩
    · rw [lookup_upd] at hy
      by_cases e : y = x
      · subst e
        rcases hky with q | q <;> (rw [hk] at q; cases q)
      · rw [if_neg e] at hy
        refine elEEAA (F.cell y q hy hky) fun c u hc pt76x1 hvu => ?_
        obtain ⟨o, ho, hd⟩ := pt76x1
        exact ⟨c, u, hc, ⟨o, (hs.2 c (F.dict c (List.mem_map.mpr ⟨_, mem_of_lookup hc, rfl⟩))).trans ho, hd⟩, hvu⟩
    · rw [lookup_upd] at hy
      by_cases e : y = x
      · subst e; exact .inl hk
      · rw [if_neg e] at hy; exact F.kinds y q hy
    · refine elEEA (F.cells y c hc) fun u o ho hd => ?_
      exact ⟨u, o, (hs.2 c (F.dict c (List.mem_map.mpr ⟨_, hc, rfl⟩))).trans ho, hd⟩
  · obtain ⟨c, hc⟩ := F.own x hk
    obtain ⟨v₀, hv₀⟩ := F.cells x c (mem_of_lookup hc)
    have hcm : c ∈ env.cells.map (·.2) := List.mem_map.mpr ⟨_, mem_of_lookup hc, rfl⟩
    refine wpAny_storeName_cell F.fn hk hc hv₀ fun h' hcell hs => ?_
    obtain ⟨g, V⟩ := step c h' s.toks (List.mem_cons_of_mem _ hcm) hs (by obtain ⟨o, ho, _⟩ := hcell; exact ⟨o, ho⟩)
    refine ⟨⟨g, V, F.fn, F.glb, F.blt, ⟨m, hn.at' fun o e => (hs.2 _ (fun q => F.dict c hcm q.symm)).trans e, fun y q hy hky => ?_⟩, fun y q hy hky => ?_, F.nocd, fun y q hy => ?_, F.own, fun y d hd => ?_, F.apart, F.dict, F.offs⟩, fun q => by rw [hk] at q; cases q⟩
    · rw [lookup_upd] at hy
      by_cases e : y = x
      · subst e; rw [hk] at hky; cases hky
      · rw [if_neg e] at hy; exact hm y q hy hky
    · rw [lookup_upd] at hy
      by_cases e : y = x
      · subst e
        simp only [if_true, Option.some.injEq] at hy
        subst hy
        exact ⟨c, v, hc, hcell, hv⟩
      · rw [if_neg e] at hy
        refine elEEAA (F.cell y q hy hky) fun d u hd pt101x2 hvu => ?_
        obtain ⟨o, ho, hdd⟩ := pt101x2
        exact ⟨d, u, hd, ⟨o, (hs.2 d (cells_apart F.apart hd hc e)).trans ho, hdd⟩, hvu⟩
    · rw [lookup_upd] at hy
      by_cases e : y = x
      · subst e; exact .inr (.inl hk)
      · rw [if_neg e] at hy; exact F.kinds y q hy
    · by_cases e : d = c
      · subst e; exact ⟨some v, hcell⟩
      · refine elEEA (F.cells y d hd) fun u o ho hdd => ?_
        exact ⟨u, o, (hs.2 d e).trans ho, hdd⟩
theorem store_sound {x : Str} {v : Value} {p : PV} (F : FrI h₀ env s.heap as ρ) (I : Inv h₀ s.heap as σ) (hk : env.kindOf x = some .local ∨ env.kindOf x = some .cell) (hv : VR h₀ as v p) :
    wpAny (model prog w) A (storeName env x v) (fun _ s' => StP h₀ env s as (upd ρ x p) σ s') (fun _ _ => False) s :=
  wpAny_mono (store_both F I hk hv) (fun _ _ h => h.1) fun _ _ x => x
noncomputable def TopOk (t : Bool) (A : Around) (env : Env) : Prop := t = true → A.frames = some [env] ∧ env.frame = some env.locals
theorem topF {A : Around} : TopOk false A env := fun h => by cases h
noncomputable def Xs (P : Ctx → Prop) (prog : Program) (w : World) (h₀ : Heap) (k : Nat) (R : Rec) : Prop :=
  ∀ {A : Around} {env : Env} {s : Shared} {as : List Addr} {σ σ' : Sto} {ρ ρ' : Rho} {t : Bool} {st : Stmt} {fl : Fl}, AOk k A → TopOk t A env → FrI h₀ env s.heap as ρ → Inv h₀ s.heap as σ → R.ex ⟨env.scope, t⟩ ρ σ st = some (fl, ρ', σ') →
    wpP P (model prog w) A (exec st env) (XP h₀ env s as fl ρ' σ') (fun _ _ => False) s
theorem XP.trans {X : Flow → Shared → Prop} {s₁ s' : Shared} {as₁ : List Addr} {fl : Fl} {ρ' : Rho} {f : Flow} (g : Grow (faddrs env) s as s₁ as₁) (h : XP h₀ env s₁ as₁ fl ρ' σ' f s') : XP h₀ env s as fl ρ' σ' f s' :=
  let ⟨as', g', I, F, r⟩ := h; ⟨as', g.trans g', I, F, r⟩
theorem exs_sound (X : Xs P prog w h₀ k R) (hA : AOk k A) (hO : TopOk t A env) : ∀ {l : List Stmt} {s : Shared} {as : List Addr} {σ : Sto} {ρ ρ' : Rho} {fl : Fl}, FrI h₀ env s.heap as ρ → Inv h₀ s.heap as σ → exs R ⟨env.scope, t⟩ ρ σ l = some (fl, ρ', σ') →
    wpP P (model prog w) A (execs l env) (XP h₀ env s as fl ρ' σ') (fun _ _ => False) s
  | [], s, as, σ, ρ, ρ', fl, F, I, h => by
    apply tpE h; clear h
    exact wpP_any (wpAny_execs_nil ⟨as, .refl _ _ _, I, F, trivial⟩)
  | st :: r, s, as, σ, ρ, ρ', fl, F, I, h => by
    rw [execs_cons]
    refine bindE h fun x he zz => ?_
    clear h
    rename _ => h
    obtain ⟨f₁, ρ₁, σ₁⟩ := x
    cases f₁ with
    | next =>
      refine wpP_bind (wpP_mono (X hA hO F I he) (fun f s₁ h₁ => ?_) fun _ _ x => x)
      refine elEAAA h₁ fun as₁ g₁ I₁ F₁ hf => ?_
      try clear h₁
      cases f with
      | next => exact wpP_mono (exs_sound X hA hO F₁ I₁ h) (fun f s₂ h₂ => XP.trans (X := fun _ _ => True) g₁ h₂) fun _ _ x => x
      | _ => exact hf.elim
    | ret p =>
      apply tpE h; clear h
      refine wpP_bind (wpP_mono (X hA hO F I he) (fun f s₁ h₁ => ?_) fun _ _ x => x)
      refine elEAAA h₁ fun as₁ g₁ I₁ F₁ hf => ?_
      try clear h₁
      cases f with
      | ret v => exact wpP_pure ⟨as₁, g₁, I₁, F₁, hf⟩
      | _ => exact hf.elim
end
end Mine.Internal
end
section
set_option maxRecDepth 100000
set_option backward.match.sparseCases false
namespace Mine.Internal
open PySem PyProof.Rows
section
variable {P : Ctx → Prop} {prog : Program} {w : World} {A : Around} {s : Shared}
theorem forLoopP (L : Pl P) {R : Result → Shared → Prop} {target : Expr} {it : Value} {body : List Stmt} {env : Env} {Ex : Value → Shared → Prop}
    (hEx : ∀ x s', Ex x s' → wpP P (model prog w) A (noteFrame x env >>= fun _ => theTreesLotGoes x) (fun _ s'' => R (.error x) s'') (fun e s'' => R (.error e) s'') s')
    (hEs : ∀ x s', Ex x s' → True) (I : Nat → Shared → Prop)
    (turn : ∀ n s, I n s → wpAny (model prog w) A (pyNext it) (fun r s₁ => match r with
      | none => R (.ok .next) s₁
      | some v => wpAny (model prog w) A (letOwnedTupleGo target it v) (fun _ s₁' => wpAny (model prog w) A (assign target env v) (fun _ s₂ => wpP P (model prog w) A (execs body env) (fun f s₃ => match f with
          | .next | .cont => ∃ m, m < n ∧ I m s₃
          | .brk => R (.ok .next) s₃
          | .ret v => R (.ok (.ret v)) s₃) Ex s₂) Ex s₁') Ex s₁) Ex s)
    (n : Nat) (h : I n s) : codeP P (model prog w) A (.forLoop target it body [] env) R s := by
  refine codeP_loop L rfl rfl I (fun n s hI => ?_) n h
  rw [Around.under_of_weight (show (Code.forLoop target it body [] env).weight = 0 from rfl) rfl]
  show wpP _ _ _ ((forTurn target it body [] env).onRaise (fun x => do noteFrame x env; theTreesLotGoes x)) _ _ s
  refine wpP_onRaise (wpP_mono (E := Ex) ?_ (fun _ _ x => x) fun x s' hx => hEx x s' hx)
  skip
  refine wpP_leaf (wpAny_standAt ?_)
  refine wpP_bind (wpP_any (wpAny_onRaise (wpAny_mono (turn n s hI) (fun r s₁ h₁ => ?_) fun _ _ h' => wpAny_standAt h')))
  cases r with
  | none =>
    refine wpP_pure (.inr ⟨rfl, rfl, codeP_of_tree L ?_⟩)
    rw [Around.under_of_weight (show (Code.block [] env).weight = 0 from rfl) rfl]
    show wpP _ _ _ (do return Fin.done (← (execs [] env).onRaise (fun x => do noteFrame x env; theTreesLotGoes x))) _ _ _
    exact wpP_bind (wpP_onRaise (wpP_any (wpAny_execs_nil (wpP_pure h₁))))
  | some v =>
    refine wpP_leaf (wpAny_mono h₁ (fun _ s₁' h₁' => wpP_leaf (wpAny_mono h₁' (fun _ s₂ h₂ => wpP_bind (wpP_mono h₂ (fun f s₃ h₃ => ?_) fun _ _ x => x)) fun _ _ x => x)) fun _ _ x => x)
    cases f with
    | next => exact wpP_pure (.inl ⟨rfl, h₃⟩)
    | cont => exact wpP_pure (.inl ⟨rfl, h₃⟩)
    | brk => exact wpP_pure h₃
    | ret v => exact wpP_pure h₃
theorem forP_exec (L : Pl P) {target iter : Expr} {body : List Stmt} {pos : Pos} {env : Env} {Q : Flow → Shared → Prop}
    (h : wpAny (model prog w) A (eval iter env) (fun x s₁ => wpAny (model prog w) A (pyIter x) (fun it s₂ =>
      codeP P (model prog w) A (.forLoop target it body [] env) (fun r s' => match r with | .ok f => Q f s' | .error _ => False) s₂) (fun _ _ => False) s₁) (fun _ _ => False) s)
    (hs : ∀ x, foldedSetIterable iter env x = pure x) : wpP P (model prog w) A (exec (.For target iter body [] pos) env) Q (fun _ _ => False) s := by
  rw [exec_For]
  refine wpP_leaf (wpAny_standAt (wpP_leaf (wpAny_mono h (fun x s₁ h₁ => wpP_bind (wpP_of_eq (hs x) (wpP_leaf (wpAny_standAt (wpP_leaf (wpAny_holding (wpAny_mono h₁ (fun it s₂ h₂ => ?_) fun _ _ x => x))))))) fun _ _ x => x)))
  skip
  refine wpP_onRaise (wpP_run L rfl (codeP_mono h₂ fun r s' hr => ?_) (by intro x; cases x))
  cases r with
  | ok f => exact hr
  | error e => exact hr.elim
end
section
variable {P : Ctx → Prop} {prog : Program} {w : World} {h₀ : Heap} {mg mb : Str → Option Value} {k : Nat} {R : Rec} {T : Tab}
variable {A : Around} {env : Env} {s : Shared} {as : List Addr} {σ σ' : Sto} {ρ ρ' : Rho} {t : Bool}
theorem fold_plain {iter : Expr} {sr : Src} (h : src T R ⟨env.scope, t⟩ ρ σ iter = some (sr, σ')) : ∀ x, foldedSetIterable iter env x = pure x := by
  have ok := view_ok iter
  unfold src at h
  generalize view iter = v at ok h
  cases v with
  | call f args => obtain ⟨_, p, q, rfl⟩ := ok; exact fun x => rfl
  | name y => obtain ⟨_, p, rfl⟩ := ok; exact fun x => rfl
  | tup es => obtain ⟨_, p, rfl⟩ := ok; exact fun x => rfl
  | _ => exact noE h
theorem for_sound (L : Pl P) (B : Bs h₀ mg mb) (S : Sd P prog w h₀ k R) (X : Xs P prog w h₀ k R) (hA : AOk k A) (hO : TopOk t A env) (F : FrI h₀ env s.heap as ρ) (V : Inv h₀ s.heap as σ) {x : Str} {px pos : Pos} {iter : Expr} {body : List Stmt} {sr : Src} {σ₁ : Sto} {fl : Fl}
    (hs : src T R ⟨env.scope, t⟩ ρ σ iter = some (sr, σ₁)) (hg : (∀ ps, sr ≠ .gens ps) ∧ ∀ m n, sr ≠ .zips m n) (hk : kindOk env.scope x = true)
    (h : forS (fun v ρ σ => exs R ⟨env.scope, t⟩ (upd ρ x v) σ body) sr 2000 0 ρ σ₁ = some (fl, ρ', σ')) :
    wpP P (model prog w) A (exec (.For (.Name x px) iter body [] pos) env) (XP h₀ env s as fl ρ' σ') (fun _ _ => False) s := by
  refine forP_exec L (wpAny_mono (src_sound B S hA F V hs hg) (fun xv s₁ h₁ => wpAny_mono h₁ (fun it s₂ h₂ => ?_) fun _ _ x => x) fun _ _ x => x) (fold_plain hs)
  refine elEEAAAAAA h₂ fun I as₂ eq74x1 g₂ V₂ it₂ hI₂ hIs hI0 => ?_
  try clear h₂
  subst eq74x1
  have F₂ := F.grow g₂
  have hIf : I ∉ faddrs env := fun hm => by
    have : ∃ o, s.heap.get? I = some o := by
      rcases List.mem_cons.mp hm with rfl | hb'
      · obtain ⟨m, ⟨o, _, _, ho, _⟩, _⟩ := F.ns; exact ⟨o, ho⟩
      · refine elEA (List.mem_map.mp hb') fun pt80x2 hm' eq80x3 => ?_
        obtain ⟨y, c⟩ := pt80x2
        subst eq80x3
        obtain ⟨v, o, ho, _⟩ := F.cells y c hm'; exact ⟨o, ho⟩
    obtain ⟨o, ho⟩ := this
    rw [hIs] at ho; cases ho
  refine opq2 (fun (n : Nat) (s₃ : Shared) => ∃ i as₃ σ₃ ρ₃, Grow (faddrs env) s as s₃ as₃ ∧ Inv h₀ s₃.heap as₃ σ₃ ∧ FrI h₀ env s₃.heap as₃ ρ₃ ∧ ItAt I sr i s₃.heap as₃ ∧ I ∉ as₃ ∧
      forS (fun v ρ σ => exs R ⟨env.scope, t⟩ (upd ρ x v) σ body) sr n i ρ₃ σ₃ = some (fl, ρ', σ')) fun IV un mk => ?_
  refine forLoopP L (Ex := fun _ _ => False) (fun _ _ x => x.elim) (fun _ _ _ => trivial) IV ?_ 2000 (mk _ _ ⟨0, as₂, σ₁, ρ, g₂.wide0, V₂, F₂, it₂, hI₂, h⟩)
  clear V₂ F₂ it₂ hI₂ h
  intro n s₃ hI
  refine el4_5 (un _ _ hI) fun i as₃ σ₃ ρ₃ g₃ V₃ F₃ it₃ hI₃ h₃ => ?_
  clear hI un
  cases n with
  | zero => cases h₃
  | succ n =>
    refine bindE h₃ fun o hn zz => ?_
    clear h₃
    rename _ => h₃
    cases o with
    | none =>
      apply tpE h₃
      clear h₃
      refine wpAny_mono (next_sound hA.1 it₃ hI₃ V₃ hn) (fun r s₄ h₄ => ?_) fun _ _ x => x
      obtain ⟨sk, rfl⟩ := h₄
      exact ⟨as₃, g₃.skip hIs sk, V₃.skip hI0 hI₃ sk, F₃.skip hIf sk, trivial⟩
    | some p =>
      refine wpAny_mono (next_sound hA.1 it₃ hI₃ V₃ hn) (fun r s₄ h₄ => ?_) fun _ _ x => x
      refine elAEAA h₄ fun sk v eq100x4 hv it₄ => ?_
      try clear h₄
      subst eq100x4
      have g₄ := g₃.skip hIs sk
      have V₄ := V₃.skip hI0 hI₃ sk
      have F₄ := F₃.skip hIf sk
      refine wpAny_of_eq (show letOwnedTupleGo (.Name x px) (.ref I) v = pure () from rfl) ?_
      refine wpAny_assign_Name (wpAny_mono (store_sound F₄ V₄ (kind_of hk) hv) (fun _ s₅ h₅ => ?_) fun _ _ x => x)
      refine elAA h₅ fun g₅ V₅ F₅ => ?_
      try clear h₅
      have it₅ : ItAt I sr (i + 1) s₅.heap as₃ := it₄.keep (fun o e => g₅.keep I o hIf hI₃ e) ⟨[], by simp⟩
      have g₅' := g₄.trans g₅
      refine bindE h₃ fun y he zz => ?_
      clear h₃
      rename _ => h₃
      obtain ⟨f₁, ρ₆, σ₆⟩ := y
      refine wpP_mono (exs_sound X hA hO F₅ V₅ he) (fun f s₆ h₆ => ?_) fun _ _ x => x
      refine elEAAA h₆ fun as₆ g₆ V₆ F₆ hf => ?_
      try clear h₆
      cases f₁ with
      | next =>
        cases f with
        | next =>
          refine elEA (g₆.pre) fun u hu hfr => ?_
          refine ⟨n, Nat.lt_succ_self n, mk _ _ ⟨i + 1, as₆, σ₆, ρ₆, g₅'.trans g₆, V₆, F₆, it₅.keep (fun o e => g₆.keep I o hIf hI₃ e) ⟨u, hu⟩, ?_, h₃⟩⟩
          refine hu.symm ▸ ?_
          intro hm
          rcases List.mem_append.mp hm with q | q
          · exact hI₃ q
          · obtain ⟨o, ho⟩ := it₅.live
            rw [hfr I q] at ho; cases ho
        | _ => exact hf.elim
      | ret q =>
        apply tpE h₃
        cases f with
        | ret v => exact ⟨as₆, g₅'.trans g₆, V₆, F₆, hf⟩
        | _ => exact hf.elim
end
end Mine.Internal
end
section
set_option maxRecDepth 100000
set_option backward.match.sparseCases false
namespace Mine.Internal
open PySem PyProof.Rows
noncomputable def SpOk (P : Ctx → Prop) (prog : Program) (w : World) (h₀ : Heap) (mg mb : Str → Option Value) (k : Nat) (f : Str) (g : Nat1) : Prop :=
  ∃ v, (mg f = some v ∨ (mg f = none ∧ mb f = some v)) ∧ (keeperOf v = pure .machine ∨ ∃ a o fd, v = .ref a ∧ h₀.get? a = some o ∧ o.data = .func fd) ∧
    ∀ (A : Around) (s : Shared) (as : List Addr) (σ : Sto) (vs : List Value) (ps : List PV) (p : PV) (σ' : Sto),
      AOk k A → Inv h₀ s.heap as σ → Paired (VR h₀ as) vs ps → g ps σ = some (p, σ') → wpP P (model prog w) A (call v vs) (EP h₀ s as p σ') (fun _ _ => False) s
section
variable {P : Ctx → Prop} {prog : Program} {w : World} {h₀ : Heap} {mg mb : Str → Option Value} {k : Nat} {R : Rec} {T : Tab}
variable {A : Around} {env : Env} {s : Shared} {as : List Addr} {σ σ' : Sto} {ρ ρ' : Rho} {t : Bool}
theorem binopP {l r : Expr} {op : Operator} {pos : Pos} {Q : Value → Shared → Prop} {E : Value → Shared → Prop}
    (h : wpP P (model prog w) A (eval l env) (fun a s₁ => wpP P (model prog w) A (eval r env) (fun b s₂ => wpAny (model prog w) A (binaryOp op a b) Q E s₂) E s₁) E s) :
    wpP P (model prog w) A (eval (.BinOp l op r pos) env) Q E s := fun Γ p hΓ hP => by
  simp only [eval_BinOp, Sem.wp_bind', Sem.wp_holding, Sem.wp_cmd_standAt, Sem.wp_operate]
  exact Sem.wp_mono _ Γ _ (fun a p₁ s₁ h₁ => Sem.wp_mono _ Γ _ (fun b _ s₂ h₂ => h₂ Γ _ hΓ) (fun _ _ _ h' => h') _ _ (h₁ Γ p₁ hΓ hP)) (fun _ _ _ h' => h') _ _ (h Γ p hΓ hP)
theorem spcall_sound (B : Bs h₀ mg mb) (hA : AOk k A) (F : FrI h₀ env s.heap as ρ) (I : Inv h₀ s.heap as σ) {f : Str} {g : Nat1} {pf pos : Pos} {args : List Expr} {vs : List PV} {p : PV} {σ₁ : Sto} (hg : SpOk P prog w h₀ mg mb k f g) (hd : f ≠ "__debug__") (hk : env.scope.names.lookup f = some .globalImplicit)
    (hst : args.any isStar = false) (ha : wpP P (model prog w) A (spliced (backTo pos (starEach args env))) (EPs h₀ s as vs σ₁) (fun _ _ => False) s) (h : g vs σ₁ = some (p, σ')) :
    wpP P (model prog w) A (eval (.Call (.Name f pf) args [] pos) env) (EP h₀ s as p σ') (fun _ _ => False) s := by
  refine elEAA hg fun v hv hkp hct => ?_
  try clear hg
  have fin : ∀ us s₁, EPs h₀ s as vs σ₁ us s₁ → wpP P (model prog w) A (call v us) (EP h₀ s as p σ') (fun _ _ => False) s₁ := fun us s₁ h₁ => by
    refine elEAA h₁ fun as₁ g₁ I₁ hu => ?_
    try clear h₁
    exact wpP_mono (hct A s₁ as₁ σ₁ us vs p σ' hA I₁ hu h) (fun v s₂ h₂ => EP.trans g₁ h₂) fun _ _ x => x
  refine callNameP (global_sound B F I hd hk hv ?_)
  rcases hkp with hkp | ⟨a, o, fd, rfl, ho, hdat⟩
  · exact callWithP_val hkp (plainArgs hst) (wpP_mono ha (fun us s₁ h₁ => fin us s₁ h₁) fun _ _ x => x)
  · refine callWithP_fn (plainArgs hst) (wpP_mono ha (fun us s₁ h₁ => ⟨?_, fin us s₁ h₁⟩) fun _ _ x => x)
    refine elEAA h₁ fun as₁ g₁ I₁ hu => ?_
    try clear h₁
    exact ⟨o, fd, I₁.base a o ho, hdat⟩
theorem es_sound (B : Bs h₀ mg mb) (hT : ∀ f g, T.sp f = some g → SpOk P prog w h₀ mg mb k f g) (S : Sd P prog w h₀ k R) (hA : AOk k A) (F : FrI h₀ env s.heap as ρ) (I : Inv h₀ s.heap as σ) {e : Expr} {p : PV} (h : esStep T R ⟨env.scope, t⟩ ρ σ e = some (p, σ')) :
    wpP P (model prog w) A (eval e env) (EP h₀ s as p σ') (fun _ _ => False) s := by
  have ok := view_ok e
  unfold esStep at h
  generalize view e = v at ok h
  cases v with
  | call f args =>
    replace h : (match T.sp f with
      | some g => if env.scope.names.lookup f = some .globalImplicit then bnd (esL R ⟨env.scope, t⟩ ρ σ args) fun vs σ => g vs σ else none
      | none => R.ev ⟨env.scope, t⟩ ρ σ e) = some (p, σ') := h
    cases hg : T.sp f with
    | none => rw [hg] at h; exact wpP_any (S.ev hA F I h)
    | some g =>
      rw [hg] at h
      refine elAEE ok fun hd pf pos eq51x1 => ?_
      try clear ok
      subst eq51x1
      exact iteE h fun hk h => bndE h fun vs σ₁ ha h => spcall_sound B hA F I (hT f g hg) hd hk (esL_length ha) (esL_sound S hA F I ha) h
  | bin op l r =>
    apply exE ok; intro pos; clear ok
    refine bndE h fun a σ₁ hl zz => ?_
    clear h
    refine bndE zz fun b σ₂ hr h => ?_
    clear zz
    refine binopP (wpP_mono (S.es hA F I hl) (fun va s₁ h₁ => ?_) fun _ _ x => x)
    refine elEAA h₁ fun as₁ g₁ I₁ hv => ?_
    try clear h₁
    refine wpP_mono (S.es hA (F.grow g₁) I₁ hr) (fun vb s₂ h₂ => ?_) fun _ _ x => x
    refine elEAA h₂ fun as₂ g₂ I₂ hv₂ => ?_
    try clear h₂
    exact wpAny_mono (binop_sound h I₂ (g₂.vr hv) hv₂) (fun v s₃ h₃ => EP.trans (g₁.trans g₂) h₃) fun _ _ x => x
  | _ => exact wpP_any (S.ev hA F I h)
theorem ret_st (S : Sd P prog w h₀ k R) (hA : AOk k A) (F : FrI h₀ env s.heap as ρ) (I : Inv h₀ s.heap as σ) {e : Expr} {pos : Pos} {p : PV} (h : R.es ⟨env.scope, t⟩ ρ σ e = some (p, σ')) :
    wpP P (model prog w) A (exec (.Return (some e) pos) env) (XP h₀ env s as (.ret p) ρ σ') (fun _ _ => False) s := by
  rw [exec_Return_some]
  refine wpP_leaf (wpAny_standAt (wpP_bind (wpP_mono (S.es hA F I h) (fun v s₁ h₁ => wpP_pure ?_) fun _ _ x => x)))
  refine elEAA h₁ fun as₁ g₁ I₁ hv => ?_
  try clear h₁
  exact ⟨as₁, g₁.wide0, I₁, F.grow g₁, hv⟩
theorem if_st (S : Sd P prog w h₀ k R) (X : Xs P prog w h₀ k R) (hA : AOk k A) (hO : TopOk t A env) (F : FrI h₀ env s.heap as ρ) (I : Inv h₀ s.heap as σ) {e : Expr} {b o : List Stmt} {pos : Pos} {c : Bool} {fl : Fl} {σ₁ : Sto} (h : R.tr ⟨env.scope, t⟩ ρ σ e = some (c, σ₁))
    (h' : exs R ⟨env.scope, t⟩ ρ σ₁ (if c then b else o) = some (fl, ρ', σ')) : wpP P (model prog w) A (exec (.If e b o pos) env) (XP h₀ env s as fl ρ' σ') (fun _ _ => False) s := by
  rw [exec_If]
  refine wpP_leaf (wpAny_standAt (wpP_leaf (wpAny_mono (S.tr hA F I h) (fun d s₁ h₁ => ?_) fun _ _ x => x)))
  refine elEAA h₁ fun as₁ g₁ I₁ eq75x2 => ?_
  try clear h₁
  subst eq75x2
  cases d with
  | true => exact wpP_mono (exs_sound X hA hO (F.grow g₁) I₁ h') (fun f s₂ h₂ => XP.trans (X := fun _ _ => True) g₁.wide0 h₂) fun _ _ x => x
  | false => exact wpP_mono (exs_sound X hA hO (F.grow g₁) I₁ h') (fun f s₂ h₂ => XP.trans (X := fun _ _ => True) g₁.wide0 h₂) fun _ _ x => x
theorem swaps_no {value : Expr} {tg : Option Expr} {n : Nat} (h : isComp value = false) : swapsWith value tg n env = pure false := by
  have k : ∀ value, if isComp value then True else swapsWith value tg n env = pure false := fun value => by
    cases value <;> first | exact True.intro | rfl
  have := k value
  rw [h] at this
  exact this
theorem assign_st (S : Sd P prog w h₀ k R) (hA : AOk k A) (F : FrI h₀ env s.heap as ρ) (I : Inv h₀ s.heap as σ) {x : Str} {px pos : Pos} {value : Expr} {p : PV} (hk : kindOk env.scope x = true) (hc : isComp value = false) (h : R.es ⟨env.scope, t⟩ ρ σ value = some (p, σ')) :
    wpP P (model prog w) A (exec (.Assign [.Name x px] value pos) env) (XP h₀ env s as .next (upd ρ x p) σ') (fun _ _ => False) s := by
  rw [exec_Assign_Name _ x px value pos (swaps_no hc)]
  refine wpP_leaf (wpAny_standAt (wpP_bind (wpP_mono (S.es hA F I h) (fun v s₁ h₁ => ?_) fun _ _ x => x)))
  refine elEAA h₁ fun as₁ g₁ I₁ hv => ?_
  try clear h₁
  refine wpP_leaf (wpAny_standAt (wpP_leaf (wpAny_bindName (wpAny_mono (store_sound (F.grow g₁) I₁ (kind_of hk) hv) (fun _ s₂ h₂ => wpP_pure ?_) fun _ _ x => x))))
  refine elAA h₂ fun g₂ I₂ F₂ => ?_
  try clear h₂
  exact ⟨as₁, g₁.wide0.trans g₂, I₂, F₂, trivial⟩
theorem append_st (S : Sd P prog w h₀ k R) (hA : AOk k A) (F : FrI h₀ env s.heap as ρ) (I : Inv h₀ s.heap as σ) {o : Expr} {name : Str} {apos p pos : Pos} {args : List Expr} (h : R.ev ⟨env.scope, t⟩ ρ σ (.Call (.Attribute o name apos) args [] p) = some (.none, σ')) :
    wpP P (model prog w) A (exec (.Expr (.Call (.Attribute o name apos) args [] p) pos) env) (XP h₀ env s as .next ρ σ') (fun _ _ => False) s := by
  have hi : interactive env = false := by
    unfold interactive
    rw [F.fn]
    first | rfl | simp
  refine wpP_any (wpAny_Expr (wpAny_mono (S.ev hA F I h) (fun v s₁ h₁ => ?_) fun _ _ x => x) hi (by rfl))
  refine elEAA h₁ fun as₁ g₁ I₁ eq103x3 => ?_
  try clear h₁
  subst eq103x3
  exact ⟨as₁, g₁.wide0, I₁, F.grow g₁, trivial⟩
theorem aug_st (S : Sd P prog w h₀ k R) (hA : AOk k A) (F : FrI h₀ env s.heap as ρ) (I : Inv h₀ s.heap as σ) {x : Str} {px pos : Pos} {value : Expr} {i j q : Int} {op : Operator} (hk : env.scope.names.lookup x = some .local) (hx : ρ.lookup x = some (.int i)) (h : R.ev ⟨env.scope, t⟩ ρ σ value = some (.int j, σ'))
    (hop : (op = .Add ∧ q = i + j) ∨ (op = .Sub ∧ q = i - j)) :
    wpP P (model prog w) A (exec (.AugAssign (.Name x px) op value pos) env) (XP h₀ env s as .next (upd ρ x (.int q)) σ') (fun _ _ => False) s := by
  refine elEA (F.ns) fun m hn hm => ?_
  obtain ⟨v, e, u, rfl⟩ := hm x _ hx hk
  refine wpP_any (wpAny_AugAssign_Name (wpAny_loadName_local F.fn hk hn e (wpAny_mono (S.ev hA F I h) (fun v s₁ h₁ => ?_) fun _ _ x => x)))
  refine elEAAE h₁ fun as₁ g₁ I₁ u' eq112x4 => ?_
  try clear h₁
  subst eq112x4
  have fin : ∀ tk n, wpAny (model prog w) A (storeName env x (.int q tk)) (fun _ => XP h₀ env s as .next (upd ρ x (.int q)) σ' .next) (fun _ _ => False) { s₁ with toks := n } := fun tk n => by
    have I₂ : Inv h₀ ({ s₁ with toks := n } : Shared).heap as₁ σ' := I₁
    have F₂ : FrI h₀ env ({ s₁ with toks := n } : Shared).heap as₁ ρ := (F.grow g₁ : FrI h₀ env s₁.heap as₁ ρ)
    refine wpAny_mono (store_sound F₂ I₂ (.inl hk) vr_int) (fun _ s₂ h₂ => ?_) fun _ _ x => x
    refine elAA h₂ fun g₂ I₃ F₃ => ?_
    try clear h₂
    exact ⟨as₁, (g₁.wide0.trans (Grow.toks n)).trans g₂, I₃, F₃, trivial⟩
  rcases hop with ⟨rfl, rfl⟩ | ⟨rfl, rfl⟩
  · exact PySem.P.iadd_int (fin _ _)
  · exact PySem.P.isub_int (fin _ _)
theorem setItem_ba {a : Addr} {o : Obj} {x : Array UInt8} {i c : Int} {tk u : Tok} {Q : Unit → Shared → Prop} {E : Value → Shared → Prop} (ho : s.heap.get? a = some o) (hc : o.cls = .type "bytearray") (hd : o.data = .bytearray x 0) (hz : x.size ≤ sizeLine)
    (h0 : 0 ≤ i) (h1 : i < x.size) (c0 : 0 ≤ c) (c1 : c < 256)
    (hQ : ∀ o' h', o'.cls = .type "bytearray" → o'.data = .bytearray (x.setIfInBounds i.toNat c.toNat.toUInt8) 0 → h'.get? a = some o' → Heap.SameBut a s.heap h' → Q () { s with heap := h' }) :
    wpAny (model prog w) A (setItem (.ref a) (.int i tk) (.int c u)) Q E s := by
  have hT : s.TypeIs (.ref a) "bytearray" := ⟨o, ho, hc⟩
  unfold setItem
  try with_reducible refine wpAny_holding ?_
  first | refine wpAny_bind (wpAny_pure ?_) | skip
  refine wpAny_bind (wpAny_sequenceKey hT (by decide) ?_)
  refine wpAny_bind (wpAny_callSpecial?_slot (name := Str.ofString "__setitem__") hT ba_slot_set (set_ba ho hc hd hz h0 h1 c0 c1 fun o' h' p1 p2 p3 p4 => ?_))
  first
    | exact wpAny_pure (hQ o' h' p1 p2 p3 p4)
    | exact wpAny_pure (wpAny_pure (hQ o' h' p1 p2 p3 p4))
    | exact wpAny_bind (wpAny_pure (hQ o' h' p1 p2 p3 p4))
theorem setBA_sound {n : Int} {o : PV} {p : PV} {vo v : Value} {tk : Tok} (h : setBA σ o n p = some σ') (I : Inv h₀ s.heap as σ) (ho : VR h₀ as vo o) (hv : VR h₀ as v p) :
    wpAny (model prog w) A (setItem vo (.int n tk) v) (fun _ s' => Grow [] s as s' as ∧ Inv h₀ s'.heap as σ') (fun _ _ => False) s := by
  cases o with
  | ref m =>
    refine bindE h fun c hc zz => ?_
    clear h
    refine bindE zz fun b hs h => ?_
    clear zz
    rw [asInt_ok hc] at hv
    cases b with
    | ba x =>
      refine iteE h fun hc zz => ?_
      clear h
      rename _ => h
      cases h
      refine elAAAA hc fun h0 h1 c0 c1 hz => ?_
      try clear hc
      refine elEA ho fun a eq149x5 ha => ?_
      try clear ho
      subst eq149x5
      apply exE hv; intro u; clear hv
      refine elEAA (I.obj m a _ ha hs) fun ob hob hcl hd => ?_
      have hm : a ∈ as := List.mem_of_getElem? ha
      refine setItem_ba hob hcl hd (Nat.le_trans hz (by decide)) h0 h1 c0 c1 fun o' h' p1 p2 p3 p4 => ?_
      refine ⟨⟨⟨[], (List.append_nil _).symm, fun _ q => nomatch q⟩, fun b ob' _ hb e => (p4.2 b (fun q => hb (q ▸ hm))).trans e, fun b ob' e => ?_, rfl, .refl _⟩, I.set ha (fun b hb => p4.2 b hb) ⟨o', p3, p1, ?_⟩⟩
      · by_cases q : b = a
        · subst q; exact ⟨o', p3⟩
        · exact ⟨ob', (p4.2 b q).trans e⟩
      · rw [p2, List.setIfInBounds_toArray]
    | _ => exact noE h
  | _ => exact noE h
theorem item_st (S : Sd P prog w h₀ k R) (hA : AOk k A) (F : FrI h₀ env s.heap as ρ) (I : Inv h₀ s.heap as σ) {o i value : Expr} {ps pos : Pos} {v ov : PV} {n : Int} {σ₁ σ₂ σ₃ : Sto} (hc : isComp value = false)
    (h1 : R.ev ⟨env.scope, t⟩ ρ σ value = some (v, σ₁)) (h2 : R.ev ⟨env.scope, t⟩ ρ σ₁ o = some (ov, σ₂)) (h3 : R.ev ⟨env.scope, t⟩ ρ σ₂ i = some (.int n, σ₃)) (h4 : setBA σ₃ ov n v = some σ') :
    wpP P (model prog w) A (exec (.Assign [.Subscript o i ps] value pos) env) (XP h₀ env s as .next ρ σ') (fun _ _ => False) s := by
  refine wpP_any (wpAny_Assign_Subscript (wpAny_mono (S.ev hA F I h1) (fun vv s₁ e₁ => ?_) fun _ _ x => x) (swaps_no hc))
  refine elEAA e₁ fun as₁ g₁ I₁ hv => ?_
  try clear e₁
  refine wpAny_mono (S.ev hA (F.grow g₁) I₁ h2) (fun vo s₂ e₂ => ?_) fun _ _ x => x
  refine elEAA e₂ fun as₂ g₂ I₂ hvo => ?_
  try clear e₂
  refine wpAny_mono (S.ev hA ((F.grow g₁).grow g₂) I₂ h3) (fun vi s₃ e₃ => ?_) fun _ _ x => x
  refine elEAAE e₃ fun as₃ g₃ I₃ u eq170x6 => ?_
  try clear e₃
  subst eq170x6
  refine wpAny_mono (setBA_sound h4 I₃ (g₃.vr hvo) (g₃.vr (g₂.vr hv))) (fun _ s₄ e₄ => ?_) fun _ _ x => x
  obtain ⟨g₄, I₄⟩ := e₄
  exact ⟨as₃, (((g₁.trans g₂).trans g₃).trans g₄).wide0, I₄, (((F.grow g₁).grow g₂).grow g₃).grow g₄, trivial⟩
end
end Mine.Internal
end
section
set_option maxRecDepth 100000
set_option backward.match.sparseCases false
namespace Mine.Internal
open PySem PyProof.Rows
noncomputable def clo (cells : List (Str × Addr)) : List (Str × NameKind) → List (Str × Addr) → List (Str × Addr)
  | [], acc => acc
  | (n, kd) :: r, acc => if kd = .free then (match cells.lookup n with | some c => clo cells r ((n, c) :: acc) | none => clo cells r acc) else clo cells r acc
theorem closure_loop {env : Env} {f : Str × NameKind → List (Str × Addr) → Sem (ForInStep (List (Str × Addr)))}
    (hf : ∀ n kd acc, f (n, kd) acc = (if (kd == NameKind.free) = true then (do let c ← cellOf env n; pure (ForInStep.yield ((n, c) :: acc))) else pure (ForInStep.yield acc))) :
    ∀ (names : List (Str × NameKind)) (acc : List (Str × Addr)), (∀ p ∈ names, p.2 = .free → ∃ c, env.cells.lookup p.1 = some c) → forIn names acc f = pure (clo env.cells names acc)
  | [], acc, _ => by simp [clo]
  | (n, kd) :: r, acc, h => by
    rw [List.forIn_cons, hf]
    have ih := closure_loop (env := env) hf r
    by_cases hk : kd = .free
    · subst hk
      obtain ⟨c, hc⟩ := h (n, .free) (List.mem_cons_self ..) rfl
      have hcell : cellOf env n = pure c := by unfold cellOf; rw [hc]
      have hc' : env.cells.lookup n = some c := hc
      simp only [beq_self_eq_true, if_true, hcell, pure_bind, clo, hc']
      exact ih _ fun p hp => h p (List.mem_cons_of_mem _ hp)
    · have hb : (kd == NameKind.free) = false := by simpa using hk
      simp only [hb, Bool.false_eq_true, if_false, pure_bind, clo, hk]
      exact ih _ fun p hp => h p (List.mem_cons_of_mem _ hp)
theorem closure_eq {env : Env} {scope : Scope} (h : ∀ p ∈ scope.names, p.2 = .free → ∃ c, env.cells.lookup p.1 = some c) : closureFor scope env = pure (clo env.cells scope.names []) := by
  simp only [closureFor]
  rw [closure_loop (env := env) (fun n kd acc => ?_) scope.names [] h]
  · rfl
  · rfl
theorem clo_mem {cells : List (Str × Addr)} : ∀ {names : List (Str × NameKind)} {acc : List (Str × Addr)} {x : Str} {c : Addr}, (x, c) ∈ clo cells names acc → (x, c) ∈ acc ∨ ((x, NameKind.free) ∈ names ∧ cells.lookup x = some c)
  | [], acc, x, c, h => .inl h
  | (n, kd) :: r, acc, x, c, h => by
    unfold clo at h
    split at h
    · rename_i hk
      subst hk
      split at h
      · rename_i d hd
        rcases clo_mem h with q | ⟨q1, q2⟩
        · rcases List.mem_cons.mp q with q | q
          · cases q; exact .inr ⟨List.mem_cons_self .., hd⟩
          · exact .inl q
        · exact .inr ⟨List.mem_cons_of_mem _ q1, q2⟩
      · rcases clo_mem h with q | ⟨q1, q2⟩
        · exact .inl q
        · exact .inr ⟨List.mem_cons_of_mem _ q1, q2⟩
    · rcases clo_mem h with q | ⟨q1, q2⟩
      · exact .inl q
      · exact .inr ⟨List.mem_cons_of_mem _ q1, q2⟩
theorem clo_has {cells : List (Str × Addr)} : ∀ {names : List (Str × NameKind)} {acc : List (Str × Addr)} {x : Str} {c : Addr}, ((x, c) ∈ acc ∨ ((x, NameKind.free) ∈ names ∧ cells.lookup x = some c)) → (x, c) ∈ clo cells names acc
  | [], acc, x, c, h => by
    rcases h with h | ⟨h, _⟩
    · exact h
    · cases h
  | (n, kd) :: r, acc, x, c, h => by
    unfold clo
    split
    · rename_i hk
      subst hk
      split
      · rename_i d hd
        rcases h with h | ⟨h1, h2⟩
        · exact clo_has (.inl (List.mem_cons_of_mem _ h))
        · rcases List.mem_cons.mp h1 with q | q
          · cases q
            rw [hd] at h2; cases h2
            exact clo_has (.inl (List.mem_cons_self ..))
          · exact clo_has (.inr ⟨q, h2⟩)
      · rename_i hd
        rcases h with h | ⟨h1, h2⟩
        · exact clo_has (.inl h)
        · rcases List.mem_cons.mp h1 with q | q
          · cases q
            rw [hd] at h2; cases h2
          · exact clo_has (.inr ⟨q, h2⟩)
    · rename_i hk
      rcases h with h | ⟨h1, h2⟩
      · exact clo_has (.inl h)
      · rcases List.mem_cons.mp h1 with q | q
        · cases q; exact absurd rfl hk
        · exact clo_has (.inr ⟨q, h2⟩)
theorem clo_names {cells : List (Str × Addr)} : ∀ {names : List (Str × NameKind)} {acc : List (Str × Addr)}, (names.map (·.1)).Nodup → (acc.map (·.1)).Nodup → (∀ x ∈ acc.map (·.1), x ∉ names.map (·.1)) → ((clo cells names acc).map (·.1)).Nodup
  | [], acc, _, h, _ => h
  | (n, kd) :: r, acc, hn, ha, hd => by
    rw [List.map_cons, List.nodup_cons] at hn
    have hd' : ∀ x ∈ acc.map (·.1), x ∉ r.map (·.1) := fun x hx q => hd x hx (by rw [List.map_cons]; exact List.mem_cons_of_mem _ q)
    have hnew : n ∉ acc.map (·.1) := fun q => hd n q (by rw [List.map_cons]; exact List.mem_cons_self ..)
    unfold clo
    split
    · split
      · rename_i d _
        refine clo_names hn.2 ?_ ?_
        · rw [List.map_cons, List.nodup_cons]; exact ⟨hnew, ha⟩
        · intro x hx
          rw [List.map_cons] at hx
          rcases List.mem_cons.mp hx with rfl | q
          · exact hn.1
          · exact hd' x q
      · exact clo_names hn.2 ha hd'
    · exact clo_names hn.2 ha hd'
theorem lookup_of_mem {l : List (Str × Addr)} (hn : (l.map (·.1)).Nodup) {x : Str} {c : Addr} (h : (x, c) ∈ l) : l.lookup x = some c := by
  induction l with
  | nil => cases h
  | cons p r ih =>
    obtain ⟨y, d⟩ := p
    rw [List.map_cons, List.nodup_cons] at hn
    rw [List.lookup_cons]
    rcases List.mem_cons.mp h with q | q
    · cases q; simp
    · have : x ≠ y := fun e => hn.1 (e ▸ List.mem_map.mpr ⟨_, q, rfl⟩)
      have hb : (x == y) = false := by simpa using this
      rw [hb]; exact ih hn.2 q
theorem pairwise_cells {cells l : List (Str × Addr)} (hp : cells.Pairwise fun x y => x.2 ≠ y.2) (hn : (l.map (·.1)).Nodup) (h : ∀ x c, (x, c) ∈ l → cells.lookup x = some c) : l.Pairwise fun x y => x.2 ≠ y.2 := by
  induction l with
  | nil => exact .nil
  | cons p r ih =>
    obtain ⟨y, d⟩ := p
    rw [List.map_cons, List.nodup_cons] at hn
    refine .cons (fun q hq => ?_) (ih hn.2 fun x c hc => h x c (List.mem_cons_of_mem _ hc))
    obtain ⟨z, e⟩ := q
    refine cells_apart hp (h y d (List.mem_cons_self ..)) (h z e (List.mem_cons_of_mem _ hq)) fun q => ?_
    exact hn.1 (q ▸ List.mem_map.mpr ⟨_, hq, rfl⟩)
structure ScOk (scope : Scope) (env : Env) : Prop where
  kind : scope.kind = .function
  nodup : (scope.names.map (·.1)).Nodup
  noCell : ∀ p ∈ scope.names, p.2 ≠ .cell
  loc : ∀ p ∈ scope.names, p.2 = .local → scope.names.lookup p.1 = some .local
  free : ∀ p ∈ scope.names, p.2 = .free → env.scope.names.lookup p.1 = some .cell ∧ p.1 ≠ "__classdict__"
theorem scOk_of {scope : Scope} {env : Env} (h : scopeOk scope env.scope = true) : ScOk scope env := by
  unfold scopeOk at h
  simp only [Bool.and_eq_true, decide_eq_true_eq, List.all_eq_true] at h
  obtain ⟨⟨⟨⟨⟨h1, _⟩, h2⟩, h3⟩, h4⟩, h5⟩ := h
  refine ⟨h1, h2, h3, fun p hp hl => ?_, fun p hp hl => ?_⟩
  · have := h4 p hp
    rw [if_pos hl] at this
    simpa using this
  · have := h5 p hp
    rw [if_pos hl] at this
    simpa using this
theorem lookup_free {names : List (Str × NameKind)} {x : Str} {kd : NameKind} (h : names.lookup x = some kd) : (x, kd) ∈ names := by
  induction names with
  | nil => cases h
  | cons p r ih =>
    obtain ⟨y, d⟩ := p
    rw [List.lookup_cons] at h
    by_cases q : x = y
    · subst q
      simp only [beq_self_eq_true] at h
      cases h; exact List.mem_cons_self ..
    · have : (x == y) = false := by simpa using q
      rw [this] at h
      exact List.mem_cons_of_mem _ (ih h)
theorem relab_lookup {env : Env} (hf : env.scope.kind = .function) : ∀ {names : List (Str × NameKind)}, (∀ p ∈ names, p.2 = .free → env.scope.names.lookup p.1 = some .cell) → ∀ x : Str,
    (names.map fun (n, kd) => if (kd == NameKind.free && env.scope.kind == .function && env.kindOf n == some .cell) then (n, NameKind.cell) else (n, kd)).lookup x = (names.lookup x).map fun kd => if kd = .free then .cell else kd
  | [], _, x => rfl
  | (n, kd) :: r, h, x => by
    have ih := relab_lookup hf (names := r) (fun p hp => h p (List.mem_cons_of_mem _ hp)) x
    refine (?_ : List.lookup x ((if (kd == NameKind.free && env.scope.kind == .function && env.kindOf n == some .cell) = true then (n, NameKind.cell) else (n, kd)) :: _) = _)
    by_cases hk : kd = .free
    · subst hk
      have hc : env.kindOf n = some .cell := h (n, .free) (List.mem_cons_self ..) rfl
      rw [if_pos (by rw [hf, hc]; rfl), List.lookup_cons, List.lookup_cons]
      cases x == n with
      | true => rfl
      | false => exact ih
    · have hb : (kd == NameKind.free) = false := by simpa using hk
      rw [if_neg (by rw [hb]; simp), List.lookup_cons, List.lookup_cons]
      cases x == n with
      | true => simp [hk]
      | false => exact ih
theorem freeOf_lookup {scope : Scope} {ρ : Rho} {x : Str} {p : PV} (h : (freeOf scope ρ).lookup x = some p) : scope.names.lookup x = some .free ∧ ρ.lookup x = some p := by
  unfold freeOf at h
  induction ρ with
  | nil => cases h
  | cons q r ih =>
    obtain ⟨y, v⟩ := q
    rw [List.filter_cons] at h
    by_cases hc : (scope.names.lookup y == some .free) = true
    · rw [if_pos hc, List.lookup_cons] at h
      rw [List.lookup_cons]
      by_cases e : x = y
      · subst e
        simp only [beq_self_eq_true] at h ⊢
        exact ⟨by simpa using hc, h⟩
      · have : (x == y) = false := by simpa using e
        rw [this] at h ⊢
        exact ih h
    · rw [if_neg hc] at h
      have := ih h
      rw [List.lookup_cons]
      by_cases e : x = y
      · subst e
        exact absurd (by simpa using this.1) hc
      · have hb : (x == y) = false := by simpa using e
        rw [hb]; exact this
section
variable {P : Ctx → Prop} {prog : Program} {w : World} {h₀ : Heap} {mg mb : Str → Option Value} {k : Nat} {R : Rec} {T : Tab}
variable {A : Around} {env : Env} {s : Shared} {as : List Addr} {σ σ' : Sto} {ρ ρ' : Rho} {t : Bool}
theorem FrI.weak (F : FrI h₀ env s.heap as ρ') (h : ∀ x p, ρ.lookup x = some p → ρ'.lookup x = some p) : FrI h₀ env s.heap as ρ :=
  ⟨F.fn, F.glb, F.blt, let ⟨m, hn, hm⟩ := F.ns; ⟨m, hn, fun x p hx => hm x p (h x p hx)⟩, fun x p hx => F.cell x p (h x p hx), F.nocd, fun x p hx => F.kinds x p (h x p hx), F.own, F.cells, F.apart, F.dict, F.offs⟩
theorem comp_frame {scope : Scope} {C : Addr} {h' : Heap} (F : FrI h₀ env s.heap as ρ) (O : ScOk scope env) (hk : ∀ b o, s.heap.get? b = some o → h'.get? b = some o) (hC : s.heap.get? C = none) (hC0 : C ∉ as ∧ h₀.get? C = none) (hn : h'.Ns C fun _ => none) :
    FrI h₀ (compEnvC scope (clo env.cells scope.names []) C env) h' as (freeOf scope ρ) := by
  have lk : ∀ x, (compEnvC scope (clo env.cells scope.names []) C env).kindOf x = (scope.names.lookup x).map fun kd => if kd = .free then .cell else kd :=
    fun x => relab_lookup F.fn (fun p hp hf => (O.free p hp hf).1) x
  have cm : ∀ x c, (x, c) ∈ clo env.cells scope.names [] → (x, NameKind.free) ∈ scope.names ∧ env.cells.lookup x = some c := fun x c h => by
    rcases clo_mem h with q | q
    · cases q
    · exact q
  have nd : ((clo env.cells scope.names []).map (·.1)).Nodup := clo_names O.nodup (by simp) (by simp)
  have has : ∀ x, (x, NameKind.free) ∈ scope.names → ∃ c, env.cells.lookup x = some c ∧ (clo env.cells scope.names []).lookup x = some c := fun x hx => by
    obtain ⟨c, hc⟩ := F.own x (O.free _ hx rfl).1
    exact ⟨c, hc, lookup_of_mem nd (clo_has (.inr ⟨hx, hc⟩))⟩
  refine ⟨O.kind, F.glb, F.blt, ⟨_, hn, fun x p hx hl => ?_⟩, fun x p hx _ => ?_, fun x hx => ?_, fun x p hx => ?_, fun x hx => ?_, fun x c hc => ?_, pairwise_cells F.apart nd fun x c h => (cm x c h).2, fun c hc => ?_, fun b hb => ?_⟩
  · have := (freeOf_lookup hx).1
    rw [lk, this] at hl
    cases hl
  · obtain ⟨h1, h2⟩ := freeOf_lookup hx
    refine elEA (has x (lookup_free h1)) fun c hc hc' => ?_
    refine elEEAA (F.cell x p h2 (.inl (O.free _ (lookup_free h1) rfl).1)) fun d v hd pt239x1 hv => ?_
    obtain ⟨o, ho, hdat⟩ := pt239x1
    rw [hc] at hd; cases hd
    exact ⟨c, v, hc', ⟨o, hk c o ho, hdat⟩, hv⟩
  · rw [lk] at hx
    cases hq : scope.names.lookup x with
    | none => rw [hq] at hx; cases hx
    | some kd =>
      rw [hq] at hx
      simp only [Option.map_some, Option.some.injEq] at hx
      split at hx
      · cases hx
      · rename_i hne; exact absurd hx hne
  · have := (freeOf_lookup hx).1
    rw [lk, this]
    exact .inr (.inl rfl)
  · rw [lk] at hx
    cases hq : scope.names.lookup x with
    | none => rw [hq] at hx; cases hx
    | some kd =>
      rw [hq] at hx
      simp only [Option.map_some, Option.some.injEq] at hx
      split at hx
      · rename_i hf
        subst hf
        refine elEA (has x (lookup_free hq)) fun c _ hc => ?_
        exact ⟨c, hc⟩
      · subst hx
        exact absurd rfl (O.noCell _ (lookup_free hq))
  · refine elEEA (F.cells x c (mem_of_lookup (cm x c hc).2)) fun v o ho hd => ?_
    exact ⟨v, o, hk c o ho, hd⟩
  · refine elEA (List.mem_map.mp hc) fun pt269x2 hm eq269x3 => ?_
    obtain ⟨x, d⟩ := pt269x2
    subst eq269x3
    refine elEEA (F.cells x d (mem_of_lookup (cm x d hm).2)) fun v o ho hd => ?_
    intro q
    have : d = C := q
    rw [this, hC] at ho; cases ho
  · rcases List.mem_cons.mp hb with rfl | hb
    · exact hC0
    · refine elEA (List.mem_map.mp hb) fun pt276x4 hm eq276x5 => ?_
      obtain ⟨x, d⟩ := pt276x4
      subst eq276x5
      exact F.offs d (List.mem_cons_of_mem _ (List.mem_map.mpr ⟨_, mem_of_lookup (cm x d hm).2, rfl⟩))
end
end Mine.Internal
end
section
set_option maxRecDepth 100000
set_option backward.match.sparseCases false
namespace Mine.Internal
open PySem PyProof.Rows
section
variable {P : Ctx → Prop} {prog : Program} {w : World} {h₀ : Heap} {mg mb : Str → Option Value} {k : Nat} {R : Rec} {T : Tab}
variable {A : Around} {env : Env} {s : Shared} {as : List Addr} {σ σ' : Sto} {ρ ρ' : Rho} {t : Bool}
theorem tests_off {M : Model} {E : Value → Shared → Prop} {Q : Bool → Shared → Prop} : ∀ (l : List Expr), Q false s →
    wpAny M A (forIn l false fun c r => if r = true then do let ok ← isTrue c env (eval c env); pure (ForInStep.yield ok) else pure (ForInStep.yield r)) Q E s
  | [], h => by rw [List.forIn_nil]; exact wpAny_pure h
  | c :: l, h => by
    rw [List.forIn_cons]
    exact wpAny_bind (wpAny_pure (tests_off l h))
theorem tests_sound (S : Sd P prog w h₀ k R) (hA : AOk k A) : ∀ {ifs : List Expr} {s : Shared} {as : List Addr} {σ : Sto} {b : Bool}, FrI h₀ env s.heap as ρ → Inv h₀ s.heap as σ → trBool R ⟨env.scope, t⟩ ρ .And σ ifs = some (b, σ') →
    wpAny (model prog w) A (forIn ifs true fun c r => if r = true then do let ok ← isTrue c env (eval c env); pure (ForInStep.yield ok) else pure (ForInStep.yield r)) (TP h₀ s as b σ') (fun _ _ => False) s
  | [], s, as, σ, b, F, I, h => by
    apply spE h; clear h
    rw [List.forIn_nil]
    exact wpAny_pure ⟨as, .refl _ _ _, I, rfl⟩
  | c :: r, s, as, σ, b, F, I, h => by
    rw [List.forIn_cons]
    refine bndE h fun b₁ σ₁ he zz => ?_
    clear h
    rename _ => h
    refine wpAny_bind (wpAny_bind (wpAny_mono (S.tr hA F I he) (fun d s₁ h₁ => wpAny_pure ?_) fun _ _ x => x))
    refine elEAA h₁ fun as₁ g₁ I₁ eq28x1 => ?_
    try clear h₁
    subst eq28x1
    cases d with
    | false =>
      apply spE h; clear h
      exact tests_off r ⟨as₁, g₁, I₁, rfl⟩
    | true => exact wpAny_mono (tests_sound S hA (F.grow g₁) I₁ h) (fun v s₂ h₂ => TP.trans g₁ h₂) fun _ _ x => x
structure Cry (h₀ : Heap) (I D : Addr) (sr : Src) (i : Nat) (done : List PV) (s : Shared) (as : List Addr) : Prop where
  it : ItAt I sr i s.heap as
  hI : I ∉ as
  hD : D ∉ as
  L : ∃ its : List Value, s.heap.PlainList D its.toArray ∧ Paired (VR h₀ as) its done
theorem notin_grow {s₇ s₈ : Shared} {as₅ as₈ : List Addr} {X : List Addr} {J : Addr} {o : Obj} (g₈ : Grow X s₇ as₅ s₈ as₈) (h : J ∉ as₅) (ho : s₇.heap.get? J = some o) : J ∉ as₈ := fun hm => by
  refine elEA (g₈.pre) fun u hu hfr => ?_
  rw [hu] at hm
  rcases List.mem_append.mp hm with z | z
  · exact h z
  · rw [hfr J z] at ho; cases ho
theorem Cry.grow {h₀ : Heap} {I D : Addr} {sr : Src} {i : Nat} {done : List PV} {s₇ s₈ : Shared} {as₅ as₈ : List Addr} (C : Cry h₀ I D sr i done s₇ as₅) (g₈ : Grow [] s₇ as₅ s₈ as₈) : Cry h₀ I D sr i done s₈ as₈ := by
  refine elEA (C.L) fun its pt48x2 hp => ?_
  obtain ⟨q, hq⟩ := pt48x2
  obtain ⟨oI, hoI⟩ := C.it.live
  refine elEA (g₈.pre) fun u hu _ => ?_
  exact ⟨C.it.keep (fun o e => g₈.keep I o (fun z => nomatch z) C.hI e) ⟨u, hu⟩, notin_grow g₈ C.hI hoI, notin_grow g₈ C.hD hq, its, ⟨q, g₈.keep D _ (fun z => nomatch z) C.hD hq⟩, g₈.vrs hp⟩
noncomputable def CmP (h₀ : Heap) (s : Shared) (as : List Addr) (cenv : Env) (ρ : Rho) (D : Addr) (ys : List PV) (σ' : Sto) (s' : Shared) : Prop :=
  ∃ as', Grow [] s as s' as' ∧ Inv h₀ s'.heap as' σ' ∧ FrI h₀ cenv s'.heap as' ρ ∧ D ∉ as' ∧ ∃ its : List Value, s'.heap.PlainList D its.toArray ∧ Paired (VR h₀ as') its ys
theorem comp_loop (S : Sd P prog w h₀ k R) (hA : AOk k A) {RR : Result → Shared → Prop} {x : Str} {px pos : Pos} {elt iter : Expr} {ifs : List Expr} {scope : Scope} {cenv : Env} {I D : Addr} {sr : Src} {s₄ : Shared} {as₄ : List Addr} {σ₁ : Sto} {ys : List PV} {ps : List PV} {n : Nat}
    (hx : cenv.kindOf x = some .local) (hnx : ρ.lookup x = none) (g : Grow [] s as s₄ as₄) (V : Inv h₀ s₄.heap as₄ σ₁) (F : FrI h₀ cenv s₄.heap as₄ ρ) (it : ItAt I sr 0 s₄.heap as₄)
    (hI : I ∉ as₄) (hD : D ∉ as₄) (hL : ∃ its : List Value, s₄.heap.PlainList D its.toArray ∧ Paired (VR h₀ as₄) its ps) (hID : I ≠ D) (hIs : s.heap.get? I = none) (hDs : s.heap.get? D = none) (hCs : s.heap.get? cenv.locals = none)
    (hI0 : h₀.get? I = none) (hD0 : h₀.get? D = none) (hIf : I ∉ faddrs cenv) (hDf : D ∉ faddrs cenv) (hps : ps.length = 0) (hn : n ≤ 1000)
    (h : compS R ⟨cenv.scope, t⟩ x ifs elt ρ sr n 0 σ₁ = some (ys, σ')) (hR : ∀ s', CmP h₀ s as cenv ρ D ys σ' s' → RR (.ok .next) s') :
    codeAny (model prog w) A (.compLoop (.ListComp elt [⟨.Name x px, iter, ifs, 0⟩] scope pos) 0 (.ref I) (.ref D) cenv) RR s₄ := by
  have noErr : ∀ (e : Value) (s' : Shared), False → notedBy (model prog w) A cenv (fun e s' => RR (.error e) s') e s' := fun _ _ q => q.elim
  refine opq2 (fun (m : Nat) (s₅ : Shared) => ∃ i as₅ σ₅ done rest, Grow [] s as s₅ as₅ ∧ Inv h₀ s₅.heap as₅ σ₅ ∧ FrI h₀ cenv s₅.heap as₅ ρ ∧ ItAt I sr i s₅.heap as₅ ∧ I ∉ as₅ ∧ D ∉ as₅ ∧
      (∃ its : List Value, s₅.heap.PlainList D its.toArray ∧ Paired (VR h₀ as₅) its done) ∧ compS R ⟨cenv.scope, t⟩ x ifs elt ρ sr m i σ₅ = some (rest, σ') ∧ done ++ rest = ys ∧ done.length + m ≤ 1000) fun IV un mk => ?_
  refine codeAny_compLoop_tests IV ?_ n (mk _ _ ⟨0, as₄, σ₁, ps, ys, g, V, F, it, hI, hD, hL, h, by rw [List.length_eq_zero_iff.mp hps]; rfl, by omega⟩)
  clear it hI hD hL hps hn h
  intro m s₅ hI
  refine el5_9 (un _ _ hI) fun i as₅ σ₅ done rest g₅ V₅ F₅ it₅ hI₅ hD₅ hL₅ h₅ hds hlen => ?_
  clear hI un
  cases m with
  | zero => cases h₅
  | succ m =>
    refine bindE h₅ fun o hn zz => ?_
    clear h₅
    rename _ => h₅
    cases o with
    | none =>
      refine sp_inj h₅ fun er es => ?_
      clear h₅
      refine wpAny_mono (next_sound hA.1 it₅ hI₅ V₅ hn) (fun r s₆ h₆ => ?_) noErr
      obtain ⟨sk, rfl⟩ := h₆
      refine hR s₆ ⟨as₅, g₅.skip hIs sk, es ▸ V₅.skip hI0 hI₅ sk, F₅.skip hIf sk, hD₅, ?_⟩
      refine elEA hL₅ fun its pt77x3 hp => ?_
      try clear hL₅
      obtain ⟨q, hq⟩ := pt77x3
      rw [← er, List.append_nil] at hds
      exact ⟨its, ⟨q, sk.keep D _ (Ne.symm hID) hq⟩, hds ▸ hp⟩
    | some p =>
      refine wpAny_mono (next_sound hA.1 it₅ hI₅ V₅ hn) (fun r s₆ h₆ => ?_) noErr
      refine elAEAA h₆ fun sk v eq82x4 hv it₆ => ?_
      try clear h₆
      subst eq82x4
      have g₆ := g₅.skip hIs sk
      have V₆ := V₅.skip hI0 hI₅ sk
      have F₆ := F₅.skip hIf sk
      refine wpAny_mono (wpAny_assign_Name (store_both F₆ V₆ (.inl hx) hv)) (fun _ s₇ h₇ => ?_) noErr
      obtain ⟨⟨_, V₇, F₇⟩, sk₇⟩ := h₇
      have sk₇ := sk₇ hx
      have g₇ := g₆.skip hCs sk₇
      have hCI : I ≠ cenv.locals := fun q => hIf (q ▸ List.mem_cons_self ..)
      have hCD : D ≠ cenv.locals := fun q => hDf (q ▸ List.mem_cons_self ..)
      have C₇ : Cry h₀ I D sr (i + 1) done s₇ as₅ := by
        refine elEA hL₅ fun its pt93x5 hp => ?_
        try clear hL₅
        obtain ⟨q, hq⟩ := pt93x5
        exact ⟨it₆.keep (fun o e => sk₇.keep I o hCI e) ⟨[], (List.append_nil _).symm⟩, hI₅, hD₅, its, ⟨q, sk₇.keep D _ hCD (sk.keep D _ (Ne.symm hID) hq)⟩, hp⟩
      have weak : ∀ y q, ρ.lookup y = some q → (upd ρ x p).lookup y = some q := fun y q hy => by
        rw [lookup_upd, if_neg]
        · exact hy
        · rintro rfl; rw [hnx] at hy; cases hy
      refine bndE h₅ fun b σ₈ ht zz => ?_
      clear h₅
      rename _ => h₅
      refine wpAny_mono (tests_sound S hA F₇ V₇ ht) (fun ok s₈ h₈ => ?_) noErr
      refine elEAA h₈ fun as₈ g₈ V₈ eq101x6 => ?_
      try clear h₈
      subst eq101x6
      cases ok with
      | false =>
        obtain ⟨it₈, hI₈, hD₈, hL₈⟩ := C₇.grow g₈
        exact ⟨m, Nat.lt_succ_self m, mk _ _ ⟨i + 1, as₈, σ₈, done, rest, g₇.trans g₈, V₈, (F₇.grow g₈).weak weak, it₈, hI₈, hD₈, hL₈, h₅, hds, Nat.le_of_succ_le hlen⟩⟩
      | true =>
        refine bndE h₅ fun y σ₉ he zz => ?_
        clear h₅
        refine bndE zz fun ys' σ' hrest h₅ => ?_
        clear zz
        refine sp_inj h₅ fun er es => ?_
        clear h₅
        refine wpAny_mono (S.ev hA (F₇.grow g₈) V₈ he) (fun vy s₉ h₉ => ?_) noErr
        refine elEAA h₉ fun as₉ g₉ V₉ hvy => ?_
        try clear h₉
        obtain ⟨it₉, hI₉, hD₉, its, hpl, hpr⟩ := C₇.grow (g₈.trans g₉)
        have F₉ := ((F₇.grow g₈).grow g₉).weak weak
        have hil := paired_length hpr
        refine wpAny_list_append_plain hpl (fun h' hp' hs' => ?_) (by rw [List.size_toArray]; unfold sizeLine; omega)
        have skD : Skip D s₉ { s₉ with heap := h' } := ⟨fun b o hb e => hs'.extBut b o hb e, rfl, .refl _⟩
        refine ⟨m, Nat.lt_succ_self m, mk _ _ ⟨i + 1, as₉, σ₉, done ++ [y], ys', (g₇.trans (g₈.trans g₉)).skip hDs skD, V₉.skip hD0 hD₉ skD, F₉.skip hDf skD, it₉.keep (fun o e => skD.keep I o hID e) ⟨[], (List.append_nil _).symm⟩, hI₉, hD₉, ?_, es ▸ hrest, (List.append_assoc ..).trans ((congrArg (done ++ ·) er).trans hds), by rw [List.length_append]; exact Nat.le_trans (Nat.le_of_eq (Nat.add_right_comm ..)) hlen⟩⟩
        refine ⟨its ++ [vy], ?_, paired_append hpr (.cons hvy .nil)⟩
        rw [← List.push_toArray]; exact hp'
end
end Mine.Internal
end
section
set_option maxRecDepth 100000
set_option backward.match.sparseCases false
namespace Mine.Internal
open PySem PyProof.Rows
section
variable {P : Ctx → Prop} {prog : Program} {w : World} {h₀ : Heap} {mg mb : Str → Option Value} {k : Nat} {R : Rec} {T : Tab}
variable {A : Around} {env : Env} {s : Shared} {as : List Addr} {σ σ' : Sto} {ρ ρ' : Rho} {t : Bool}
theorem self_iter {I : Addr} {S : Src} {i : Nat} {Q : Value → Shared → Prop} {E : Value → Shared → Prop} (hh : A.handled = none) (x : ItAt I S i s.heap as) (h : Q (.ref I) s) : wpAny (model prog w) A (pyIter (.ref I)) Q E s := by
  cases S with
  | rng a c n => exact wpAny_pyIter_rangeiter x.2 h
  | lst m => obtain ⟨l, hl, hit⟩ := x; exact wpAny_pyIter_listiter hit h
  | tup m =>
    refine elEA x fun l hl hit => ?_
    try clear x
    exact wpAny_pyIter_tupleiter hit h
  | _ => exact x.elim
theorem CmP.done {cenv : Env} {ρc : Rho} {D : Addr} {ys : List PV} {s' s'' : Shared} (h : CmP h₀ s as cenv ρc D ys σ' s') (hDs : s.heap.get? D = none) (hD0 : h₀.get? D = none) (hCs : s.heap.get? cenv.locals = none) (hCD : D ≠ cenv.locals) (sk : Skip cenv.locals s' s'') :
    ∃ as'', Grow [] s as s'' as'' ∧ Inv h₀ s''.heap as'' (σ' ++ [.list ys]) ∧ VR h₀ as'' (.ref D) (.ref σ'.length) ∧ cenv.locals ∉ as'' := by
  obtain ⟨as', g, V, F, hD, its, ⟨q, hq⟩, hp⟩ := h
  have hC := F.offs cenv.locals (List.mem_cons_self ..)
  have g' := g.skip hCs sk
  have V' := V.skip hC.2 hC.1 sk
  refine ⟨as' ++ [D], ⟨?_, g'.keep, g'.live, g'.os, g'.gens⟩, V'.add hD hD0 ⟨its, ⟨q, sk.keep D _ hCD hq⟩, hp⟩, ⟨D, rfl, ?_⟩, ?_⟩
  · refine elEA (g.pre) fun u hu hf => ?_
    refine ⟨u ++ [D], by rw [hu, List.append_assoc], fun a ha => ?_⟩
    rcases List.mem_append.mp ha with z | z
    · exact hf a z
    · rw [List.mem_singleton.mp z]; exact hDs
  · rw [← V.len]; simp
  · intro hm
    rcases List.mem_append.mp hm with z | z
    · exact hC.1 z
    · exact hCD (List.mem_singleton.mp z).symm
theorem comp_run (B : Bs h₀ mg mb) (S : Sd P prog w h₀ k R) (hA : AOk k A) (F : FrI h₀ env s.heap as ρ) (V : Inv h₀ s.heap as σ) {x : Str} {px pos p1 : Pos} {elt iter : Expr} {ifs : List Expr} {scope : Scope} {sr : Src} {σ₁ : Sto} {ys : List PV} {use : Option (Value → Sem Unit)} {Q : Value → Shared → Prop}
    (O : ScOk scope env) (hs : src T R ⟨env.scope, t⟩ ρ σ iter = some (sr, σ₁)) (hg : (∀ ps, sr ≠ .gens ps) ∧ ∀ m n, sr ≠ .zips m n) (hx : scope.names.lookup x = some .local)
    (h : compS R ⟨relab scope env.scope, false⟩ x ifs elt (freeOf scope ρ) sr 1000 0 σ₁ = some (ys, σ'))
    (hQ : ∀ D cenv s', (D : Addr) ≠ cenv.locals → s.heap.get? D = none → h₀.get? D = none → s.heap.get? cenv.locals = none → CmP h₀ s as cenv (freeOf scope ρ) D ys σ' s' → compPost (model prog w) A (fun _ _ => False) use Q (.ref D) cenv.locals (.ok .next) s') :
    wpAny (model prog w) A (comprehension (.ListComp elt [⟨.Name x px, iter, ifs, 0⟩] scope pos) scope env p1 (newList []) false (eval iter env) use) Q (fun _ _ => False) s := by
  have hclos : closureFor scope env = pure (clo env.cells scope.names []) := closure_eq fun p hp hf => F.own p.1 (O.free p hp hf).1
  refine wpAny_comprehension_free (g := ⟨.Name x px, iter, ifs, 0⟩) (gs := []) rfl (fold_plain hs) hclos O.kind O.loc (wpAny_mono (src_sound B S hA F V hs hg) (fun xv s₁ h₁ => wpAny_mono h₁ (fun it s₂ h₂ => ?_) fun _ _ x => x) fun _ _ x => x)
  refine elEEAAAAAA h₂ fun I as₂ eq46x1 g₂ V₂ it₂ hI₂ hIs hI0 => ?_
  try clear h₂
  subst eq46x1
  have F₂ := F.grow g₂
  refine wpAny_newList ?_ (by simp)
  have hDn : s₂.heap.get? s₂.heap.objs.size = none := Heap.get?_none_of_le (Nat.le_refl _)
  have hDfr := V₂.fresh hDn
  have back : ∀ b, s₂.heap.get? b = none → s.heap.get? b = none := fun b hb => by
    cases e : s.heap.get? b with
    | none => rfl
    | some o =>
      obtain ⟨o', e'⟩ := g₂.live b o e
      rw [hb] at e'; cases e'
  generalize hH3 : s₂.heap.push { cls := .type "list", data := .seq ([] : List Value).toArray } = H3
  have hsz : H3.objs.size = s₂.heap.objs.size + 1 := by rw [← hH3, Heap.size_push]
  have hCn : s₂.heap.get? H3.objs.size = none := Heap.get?_none_of_le (by omega)
  have hCfr := V₂.fresh hCn
  refine wpAny_newFunctionEnv (fun y hy => O.noCell y hy) (by intro y hy; cases hy) (fun h₄ hns hsb => ?_) O.kind
  dsimp only at hns hsb ⊢
  have old : ∀ b o, s₂.heap.get? b = some o → h₄.get? b = some o := fun b o e => by
    have hb : b ≠ H3.objs.size := fun q => by rw [q, hCn] at e; cases e
    exact hsb.extBut b o hb (Heap.get?_push_of_some _ (by rw [← hH3]; exact Heap.get?_push_of_some _ e))
  have hDC : s₂.heap.objs.size ≠ H3.objs.size := by omega
  have hacc : h₄.PlainList s₂.heap.objs.size ([] : List Value).toArray :=
    ⟨_, hsb.extBut _ _ hDC (Heap.get?_push_of_some _ (by rw [← hH3]; exact Heap.get?_push_size _ rfl))⟩
  have hIlive := it₂.live
  have hID : I ≠ s₂.heap.objs.size := fun q => by obtain ⟨o, ho⟩ := hIlive; rw [q, hDn] at ho; cases ho
  have hIC : I ≠ H3.objs.size := fun q => by obtain ⟨o, ho⟩ := hIlive; rw [q, hCn] at ho; cases ho
  have F₄ : FrI h₀ (compEnvC scope (clo env.cells scope.names []) H3.objs.size env) h₄ as₂ (freeOf scope ρ) := comp_frame F₂ O old hCn hCfr (by simpa using hns)
  have offF : ∀ b, s₂.heap.get? b = none → b ≠ H3.objs.size → b ∉ faddrs (compEnvC scope (clo env.cells scope.names []) H3.objs.size env) := fun b hb hbC hm => by
    rcases List.mem_cons.mp hm with q | q
    · exact hbC q
    · refine elEA (List.mem_map.mp q) fun pt76x2 hm' eq76x3 => ?_
      obtain ⟨y, c⟩ := pt76x2
      subst eq76x3
      rcases clo_mem hm' with z | ⟨_, z⟩
      · cases z
      · refine elEEA (F₂.cells y c (mem_of_lookup z)) fun v o ho _ => ?_
        have : s₂.heap.get? c = none := hb
        rw [this] at ho; cases ho
  have hIoff : I ∉ faddrs (compEnvC scope (clo env.cells scope.names []) H3.objs.size env) := fun hm => by
    rcases List.mem_cons.mp hm with q | q
    · exact hIC q
    · refine elEA (List.mem_map.mp q) fun pt85x4 hm' hc' => ?_
      obtain ⟨y, c⟩ := pt85x4
      rcases clo_mem hm' with z | ⟨_, z⟩
      · cases z
      · refine elEEA (F.cells y c (mem_of_lookup z)) fun v o ho _ => ?_
        have : c = I := hc'
        rw [this, hIs] at ho; cases ho
  have go : ∀ s₄ : Shared, s₄ = { s₂ with heap := h₄, toks := s₂.toks + ([] : List (Str × Value)).length } →
      codeAny (model prog w) A (.compLoop (.ListComp elt [⟨.Name x px, iter, ifs, 0⟩] scope pos) 0 (.ref I) (.ref s₂.heap.objs.size) (compEnvC scope (clo env.cells scope.names []) H3.objs.size env))
        (compPost (model prog w) A (fun _ _ => False) use Q (.ref s₂.heap.objs.size) H3.objs.size) s₄ := by
    rintro s₄ rfl
    refine comp_loop S hA (t := false) (n := 1000) (ps := []) (ρ := freeOf scope ρ) (lookup_relabel_local hx) ?_ (g₂.trans (.keeps old rfl (.refl _))) (V₂.keeps old) F₄ (it₂.keep (fun o e => old I o e) ⟨[], by simp⟩) hI₂ hDfr.1 ⟨[], hacc, .nil⟩ hID hIs (back _ hDn) (back _ hCn)
      hI0 hDfr.2 hIoff (offF _ hDn hDC) rfl (Nat.le_refl _) h fun s' hs' => ?_
    · cases e : (freeOf scope ρ).lookup x with
      | none => rfl
      | some q =>
        have := (freeOf_lookup e).1
        rw [hx] at this; cases this
    · exact hQ s₂.heap.objs.size (compEnvC scope (clo env.cells scope.names []) H3.objs.size env) s' hDC (back _ hDn) hDfr.2 (back _ hCn) hs'
  have it₄ : ItAt I sr 0 h₄ as₂ := it₂.keep (fun o e => old I o e) ⟨[], by simp⟩
  exact codeAny_compStart_list (go _ rfl) (self_iter hA.1 (s := { s₂ with heap := h₄, toks := s₂.toks + ([] : List (Str × Value)).length }) it₄ (go _ rfl))
end
end Mine.Internal
end
section
set_option maxRecDepth 100000
set_option backward.match.sparseCases false
namespace Mine.Internal
open PySem PyProof.Rows
section
variable {P : Ctx → Prop} {prog : Program} {w : World} {h₀ : Heap} {mg mb : Str → Option Value} {k : Nat} {R : Rec} {T : Tab}
variable {A : Around} {env : Env} {s : Shared} {as : List Addr} {σ σ' : Sto} {ρ ρ' : Rho} {t : Bool}
theorem comp_ev (B : Bs h₀ mg mb) (S : Sd P prog w h₀ k R) (hA : AOk k A) (F : FrI h₀ env s.heap as ρ) (V : Inv h₀ s.heap as σ) {x : Str} {px pos : Pos} {elt iter : Expr} {ifs : List Expr} {scope : Scope} {sr : Src} {σ₁ : Sto} {ys : List PV}
    (O : ScOk scope env) (hs : src T R ⟨env.scope, t⟩ ρ σ iter = some (sr, σ₁)) (hg : (∀ ps, sr ≠ .gens ps) ∧ ∀ m n, sr ≠ .zips m n) (hx : scope.names.lookup x = some .local)
    (h : compS R ⟨relab scope env.scope, false⟩ x ifs elt (freeOf scope ρ) sr 1000 0 σ₁ = some (ys, σ')) :
    wpAny (model prog w) A (eval (.ListComp elt [⟨.Name x px, iter, ifs, 0⟩] scope pos) env) (EP h₀ s as (.ref σ'.length) (σ' ++ [.list ys])) (fun _ _ => False) s := by
  rw [eval_ListComp]
  refine comp_run B S hA F V O hs hg hx h fun D cenv s' hDC hDs hD0 hCs hc => ?_
  refine elEAAA (id hc) fun as' g' V' F' _ => ?_
  refine elEA (F'.ns) fun m hn _ => ?_
  refine ⟨m, hn, fun h' hsb => ?_⟩
  refine elEAAA (hc.done hDs hD0 hCs hDC (s'' := { s' with heap := h' }) ⟨fun b o hb e => hsb.extBut b o hb e, rfl, .refl _⟩) fun as'' g'' V'' hv _ => ?_
  exact ⟨as'', g'', V'', hv⟩
theorem comp_st (B : Bs h₀ mg mb) (S : Sd P prog w h₀ k R) (hA : AOk k A) (F : FrI h₀ env s.heap as ρ) (V : Inv h₀ s.heap as σ) {x y : Str} {px py pos spos : Pos} {elt iter : Expr} {ifs : List Expr} {scope : Scope} {sr : Src} {σ₁ : Sto} {ys : List PV}
    (O : ScOk scope env) (hs : src T R ⟨env.scope, t⟩ ρ σ iter = some (sr, σ₁)) (hg : (∀ ps, sr ≠ .gens ps) ∧ ∀ m n, sr ≠ .zips m n) (hx : scope.names.lookup x = some .local)
    (h : compS R ⟨relab scope env.scope, false⟩ x ifs elt (freeOf scope ρ) sr 1000 0 σ₁ = some (ys, σ')) (hk : kindOk env.scope y = true) :
    wpP P (model prog w) A (exec (.Assign [.Name y py] (.ListComp elt [⟨.Name x px, iter, ifs, 0⟩] scope pos) spos) env) (XP h₀ env s as .next (upd ρ y (.ref σ'.length)) (σ' ++ [.list ys])) (fun _ _ => False) s := by
  obtain ⟨b, hb⟩ : ∃ b, swapsWith (.ListComp elt [⟨.Name x px, iter, ifs, 0⟩] scope pos) (some (.Name y py)) spos.line env = pure b := ⟨_, rfl⟩
  cases b with
  | false =>
    rw [exec_Assign_Name _ y py _ spos hb]
    refine wpP_leaf (wpAny_standAt (wpP_leaf (wpAny_mono (comp_ev B S hA F V O hs hg hx h) (fun v s₁ h₁ => ?_) fun _ _ x => x)))
    refine elEAA h₁ fun as₁ g₁ I₁ hv => ?_
    try clear h₁
    refine wpP_leaf (wpAny_standAt (wpP_leaf (wpAny_bindName (wpAny_mono (store_sound (F.grow g₁) I₁ (kind_of hk) hv) (fun _ s₂ h₂ => wpP_pure ?_) fun _ _ x => x))))
    refine elAA h₂ fun g₂ I₂ F₂ => ?_
    try clear h₂
    exact ⟨as₁, g₁.wide0.trans g₂, I₂, F₂, trivial⟩
  | true =>
    rw [exec_Assign_Name_used _ _ _ _ hb, arm_evalThenUse_ListComp]
    refine wpP_any (wpAny_bind (wpAny_standAt (wpAny_bind (wpAny_bind (wpAny_mono (Q := fun _ s' => XP h₀ env s as .next (upd ρ y (.ref σ'.length)) (σ' ++ [.list ys]) .next s') ?_ (fun _ s' hq => wpAny_pure (wpAny_pure hq)) fun _ _ x => x)))))
    refine comp_run B S hA F V O hs hg hx h fun D cenv s' hDC hDs hD0 hCs hc => ?_
    refine elEAAA (id hc) fun as' g' V' F' _ => ?_
    refine elEA (F'.ns) fun m hn _ => ?_
    refine elEAAA (hc.done hDs hD0 hCs hDC (s'' := s') ⟨fun b o hb e => e, rfl, .refl _⟩) fun as'' g'' V'' hv hCn => ?_
    have Fe := F.grow g''
    have hCf : cenv.locals ∉ faddrs env := fun hm => by
      have : ∃ o, s.heap.get? cenv.locals = some o := by
        rcases List.mem_cons.mp hm with q | hb'
        · obtain ⟨m, ⟨o, _, _, ho, _⟩, _⟩ := F.ns; exact ⟨o, q ▸ ho⟩
        · refine elEA (List.mem_map.mp hb') fun pt48x1 hm' hc' => ?_
          obtain ⟨z, c⟩ := pt48x1
          refine elEEA (F.cells z c hm') fun v o ho _ => ?_
          have e : c = cenv.locals := hc'
          exact ⟨o, e ▸ ho⟩
      obtain ⟨o, ho⟩ := this
      rw [hCs] at ho; cases ho
    have hC0 : h₀.get? cenv.locals = none := (F'.offs _ (List.mem_cons_self ..)).2
    refine wpAny_assign_Name (wpAny_mono (store_sound Fe V'' (kind_of hk) hv) (fun _ s₂ h₂ => ?_) fun _ _ x => x)
    refine elAA h₂ fun g₂ I₂ F₂ => ?_
    try clear h₂
    refine ⟨m, hn.at' fun o e => g₂.keep _ o hCf hCn e, fun h' hsb => ?_⟩
    have sk : Skip cenv.locals s₂ { s₂ with heap := h' } := ⟨fun b o hb e => hsb.extBut b o hb e, rfl, .refl _⟩
    exact ⟨as'', (g''.wide0.trans g₂).skip hCs sk, I₂.skip hC0 hCn sk, F₂.skip hCf sk, trivial⟩
end
end Mine.Internal
end
section
set_option maxRecDepth 100000
namespace Mine.Internal
open PySem PyProof.Rows
section
variable {P : Ctx → Prop} {prog : Program} {w : World} {A : Around} {R : Result → Shared → Prop} {s : Shared}
theorem funcP (L : Pl P) {body : List Stmt} {env : Env}
    (h : wpP P (model prog w) (A.deeper env) (execs body env) (fun f s' => R (.ok (.ret (match f with | .ret v => v | _ => .none))) s')
      (fun e s' => wpP P (model prog w) (A.deeper env) (leaving env e) (fun _ s'' => R (.error e) s'') (fun e' s'' => R (.error e') s'') s') s) :
    codeP P (model prog w) A (.func body env) R s := by
  refine codeP_of_tree L ?_
  show wpP _ _ (A.deeper env) (do point; match ← (execs body env).onRaise (leaving env) with | .ret v => ret v | _ => ret .none) _ _ s
  refine wpP_leaf (wpAny_point (wpP_bind (wpP_onRaise (wpP_mono h (fun f s' h' => ?_) fun _ _ h' => h'))))
  cases f <;> exact wpP_pure h'
theorem callFnP (L : Pl P) {a : Addr} {args : Args} {o : Obj} {fd : FuncData} {body : List Stmt} (hroom : A.depth < recursionLimit)
    (ho : s.heap.get? a = some o) (hd' : o.data = .func fd) (hco : fd.scope.isCoroutine = false) (hgen : fd.scope.isGenerator = false) (hbody : fd.body = .stmts body) (hcd : s.heap.CodeRec fd.code fd.qualname)
    (h : wpAny (model prog w) A.in1 (bindArgs fd args) (fun binds s₁ =>
      wpAny (model prog w) A.in1 (newFunctionEnv fd.scope fd.globals fd.closure binds (fd.qualname ++ ".<locals>.") (some a) fd.code none fd.builtins)
        (fun env s₂ => s₂.heap.NoLimit ∧ codeP P (model prog w) A (.func body env) R s₂) (fun e s' => R (.error e) s') s₁) (fun e s' => R (.error e) s') s) :
    codeP P (model prog w) A (.call (.ref a) args) R s := by
  refine codeP_of_tree L ?_
  refine (?_ : wpP _ _ A.in1 (callAny (.ref a) args) _ _ s)
  simp only [callAny]
  refine wpP_leaf (wpAny_load ho ?_)
  refine elEEEEAAA hcd fun c oc vs tq hc hoc hdc hq => ?_
  try clear hcd
  simp only [hd', callFunction, hco, hgen, hbody, hc]
  rw [hc] at h
  refine wpP_leaf (m := field (.ref c) 1) (wpAny_field hoc hdc hq (wpP_bind (wpP_pure ?_)))
  exact wpP_leaf (wpAny_mono h (fun binds s₁ h₁ => wpP_leaf (wpAny_mono h₁ (fun env s₂ h₂ => wpP_leaf (wpAny_enterFrame h₂.1 hroom
    (wpP_pure ⟨rfl, rfl, h₂.2⟩))) fun _ _ h' => h')) fun _ _ h' => h')
end
end Mine.Internal
end
section
set_option maxRecDepth 100000
set_option backward.match.sparseCases false
namespace Mine.Internal
open PySem PyProof.Rows
theorem Grow.drop {C : Addr} {s s' : Shared} {as as' : List Addr} (g : Grow [C] s as s' as') (h : s.heap.get? C = none) : Grow [] s as s' as' :=
  ⟨g.pre, fun b o _ hb e => g.keep b o (fun q => by rw [List.mem_singleton.mp q, h] at e; cases e) hb e, g.live, g.os, g.gens⟩
structure FnDef (h₀ : Heap) (a : Addr) (o : Obj) (fd : FuncData) (body : List Stmt) : Prop where
  obj : h₀.get? a = some o
  dat : o.data = .func fd
  kind : fd.scope.kind = .function
  noCell : ∀ x ∈ fd.scope.names, x.2 ≠ .cell
  noFree : ∀ x ∈ fd.scope.names, x.2 ≠ .free
  co : fd.scope.isCoroutine = false
  body : fd.body = .stmts body
  code : h₀.CodeRec fd.code fd.qualname
  glb : fd.globals = mainGlobals
  blt : fd.builtins = builtinsNs
  clo : fd.closure = []
  lim : h₀.NoLimit
section
variable {P : Ctx → Prop} {prog : Program} {w : World} {h₀ : Heap} {mg mb : Str → Option Value} {k : Nat} {R : Rec} {T : Tab}
variable {A : Around} {s : Shared} {as : List Addr} {σ σ' : Sto} {ρ ρ' : Rho} {t : Bool}
theorem fn_sound (L : Pl P) {a : Addr} {o : Obj} {fd : FuncData} {body : List Stmt} (D : FnDef h₀ a o fd body) (hgen : fd.scope.isGenerator = false) (X : Xs P prog w h₀ k R) (hA : AOk (k + 1) A) (I : Inv h₀ s.heap as σ) {vs : List Value} {binds : List (Str × Value)} {p : PV}
    (hb : bindArgs fd ⟨vs, []⟩ = pure binds) (hl : ∀ x ∈ binds, fd.scope.names.lookup x.1 = some .local) (hρ : ∀ x q, ρ.lookup x = some q → fd.scope.names.lookup x = some .local ∧ ∃ v, binds.reverse.lookup x = some v ∧ VR h₀ as v q)
    (h : exs R ⟨fd.scope, false⟩ ρ σ body = some (.ret p, ρ', σ')) :
    wpP P (model prog w) A (call (.ref a) vs) (EP h₀ s as p σ') (fun _ _ => False) s := by
  refine wpP_call L (callFnP L hA.room (I.base a o D.obj) D.dat D.co hgen D.body ?_ (wpAny_of_eq hb (wpAny_newFunctionEnv D.noCell hl (fun h' hns hsb => ⟨?_, ?_⟩) D.kind)))
  · refine elEEEEAAA (D.code) fun c oc us tq e1 e2 e3 e4 => ?_
    exact ⟨c, oc, us, tq, e1, I.base c oc e2, e3, e4⟩
  · have hC : s.heap.get? s.heap.objs.size = none := Heap.get?_none_of_le (Nat.le_refl _)
    refine D.lim.keeps fun b ob e => ?_
    have hb' : b ≠ s.heap.objs.size := fun q => by have := I.base b ob e; rw [q, hC] at this; cases this
    exact hsb.extBut b ob hb' (Heap.get?_push_of_some _ (I.base b ob e))
  · have hC : s.heap.get? s.heap.objs.size = none := Heap.get?_none_of_le (Nat.le_refl _)
    have fr := I.fresh hC
    have old : ∀ b ob, s.heap.get? b = some ob → h'.get? b = some ob := fun b ob e => hsb.extBut b ob (fun q => by rw [q, hC] at e; cases e) (Heap.get?_push_of_some _ e)
    rw [D.clo, D.glb, D.blt]
    dsimp only [newEnv]
    have F : FrI h₀ { scope := fd.scope, locals := s.heap.objs.size, globals := mainGlobals, cells := [], qual := fd.qualname ++ ".<locals>.", func := some a, code := fd.code, frame := some s.heap.objs.size, builtins := builtinsNs } h' as ρ := by
      refine ⟨D.kind, rfl, rfl, ⟨_, hns, fun x q hx _ => (hρ x q hx).2⟩, fun x q hx hk => ?_, fun x hk _ => ?_, fun x q hx => .inl (hρ x q hx).1, fun x hk => ?_, (fun x c hc => nomatch hc), .nil, (fun c hc => nomatch hc), fun b hb' => ?_⟩
      · have := (hρ x q hx).1
        rcases hk with e | e
        · have e' : fd.scope.names.lookup x = some .cell := e
          rw [this] at e'; cases e'
        · have e' : fd.scope.names.lookup x = some .free := e
          rw [this] at e'; cases e'
      · exact D.noFree _ (lookup_free (show fd.scope.names.lookup x = some .free from hk)) rfl
      · exact absurd rfl (D.noCell _ (lookup_free (show fd.scope.names.lookup x = some .cell from hk)))
      · rcases List.mem_cons.mp hb' with rfl | z
        · exact fr
        · cases z
    refine funcP L ?_
    refine wpP_mono (exs_sound X hA.deeper topF (s := { s with heap := h', toks := s.toks + binds.length }) F (I.keeps old) h) (fun f s₃ h₃ => ?_) fun _ _ q => q.elim
    refine elEAAA h₃ fun as' g₃ I₃ F₃ hf => ?_
    try clear h₃
    cases f with
    | ret v =>
      have g₀ : Grow [s.heap.objs.size] s as { s with heap := h', toks := s.toks + binds.length } as := .keeps old rfl (.refl _)
      exact ⟨as', (g₀.trans g₃).drop hC, I₃, hf⟩
    | _ => exact hf.elim
end
end Mine.Internal
end
section
set_option maxRecDepth 100000
set_option backward.match.sparseCases false
namespace Mine.Internal
open PySem PyProof.Rows
section
variable {P : Ctx → Prop} {prog : Program} {w : World} {h₀ : Heap} {mg mb : Str → Option Value} {k : Nat} {R : Rec} {T : Tab}
variable {A : Around} {env : Env} {s : Shared} {as : List Addr} {σ σ' : Sto} {ρ ρ' : Rho} {t : Bool}
noncomputable def ZipOk (prog : Program) (w : World) (h₀ : Heap) (k : Nat) (R : Rec) (T : Tab) : Prop :=
  ∀ {A : Around} {env : Env} {s : Shared} {as : List Addr} {σ σ₁ σ' : Sto} {ρ : Rho} {t : Bool} {x y : Str} {px py tp pos : Pos} {kk : Nat} {elt iter : Expr} {scope : Scope} {m n : Nat} {ys : List PV}, AOk k A → FrI h₀ env s.heap as ρ → Inv h₀ s.heap as σ →
    ScOk scope env → src T R ⟨env.scope, t⟩ ρ σ iter = some (.zips m n, σ₁) → scope.names.lookup x = some .local → scope.names.lookup y = some .local → x ≠ y →
    compZ R ⟨relab scope env.scope, false⟩ x y elt (freeOf scope ρ) m n 100 0 σ₁ = some (ys, σ') →
    wpAny (model prog w) A (eval (.ListComp elt [⟨.Tuple [.Name x px, .Name y py] kk tp, iter, [], 0⟩] scope pos) env) (EP h₀ s as (.ref σ'.length) (σ' ++ [.list ys])) (fun _ _ => False) s
noncomputable def Src.Plain (S : Src) : Prop := (∀ ps, S ≠ .gens ps) ∧ ∀ m n, S ≠ .zips m n
theorem plain_rng {a c : Int} {n : Nat} : (Src.rng a c n).Plain := ⟨fun _ e => (nomatch e), fun _ _ e => (nomatch e)⟩
theorem plain_lst {n : Nat} : (Src.lst n).Plain := ⟨fun _ e => (nomatch e), fun _ _ e => (nomatch e)⟩
theorem plain_tup {n : Nat} : (Src.tup n).Plain := ⟨fun _ e => (nomatch e), fun _ _ e => (nomatch e)⟩
theorem compT_inv {c : Cx} {σ : Sto} {elt tgt : Expr} {ifs : List Expr} {scope : Scope} {S : Src} {ys : List PV} {Q : Prop} (h : compT R c ρ σ elt (tview tgt) ifs scope S = some (ys, σ'))
    (hz : ∀ m n x y px py kk tp, S = .zips m n → tgt = .Tuple [.Name x px, .Name y py] kk tp → ifs = [] → scope.names.lookup x = some .local → scope.names.lookup y = some .local → x ≠ y → compZ R ⟨relab scope c.sc, false⟩ x y elt (freeOf scope ρ) m n 100 0 σ = some (ys, σ') → Q)
    (hp : ∀ x px, S.Plain → tgt = .Name x px → scope.names.lookup x = some .local → compS R ⟨relab scope c.sc, false⟩ x ifs elt (freeOf scope ρ) S 1000 0 σ = some (ys, σ') → Q) : Q := by
  have ok := tview_ok tgt
  generalize tview tgt = tv at ok h
  have one : S.Plain → compOne R c ρ σ elt ifs scope S tv = some (ys, σ') → Q := fun hS h => by
    cases tv with
    | one x =>
      obtain ⟨px, rfl⟩ := ok
      exact iteE h fun hx h => hp x px hS rfl hx h
    | _ => exact noE h
  cases S with
  | gens ps => exact noE h
  | zips m n => cases tv with
    | two x y =>
      refine elEEEE ok fun px py kk tp eq40x1 => ?_
      try clear ok
      subst eq40x1
      exact iteE h fun hc h => hz m n x y px py kk tp rfl rfl (List.isEmpty_iff.mp hc.1) hc.2.1 hc.2.2.1 hc.2.2.2 h
    | _ => exact noE h
  | rng => exact one plain_rng h
  | lst => exact one plain_lst h
  | tup => exact one plain_tup h
theorem comp_any (B : Bs h₀ mg mb) (S : Sd P prog w h₀ k R) (hZ : ZipOk prog w h₀ k R T) (hA : AOk k A) (F : FrI h₀ env s.heap as ρ) (V : Inv h₀ s.heap as σ) {tgt elt iter : Expr} {ifs : List Expr} {scope : Scope} {pos : Pos} {p : PV}
    (h : comp T R ⟨env.scope, t⟩ ρ σ elt tgt iter ifs scope = some (p, σ')) : wpAny (model prog w) A (eval (.ListComp elt [⟨tgt, iter, ifs, 0⟩] scope pos) env) (EP h₀ s as p σ') (fun _ _ => False) s := by
  refine iteE h fun hsc zz => ?_
  clear h
  refine bndE zz fun sr σ₁ hs h => ?_
  clear zz
  refine mapE h fun q hq zz => ?_
  clear h
  rename _ => h
  obtain ⟨ys, σ₂⟩ := q
  cases h
  have O := scOk_of hsc
  refine compT_inv hq (fun m n x y px py kk tp e1 e2 e3 h1 h2 h3 hz => ?_) fun x px hS e2 hx hc => ?_
  · subst e1 e2 e3
    exact hZ hA F V O hs h1 h2 h3 hz
  · subst e2
    exact comp_ev B S hA F V O hs hS hx hc
theorem isByts_ok {v : PV} (h : isByts v = true) : ∃ x, v = .bytes x := by
  cases v <;> first | exact ⟨_, rfl⟩ | cases h
theorem isGl_ok {c : Cx} {f : Str} (h : isGl c f = true) : c.sc.names.lookup f = some .globalImplicit := beq_iff_eq.mp h
theorem ev_sound (B : Bs h₀ mg mb) (hT : ∀ f g, T.fn f = some g → FnOk (fun _ => True) prog w h₀ mg k f g) (hB : ∀ f, T.fn f = none → ∀ ps σ r, bcall f ps σ = some r → ∃ v, bval f = some v) (S : Sd P prog w h₀ k R) (hZ : ZipOk prog w h₀ k R T) (hA : AOk k A) (F : FrI h₀ env s.heap as ρ) (I : Inv h₀ s.heap as σ) {e : Expr} {p : PV}
    (h : evStep T R ⟨env.scope, t⟩ ρ σ e = some (p, σ')) : wpAny (model prog w) A (eval e env) (EP h₀ s as p σ') (fun _ _ => False) s := by
  have ok := view_ok e
  unfold evStep at h
  generalize view e = v at ok h
  cases v with
  | name x =>
    refine elAE ok fun hd q eq69x2 => ?_
    try clear ok
    subst eq69x2
    refine mapE h fun v hx zz => ?_
    clear h
    rename _ => h
    cases h
    exact name_sound F I hd hx
  | const q =>
    refine elEEEA ok fun kk a b eq74x3 hq => ?_
    try clear ok
    subst eq74x3
    apply spE h; clear h
    exact const_ev I hq
  | bin op l r =>
    apply exE ok; intro q; clear ok
    exact bndE h fun a σ₁ hl h => bndE h fun b σ₂ hr h => binop_ev S hA F I hl hr h
  | bool op vs =>
    apply exE ok; intro q; clear ok
    exact evBool_sound S hA F I h
  | cmp op l r =>
    refine elAE ok fun hm q eq84x4 => ?_
    try clear ok
    subst eq84x4
    refine bndE h fun a σ₁ hl zz => ?_
    clear h
    refine bndE zz fun b σ₂ hr h => ?_
    clear zz
    refine mapE h fun d hc zz => ?_
    clear h
    rename _ => h
    cases h
    exact cmp_ev S hA F I hm hl hr hc
  | ite tt b o =>
    apply exE ok; intro q; clear ok
    exact bndE h fun d σ₁ ht h => ite_ev S hA F I ht h
  | meth nm o args =>
    obtain ⟨hb, apos, pos, hl, rfl⟩ := ok
    exact bndE h fun ov σ₁ ho h => bindE h fun m hm h => bndE h fun vs σ₂ ha h => mcall_ev S hA F I hb.1 hl hb.2 ho hm ha h
  | call f args =>
    refine elAEE ok fun hd pf pos eq95x5 => ?_
    try clear ok
    subst eq95x5
    refine iteE h fun hk zz => ?_
    clear h
    refine bndE zz fun vs σ₁ ha h => ?_
    clear zz
    cases hg : T.fn f with
    | some g => rw [hg] at h; exact fcall_ev B S hA F I hd hk (hT f g hg) ha h
    | none =>
      rw [hg] at h
      obtain ⟨v, hv⟩ := hB f hg vs σ₁ _ h
      exact bcall_ev B S hA F I hd hk hv ha h
  | isi a =>
    obtain ⟨hst, pf, pt, pos, rfl⟩ := ok
    refine iteE h fun hk zz => ?_
    clear h
    refine bndE zz fun v σ₁ ha h => ?_
    clear zz
    refine iteE h fun hv zz => ?_
    clear h
    rename _ => h
    apply spE h; clear h
    obtain ⟨x, rfl⟩ := isByts_ok hv
    exact isi_ev B S hA F I (isGl_ok hk.1) (isGl_ok hk.2) hst ha
  | slice v lo hi =>
    refine elEE ok fun sp q eq110x6 => ?_
    try clear ok
    subst eq110x6
    exact bndE h fun o σ₁ hv h => bndE h fun lo' σ₂ hl h => bndE h fun hi' σ₃ hu h => slice_ev S hA F I hv hl hu h (.inl ⟨rfl, rfl⟩)
  | rev v =>
    obtain ⟨kk, a, b, sp, q, rfl⟩ := ok
    exact bndE h fun o σ₁ hv h => slice_ev S hA F I hv rfl rfl h (.inr ⟨rfl, _, _, _, rfl⟩)
  | idxN v i =>
    refine elEEEE ok fun kk a b q eq116x7 => ?_
    try clear ok
    subst eq116x7
    refine bndE h fun o σ₁ hv zz => ?_
    clear h
    refine mapE zz fun r hr h => ?_
    clear zz
    cases h
    exact itemN_ev S hA F I hv hr
  | idx v i =>
    apply exE ok; intro q; clear ok
    refine bndE h fun o σ₁ hv zz => ?_
    clear h
    refine bndE zz fun u σ₂ hi h => ?_
    clear zz
    refine bindE h fun j hj zz => ?_
    clear h
    refine mapE zz fun r hr h => ?_
    clear zz
    cases h
    rw [asInt_ok hj] at hi
    exact item_ev S hA F I hv hi hr
  | list es =>
    apply exE ok; intro q; clear ok
    refine bndE h fun vs σ₁ ha zz => ?_
    clear h
    refine iteE zz fun hn h => ?_
    clear zz
    apply spE h; clear h
    exact list_ev S hA F I ha hn
  | tup es =>
    refine elEE ok fun kk q eq132x8 => ?_
    try clear ok
    subst eq132x8
    refine bndE h fun vs σ₁ ha zz => ?_
    clear h
    refine iteE zz fun hn h => ?_
    clear zz
    apply spE h; clear h
    exact tup_ev S hA F I ha hn
  | comp elt tgt iter ifs scope =>
    apply exE ok; intro q; clear ok
    exact comp_any B S hZ hA F I h
  | _ => exact noE h
end
end Mine.Internal
end
section
set_option maxRecDepth 100000
set_option backward.match.sparseCases false
namespace Mine.Internal
open PySem PyProof.Rows
section
variable {P : Ctx → Prop} {prog : Program} {w : World} {h₀ : Heap} {mg mb : Str → Option Value} {k : Nat} {R : Rec} {T : Tab}
variable {A : Around} {env : Env} {s : Shared} {as : List Addr} {σ σ' : Sto} {ρ ρ' : Rho} {t : Bool}
theorem swapped_no {x y : Str} {px py tp pa pb vp : Pos} {kk ka kb kv : Nat} {a b : Int} :
    swappedStores [.Tuple [.Name x px, .Name y py] kk tp] (.Tuple [.Constant (.int a) ka pa, .Constant (.int b) kb pb] kv vp) env = pure none := by
  unfold swappedStores
  dsimp only
  split
  · rfl
  · split
    · rfl
    · split
      · rfl
      · rfl
theorem two_st (hA : AOk k A) (F : FrI h₀ env s.heap as ρ) (I : Inv h₀ s.heap as σ) {x y : Str} {px py tp pa pb vp pos : Pos} {kk ka kb kv : Nat} {a b : Int} (hx : env.scope.names.lookup x = some .local) (hy : env.scope.names.lookup y = some .local) :
    wpP P (model prog w) A (exec (.Assign [.Tuple [.Name x px, .Name y py] kk tp] (.Tuple [.Constant (.int a) ka pa, .Constant (.int b) kb pb] kv vp) pos) env) (XP h₀ env s as .next (upd (upd ρ x (.int a)) y (.int b)) σ) (fun _ _ => False) s := by
  refine wpP_any (Assign_Tuple (Tuple_ (Calls.spliced_cons (wpAny_Constant_int (k := ka) (pos := pa) (Calls.spliced_cons (wpAny_Constant_int (k := kb) (pos := pb) (Calls.spliced_nil (wpAny_newTuple ?_ (by simp [sizeLine])))))))) rfl swapped_no)
  have keepT : ∀ c o, s.heap.get? c = some o → (s.heap.push { cls := .type "tuple", data := .seq [Value.int a s.toks, Value.int b (s.toks + 1)].toArray }).get? c = some o := fun c o e => Heap.get?_push_of_some _ e
  refine wpAny_assign_Tuple hA.1 (items := #[.int a s.toks, .int b (s.toks + 1)]) ⟨_, Heap.get?_push_size _ rfl, rfl, 0, rfl⟩ rfl rfl fun h' he => ?_
  have old : ∀ c o, s.heap.get? c = some o → h'.get? c = some o := fun c o e => by
    refine he c o (fun q => ?_) (keepT c o e)
    have := Heap.lt_size e
    rw [q] at this
    exact absurd this (Nat.not_lt.mpr (by
      refine Nat.le_of_lt ?_
      refine (?_ : s.heap.objs.size < (s.heap.push _).objs.size)
      rw [Heap.size_push]; exact Nat.lt_succ_self _))
  have I' : Inv h₀ h' as σ := I.keeps old
  have g : ∀ n, Grow (faddrs env) s as { s with heap := h', toks := n } as := fun n => .keeps old rfl (.refl _)
  have F' : FrI h₀ env h' as ρ := F.grow (s' := { s with heap := h' }) (.keeps old rfl (.refl _))
  show wpAny _ _ (do holding [Value.int b (s.toks + 1)] (assign (.Name x px) env (.int a s.toks)); assignInOrder [assign (.Name y py) env] [Value.int b (s.toks + 1)]) _ _ _
  refine wpAny_bind (wpAny_holding (wpAny_assign_Name (wpAny_mono (store_sound (s := { s with heap := h', toks := s.toks + 1 + 1 }) F' I' (.inl hx) vr_int) (fun _ s₁ h₁ => ?_) fun _ _ x => x)))
  refine elAA h₁ fun g₁ I₁ F₁ => ?_
  try clear h₁
  show wpAny _ _ (do holding [] (assign (.Name y py) env (.int b (s.toks + 1))); pure ()) _ _ _
  refine wpAny_bind (wpAny_holding (wpAny_assign_Name (wpAny_mono (store_sound F₁ I₁ (.inl hy) vr_int) (fun _ s₂ h₂ => ?_) fun _ _ x => x)))
  refine elAA h₂ fun g₂ I₂ F₂ => ?_
  try clear h₂
  exact wpAny_pure ⟨as, ((g _).trans g₁).trans g₂, I₂, F₂, trivial⟩
end
end Mine.Internal
end
section
set_option maxRecDepth 100000
set_option backward.match.sparseCases false
namespace Mine.Internal
open PySem PyProof.Rows
structure SkipL (X : List Addr) (s s' : Shared) : Prop where
  keep : ∀ b o, b ∉ X → s.heap.get? b = some o → s'.heap.get? b = some o
  os : s'.os = s.os
  gens : GK s.gens s'.gens
theorem Grow.skipL {Y X : List Addr} {s s₁ s₂ : Shared} {as as₁ : List Addr} (g : Grow Y s as s₁ as₁) (hX : ∀ b ∈ X, s.heap.get? b = none) (k : SkipL X s₁ s₂) : Grow Y s as s₂ as₁ :=
  ⟨g.pre, fun b o hY hb e => k.keep b o (fun q => by rw [hX b q] at e; cases e) (g.keep b o hY hb e),
    fun b o e => by
      obtain ⟨o', e'⟩ := g.live b o e
      exact ⟨o', k.keep b o' (fun q => by rw [hX b q] at e; cases e) e'⟩, k.os.trans g.os, g.gens.trans k.gens⟩
theorem Inv.skipL {X : List Addr} {h₀ : Heap} {s₁ s₂ : Shared} {as : List Addr} {σ : Sto} (x : Inv h₀ s₁.heap as σ) (hX : ∀ b ∈ X, b ∉ as ∧ h₀.get? b = none) (k : SkipL X s₁ s₂) : Inv h₀ s₂.heap as σ :=
  ⟨fun b o e => k.keep b o (fun q => by rw [(hX b q).2] at e; cases e) (x.base b o e), x.new, x.nd, x.len, fun n a po ha hp =>
    (x.obj n a po ha hp).mono ⟨[], by simp⟩ fun o e => k.keep a o (fun q => (hX a q).1 (List.mem_of_getElem? ha)) e⟩
theorem FrI.skipL {X : List Addr} {h₀ : Heap} {env : Env} {s₁ s₂ : Shared} {as : List Addr} {ρ : Rho} (F : FrI h₀ env s₁.heap as ρ) (hX : ∀ b ∈ X, b ∉ faddrs env) (k : SkipL X s₁ s₂) : FrI h₀ env s₂.heap as ρ := by
  have kp : ∀ b ∈ faddrs env, ∀ o, s₁.heap.get? b = some o → s₂.heap.get? b = some o := fun b hb o e => k.keep b o (fun q => hX b q hb) e
  have hc : ∀ x c, (x, c) ∈ env.cells → c ∈ faddrs env := fun x c h => List.mem_cons_of_mem _ (List.mem_map.mpr ⟨_, h, rfl⟩)
  refine ⟨F.fn, F.glb, F.blt, ?_, fun x p hx hk => ?_, F.nocd, F.kinds, F.own, fun x c h => ?_, F.apart, F.dict, F.offs⟩
  · refine elEA (F.ns) fun m hn hm => ?_
    exact ⟨m, hn.at' fun o e => kp _ (List.mem_cons_self ..) o e, hm⟩
  · refine elEEAA (F.cell x p hx hk) fun c v e pt26x1 hv => ?_
    obtain ⟨o, ho, hd⟩ := pt26x1
    exact ⟨c, v, e, ⟨o, kp c (hc x c (mem_of_lookup e)) o ho, hd⟩, hv⟩
  · refine elEEA (F.cells x c h) fun v o ho hd => ?_
    exact ⟨v, o, kp c (hc x c h) o ho, hd⟩
structure ZAt (z TI TO i1 i2 l1 l2 : Addr) (i : Nat) (h : Heap) : Prop where
  zip : IsZip h z TI TO .none
  ti : IsPair h TI (.ref i1) (.ref i2)
  to : ∃ a b, IsPair h TO a b
  it1 : h.IsListIter i1 l1 i
  it2 : h.IsListIter i2 l2 i
theorem ZAt.keep {z TI TO i1 i2 l1 l2 : Addr} {i : Nat} {h h' : Heap} (x : ZAt z TI TO i1 i2 l1 l2 i h) (hk : ∀ b ∈ [z, TI, TO, i1, i2], ∀ o, h.get? b = some o → h'.get? b = some o) : ZAt z TI TO i1 i2 l1 l2 i h' := by
  refine elEE (x.to) fun a b ht => ?_
  refine elEA (x.it1) fun o1 e1 r1 => ?_
  refine elEA (x.it2) fun o2 e2 r2 => ?_
  exact ⟨hk z (by simp) _ x.zip, hk TI (by simp) _ x.ti, ⟨a, b, hk TO (by simp) _ ht⟩, ⟨o1, hk i1 (by simp) _ e1, r1⟩, ⟨o2, hk i2 (by simp) _ e2, r2⟩⟩
end Mine.Internal
end
section
set_option maxRecDepth 100000
set_option backward.match.sparseCases false
namespace Mine.Internal
open PySem PyProof.Rows
section
variable {P : Ctx → Prop} {prog : Program} {w : World} {h₀ : Heap} {mg mb : Str → Option Value} {k : Nat} {R : Rec} {T : Tab}
variable {A : Around} {env : Env} {s : Shared} {as : List Addr} {σ σ' : Sto} {ρ ρ' : Rho} {t : Bool}
theorem comp_loopZ (S : Sd P prog w h₀ k R) (hA : AOk k A) {RR : Result → Shared → Prop} {x y : Str} {px py tp pos : Pos} {kk : Nat} {elt iter : Expr} {scope : Scope} {cenv : Env} {z TI TO i1 i2 l1 l2 D : Addr} {m₁ n₁ : Nat} {s₄ : Shared} {as₄ : List Addr} {σ₁ : Sto} {ys : List PV}
    (hx : cenv.kindOf x = some .local) (hy : cenv.kindOf y = some .local) (hxy : x ≠ y) (hnx : ρ.lookup x = none) (hny : ρ.lookup y = none) (g : Grow [] s as s₄ as₄) (V : Inv h₀ s₄.heap as₄ σ₁) (F : FrI h₀ cenv s₄.heap as₄ ρ)
    (it : ZAt z TI TO i1 i2 l1 l2 0 s₄.heap) (ap : ZipApart z TI TO i1 i2 l1 l2) (hl1 : as₄[m₁]? = some l1) (hl2 : as₄[n₁]? = some l2)
    (hz : ∀ b ∈ [z, TI, TO, i1, i2], b ∉ as₄ ∧ s.heap.get? b = none ∧ h₀.get? b = none ∧ b ∉ faddrs cenv ∧ b ≠ D)
    (hD : D ∉ as₄) (hL : s₄.heap.PlainList D ([] : List Value).toArray) (hDs : s.heap.get? D = none) (hCs : s.heap.get? cenv.locals = none) (hD0 : h₀.get? D = none) (hDf : D ∉ faddrs cenv)
    (h : compZ R ⟨cenv.scope, t⟩ x y elt ρ m₁ n₁ 100 0 σ₁ = some (ys, σ')) (hR : ∀ s', CmP h₀ s as cenv ρ D ys σ' s' → RR (.ok .next) s') :
    codeAny (model prog w) A (.compLoop (.ListComp elt [⟨.Tuple [.Name x px, .Name y py] kk tp, iter, [], 0⟩] scope pos) 0 (.ref z) (.ref D) cenv) RR s₄ := by
  have noErr : ∀ (e : Value) (s' : Shared), False → notedBy (model prog w) A cenv (fun e s' => RR (.error e) s') e s' := fun _ _ q => q.elim
  have wz : ∀ b ∈ [z, TO, i1, i2], b ∈ [z, TI, TO, i1, i2] := fun b hb => by
    simp only [List.mem_cons, List.not_mem_nil, or_false] at hb ⊢
    rcases hb with q | q | q | q <;> simp [q]
  refine opq2 (fun (m : Nat) (s₅ : Shared) => ∃ i as₅ σ₅ done rest, Grow [] s as s₅ as₅ ∧ Inv h₀ s₅.heap as₅ σ₅ ∧ FrI h₀ cenv s₅.heap as₅ ρ ∧ ZAt z TI TO i1 i2 l1 l2 i s₅.heap ∧ as₅[m₁]? = some l1 ∧ as₅[n₁]? = some l2 ∧
      (∀ b ∈ [z, TI, TO, i1, i2], b ∉ as₅) ∧ D ∉ as₅ ∧ (∃ its : List Value, s₅.heap.PlainList D its.toArray ∧ Paired (VR h₀ as₅) its done) ∧ compZ R ⟨cenv.scope, t⟩ x y elt ρ m₁ n₁ m i σ₅ = some (rest, σ') ∧ done ++ rest = ys ∧ done.length + m ≤ 1000) fun IV un mk => ?_
  refine PyProof.Rows.LCp.codeAny_compLoop_pair IV ?_ 100 (mk _ _ ⟨0, as₄, σ₁, [], ys, g, V, F, it, hl1, hl2, fun b hb => (hz b hb).1, hD, ⟨[], hL, .nil⟩, h, rfl, by simp⟩)
  clear it hD hL h hl1 hl2
  intro m s₅ hI
  refine el5_11 (un _ _ hI) fun i as₅ σ₅ done rest g₅ V₅ F₅ it₅ hl1₅ hl2₅ hz₅ hD₅ hL₅ h₅ hds hlen => ?_
  clear hI un
  cases m with
  | zero => cases h₅
  | succ m =>
    refine bindE h₅ fun xs hxs zz => ?_
    clear h₅
    refine bindE zz fun us hus h₅ => ?_
    clear zz
    refine elEA (V₅.list hxs hl1₅) fun v1 hp1 hr1 => ?_
    refine elEA (V₅.list hus hl2₅) fun v2 hp2 hr2 => ?_
    refine elEE (it₅.to) fun a0 b0 hto => ?_
    cases hn : xs[i]? with
    | none =>
      rw [hn] at h₅
      refine sp_inj h₅ fun er es => ?_
      clear h₅
      refine wpAny_pyNext_zip_end hA.1 ap it₅.zip it₅.ti hto it₅.it1 it₅.it2 hp1.isList hp2.isList (.inl ?_) fun h' hk => ?_
      · rw [List.getElem?_toArray, List.getElem?_eq_none_iff, paired_length hr1]
        exact List.getElem?_eq_none_iff.mp hn
      · have sk : SkipL [z, TO, i1, i2] s₅ { s₅ with heap := h' } := ⟨fun b o hb e => by
          simp only [List.mem_cons, List.not_mem_nil, or_false, not_or] at hb
          exact hk b o hb.1 hb.2.1 hb.2.2.1 hb.2.2.2 e, rfl, .refl _⟩
        refine hR _ ⟨as₅, g₅.skipL (fun b hb => (hz b (wz b hb)).2.1) sk, es ▸ V₅.skipL (fun b hb => ⟨hz₅ b (wz b hb), (hz b (wz b hb)).2.2.1⟩) sk, F₅.skipL (fun b hb => (hz b (wz b hb)).2.2.2.1) sk, hD₅, ?_⟩
        refine elEA hL₅ fun its pt44x1 hp => ?_
        try clear hL₅
        obtain ⟨q, hq⟩ := pt44x1
        rw [← er, List.append_nil] at hds
        exact ⟨its, ⟨q, sk.keep D _ (fun hm => (hz D (wz D hm)).2.2.2.2 rfl) hq⟩, hds ▸ hp⟩
    | some u =>
      rw [hn] at h₅
      replace h₅ : (us[i]?).bind (fun v => bnd (R.ev ⟨cenv.scope, t⟩ (upd (upd ρ x u) y v) σ₅ elt) fun z σ => bnd (compZ R ⟨cenv.scope, t⟩ x y elt ρ m₁ n₁ m (i + 1) σ) fun zs σ => some (z :: zs, σ)) = some (rest, σ') := h₅
      refine bindE h₅ fun v hv zz => ?_
      clear h₅
      rename _ => h₅
      have hu := hn
      refine elEA (paired_get hr1 hu) fun vu hvu hru => ?_
      refine elEA (paired_get hr2 hv) fun vv hvv hrv => ?_
      refine wpAny_pyNext_zip_item (x := vu) (y := vv) ap it₅.zip it₅.ti hto it₅.it1 it₅.it2 hp1.isList hp2.isList (by rw [List.getElem?_toArray]; exact hvu) (by rw [List.getElem?_toArray]; exact hvv) fun h₆ q1 q2 q3 q4 q5 q6 q7 => ?_
      refine wpAny_letOwnedTupleGo_zip (s := { s₅ with heap := h₆ }) q1 fun h₇ r1 r2 => ?_
      have hTz : s₅.heap.objs.size ≠ z := fun e => by
        have := Heap.lt_size (show s₅.heap.get? z = some _ from it₅.zip)
        rw [← e] at this; exact absurd this (Nat.lt_irrefl _)
      have hT7 : IsPair h₇ s₅.heap.objs.size vu vv := r2.extBut _ _ hTz q5
      refine wpAny_assign_Tuple hA.1 (s := { s₅ with heap := h₇ }) (items := #[vu, vv]) ⟨_, hT7, rfl, 0, rfl⟩ rfl rfl fun h₈ he => ?_
      have up : ∀ b o, b ∉ [z, TO, i1, i2] → s₅.heap.get? b = some o → h₈.get? b = some o := fun b o hb e => by
        have hb' := hb
        simp only [List.mem_cons, List.not_mem_nil, or_false, not_or] at hb'
        have e7 := r2.extBut b o hb'.1 (q7 b o hb'.1 hb'.2.1 hb'.2.2.1 hb'.2.2.2 e)
        exact he b o (Nat.ne_of_lt (Heap.lt_size e7)) e7
      have up7 : ∀ b o, h₇.get? b = some o → h₈.get? b = some o := fun b o e => he b o (Nat.ne_of_lt (Heap.lt_size e)) e
      have sk : SkipL [z, TO, i1, i2] s₅ { s₅ with heap := h₈ } := ⟨up, rfl, .refl _⟩
      have g₈ := g₅.skipL (fun b hb => (hz b (wz b hb)).2.1) sk
      have V₈ := V₅.skipL (fun b hb => ⟨hz₅ b (wz b hb), (hz b (wz b hb)).2.2.1⟩) sk
      have F₈ := F₅.skipL (fun b hb => (hz b (wz b hb)).2.2.2.1) sk
      have it₈ : ZAt z TI TO i1 i2 l1 l2 (i + 1) h₈ := by
        refine ⟨up7 _ _ r1, up TI _ (fun hm => ?_) it₅.ti, ⟨vu, vv, up7 _ _ (r2.extBut _ _ ap.TOz q2)⟩, ?_, ?_⟩
        · simp only [List.mem_cons, List.not_mem_nil, or_false] at hm
          rcases hm with e | e | e | e
          · exact ap.TIz e
          · exact ap.TITO e
          · exact ap.TIi1 e
          · exact ap.TIi2 e
        · exact (q3.extBut r2.extBut ap.i1z).at fun o e => up7 _ o e
        · exact (q4.extBut r2.extBut ap.i2z).at fun o e => up7 _ o e
      show wpAny _ _ (do holding [vv] (assign (.Name x px) cenv vu); assignInOrder [assign (.Name y py) cenv] [vv]) _ _ _
      refine wpAny_bind (wpAny_holding (wpAny_mono (wpAny_assign_Name (store_both F₈ V₈ (.inl hx) hru)) (fun _ s₉ h₉ => ?_) noErr))
      obtain ⟨⟨_, V₉, F₉⟩, sk₉⟩ := h₉
      have sk₉ := sk₉ hx
      show wpAny _ _ (do holding [] (assign (.Name y py) cenv vv); pure ()) _ _ _
      refine wpAny_bind (wpAny_holding (wpAny_mono (wpAny_assign_Name (store_both F₉ V₉ (.inl hy) hrv)) (fun _ s₁₀ h₁₀ => wpAny_pure ?_) noErr))
      obtain ⟨⟨_, V₁₀, F₁₀⟩, sk₁₀⟩ := h₁₀
      have sk₁₀ := sk₁₀ hy
      have g₁₀ := (g₈.skip hCs sk₉).skip hCs sk₁₀
      have hCz : ∀ b ∈ [z, TI, TO, i1, i2], b ≠ cenv.locals := fun b hb q => (hz b hb).2.2.2.1 (q ▸ List.mem_cons_self ..)
      have hCD : D ≠ cenv.locals := fun q => hDf (q ▸ List.mem_cons_self ..)
      have it₁₀ : ZAt z TI TO i1 i2 l1 l2 (i + 1) s₁₀.heap := it₈.keep fun b hb o e => sk₁₀.keep b o (hCz b hb) (sk₉.keep b o (hCz b hb) e)
      refine elEA hL₅ fun its pt93x2 hp => ?_
      try clear hL₅
      obtain ⟨q, hq⟩ := pt93x2
      have hq₁₀ := sk₁₀.keep D _ hCD (sk₉.keep D _ hCD (up D _ (fun hm => (hz D (wz D hm)).2.2.2.2 rfl) hq))
      refine bndE h₅ fun yv σ₆ he' zz => ?_
      clear h₅
      refine bndE zz fun ys' σ'' hrest h₅ => ?_
      clear zz
      refine sp_inj h₅ fun er es => ?_
      clear h₅
      refine wpAny_mono (S.ev hA F₁₀ V₁₀ he') (fun vy s₁₁ h₁₁ => ?_) noErr
      refine elEAA h₁₁ fun as₁₁ g₁₁ V₁₁ hvy => ?_
      try clear h₁₁
      refine elEA (g₁₁.pre) fun ext hext hfr => ?_
      have hz₁₁ : ∀ b ∈ [z, TI, TO, i1, i2], b ∉ as₁₁ := fun b hb hm => by
        rw [hext] at hm
        rcases List.mem_append.mp hm with q | q
        · exact hz₅ b hb q
        · have hn := hfr b q
          have live : ∃ o, s₁₀.heap.get? b = some o := by
            refine elEE (it₁₀.to) fun a' b' ht' => ?_
            refine elEA (it₁₀.it1) fun o1 e1 _ => ?_
            refine elEA (it₁₀.it2) fun o2 e2 _ => ?_
            simp only [List.mem_cons, List.not_mem_nil, or_false] at hb
            rcases hb with rfl | rfl | rfl | rfl | rfl
            · exact ⟨_, it₁₀.zip⟩
            · exact ⟨_, it₁₀.ti⟩
            · exact ⟨_, ht'⟩
            · exact ⟨_, e1⟩
            · exact ⟨_, e2⟩
          obtain ⟨o, ho⟩ := live
          rw [hn] at ho; cases ho
      have hD₁₁ : D ∉ as₁₁ := fun hm => by
        rw [hext] at hm
        rcases List.mem_append.mp hm with q' | q'
        · exact hD₅ q'
        · rw [hfr D q'] at hq₁₀; cases hq₁₀
      have hpl : s₁₁.heap.PlainList D its.toArray := ⟨q, g₁₁.keep D _ (fun z => nomatch z) hD₅ hq₁₀⟩
      have hpr := g₁₁.vrs hp
      have hil := paired_length hpr
      refine wpAny_list_append_plain hpl (fun h' hp' hs' => ?_) (by simp; unfold sizeLine; omega)
      have skD : Skip D s₁₁ { s₁₁ with heap := h' } := ⟨fun b o hb e => hs'.extBut b o hb e, rfl, .refl _⟩
      have weak : ∀ yy qq, ρ.lookup yy = some qq → (upd (upd ρ x u) y v).lookup yy = some qq := fun yy qq hyy => by
        rw [lookup_upd, lookup_upd]
        by_cases e1 : yy = y
        · subst e1; rw [hny] at hyy; cases hyy
        · rw [if_neg e1]
          by_cases e2 : yy = x
          · subst e2; rw [hnx] at hyy; cases hyy
          · rw [if_neg e2]; exact hyy
      have F₁₁ := (F₁₀.grow g₁₁).weak weak
      have ext1 : ∀ {n : Nat} {l : Addr}, as₅[n]? = some l → as₁₁[n]? = some l := fun {n l} hl => by
        rw [hext, List.getElem?_append_left (List.getElem?_eq_some_iff.mp hl).1]; exact hl
      refine ⟨m, Nat.lt_succ_self m, mk _ _ ⟨i + 1, as₁₁, σ₆, done ++ [yv], ys', (g₁₀.trans g₁₁).skip hDs skD, V₁₁.skip hD0 hD₁₁ skD, F₁₁.skip hDf skD,
        it₁₀.keep (fun b hb o e => skD.keep b o (hz b hb).2.2.2.2 (g₁₁.keep b o (fun z => nomatch z) (hz₅ b hb) e)), ext1 hl1₅, ext1 hl2₅, hz₁₁, hD₁₁, ?_, es ▸ hrest, by simpa [← er] using hds, by simp; omega⟩⟩
      refine ⟨its ++ [vy], ?_, paired_append hpr (.cons hvy .nil)⟩
      have e : its.toArray.push vy = (its ++ [vy]).toArray := by simp
      rw [← e]; exact hp'
end
end Mine.Internal
end
section
set_option maxRecDepth 100000
set_option backward.match.sparseCases false
namespace Mine.Internal
open PySem PyProof.Rows
section
variable {P : Ctx → Prop} {prog : Program} {w : World} {h₀ : Heap} {mg mb : Str → Option Value} {k : Nat} {R : Rec} {T : Tab}
variable {A : Around} {env : Env} {s : Shared} {as : List Addr} {σ σ' : Sto} {ρ ρ' : Rho} {t : Bool}
noncomputable def ZitP (h₀ : Heap) (s : Shared) (as : List Addr) (m n : Nat) (σ' : Sto) (it : Value) (s' : Shared) : Prop :=
  ∃ z TI TO i1 i2 l1 l2 as', it = .ref z ∧ Grow [] s as s' as' ∧ Inv h₀ s'.heap as' σ' ∧ ZAt z TI TO i1 i2 l1 l2 0 s'.heap ∧ ZipApart z TI TO i1 i2 l1 l2 ∧ as'[m]? = some l1 ∧ as'[n]? = some l2 ∧
    ∀ b ∈ [z, TI, TO, i1, i2], b ∉ as' ∧ s.heap.get? b = none ∧ h₀.get? b = none
theorem range_noZip {is : List Int} {m n : Nat} (h : rangeOf is = some (.zips m n)) : False := by
  cases is with
  | nil => cases h
  | cons a r => cases r with
    | nil => exact iteE h fun _ h => nomatch h
    | cons b r => cases r with
      | nil => exact iteE h fun _ h => nomatch h
      | cons c r => cases r with
        | nil => exact iteE h fun _ h => nomatch h
        | cons _ _ => cases h
theorem srcF_zip {f : Str} {ps : List PV} {m n : Nat} {Q : Prop} (h : srcF T f ps σ' = some (.zips m n)) (k : f = "zip" → ∀ xs ys, ps = [.ref m, .ref n] → listAt σ' (.ref m) = some xs → listAt σ' (.ref n) = some ys → Q) : Q := by
  refine ite2 h (fun _ h => bindE h fun is _ h => iteE h fun _ h => (range_noZip h).elim) fun _ h => ite2 h (fun hf h => ?_) fun _ h => iteE h fun _ h => bindE h fun v _ h => bindE h fun x _ h => iteE h fun _ h => nomatch h
  refine bindE h fun p hp zz => ?_
  clear h
  refine bindE zz fun m hm h => ?_
  clear zz
  refine bindE h fun n hn zz => ?_
  clear h
  refine bindE zz fun xs hxs h => ?_
  clear zz
  refine bindE h fun ys hys zz => ?_
  clear h
  refine iteE zz fun _ h => ?_
  clear zz
  cases h
  refine k hf xs ys ?_ hxs hys
  rw [two2_ok hp, asRef_ok hm, asRef_ok hn]
theorem zip_made {m n : Nat} {xs ys : List PV} {us : List Value} {s₁ : Shared} {as₁ : List Addr} (g₁ : Grow [] s as s₁ as₁) (I₁ : Inv h₀ s₁.heap as₁ σ') (hxs : listAt σ' (.ref m) = some xs) (hys : listAt σ' (.ref n) = some ys) (hv : Paired (VR h₀ as₁) us [.ref m, .ref n]) :
    wpAny (model prog w) A (call (.type "zip") us) (fun x s₁ => wpAny (model prog w) A (pyIter x) (ZitP h₀ s as m n σ') (fun _ _ => False) s₁) (fun _ _ => False) s₁ := by
  cases hv with
  | cons hv1 hv2 => cases hv2 with
    | cons hv2 hv3 =>
      cases hv3
      refine elEA hv1 fun l1 eq37x1 hl1 => ?_
      try clear hv1
      subst eq37x1
      refine elEA hv2 fun l2 eq38x2 hl2 => ?_
      try clear hv2
      subst eq38x2
      refine elEA (I₁.list hxs hl1) fun w1 hp1 _ => ?_
      refine elEA (I₁.list hys hl2) fun w2 hp2 _ => ?_
      refine call_zip_2 hp1.isList hp2.isList fun h' q1 q2 q3 q4 q5 q6 q7 => ?_
      refine wpAny_pyIter_zip q1 ?_
      have lt1 : @LT.lt Nat _ l1 s₁.heap.objs.size := I₁.lt (List.mem_of_getElem? hl1)
      have lt2 : @LT.lt Nat _ l2 s₁.heap.objs.size := I₁.lt (List.mem_of_getElem? hl2)
      refine ⟨_, _, _, _, _, l1, l2, as₁, rfl, g₁.trans (.keeps q7 rfl (.refl _)), I₁.keeps q7, ⟨q1, q2, ⟨_, _, q3⟩, q4, q5⟩, ?_, hl1, hl2, fun b hb => ?_⟩
      · constructor <;> (show (_ : Nat) ≠ _) <;> omega
      · have hbn : s₁.heap.get? b = none := Heap.get?_none_of_le (by
          simp only [List.mem_cons, List.not_mem_nil, or_false] at hb
          rcases hb with rfl | rfl | rfl | rfl | rfl <;> (show (_ : Nat) ≤ _) <;> omega)
        have fr := I₁.fresh hbn
        refine ⟨fr.1, ?_, fr.2⟩
        cases e : s.heap.get? b with
        | none => rfl
        | some o =>
          obtain ⟨o', e'⟩ := g₁.live b o e
          rw [hbn] at e'; cases e'
theorem zip_src (B : Bs h₀ mg mb) (S : Sd P prog w h₀ k R) (hA : AOk k A) (F : FrI h₀ env s.heap as ρ) (I : Inv h₀ s.heap as σ) {iter : Expr} {m n : Nat} (h : src T R ⟨env.scope, t⟩ ρ σ iter = some (.zips m n, σ')) :
    wpAny (model prog w) A (eval iter env) (fun x s₁ => wpAny (model prog w) A (pyIter x) (ZitP h₀ s as m n σ') (fun _ _ => False) s₁) (fun _ _ => False) s := by
  have ok := view_ok iter
  unfold src at h
  generalize view iter = v at ok h
  cases v with
  | call f args =>
    refine elAEE ok fun _ p q eq64x3 => ?_
    try clear ok
    subst eq64x3
    refine iteE h fun hk zz => ?_
    clear h
    refine bndE zz fun vs σ₁ ha h => ?_
    clear zz
    refine mapE h fun sr' hs zz => ?_
    clear h
    rename _ => h
    cases h
    refine srcF_zip hs fun hf xs ys e hxs hys => ?_
    subst hf e
    refine wpP_to_any (callNameP (global_sound B F I (by decide) hk (.inr B.zip) (callWithP_val rfl (plainArgs (evs_length ha)) (wpP_any (wpAny_mono (evs_sound S hA F I ha) (fun us s₁ h₁ => ?_) fun _ _ x => x)))))
    refine elEAA h₁ fun as₁ g₁ I₁ hv => ?_
    try clear h₁
    exact wpP_any (zip_made g₁ I₁ hxs hys hv)
  | name x =>
    refine bndE h fun v σ₁ he zz => ?_
    clear h
    refine bindE zz fun n hn h => ?_
    clear zz
    refine mapE h fun vs hl zz => ?_
    clear h
    rename _ => h
    cases h
  | tup es =>
    refine bndE h fun v σ₁ he zz => ?_
    clear h
    refine bindE zz fun n hn h => ?_
    clear zz
    refine bindE h fun vs hs zz => ?_
    clear h
    refine iteE zz fun _ h => ?_
    clear zz
    cases h
  | _ => exact noE h
end
end Mine.Internal
end
section
set_option maxRecDepth 100000
set_option backward.match.sparseCases false
namespace Mine.Internal
open PySem PyProof.Rows
section
variable {P : Ctx → Prop} {prog : Program} {w : World} {h₀ : Heap} {mg mb : Str → Option Value} {k : Nat} {R : Rec} {T : Tab}
theorem zip_ok (B : Bs h₀ mg mb) (S : Sd P prog w h₀ k R) : ZipOk prog w h₀ k R T := by
  intro A env s as σ σ₁ σ' ρ t x y px py tp pos kk elt iter scope m n ys hA F V O hs hx hy hxy h
  have hclos : closureFor scope env = pure (clo env.cells scope.names []) := closure_eq fun p hp hf => F.own p.1 (O.free p hp hf).1
  rw [eval_ListComp]
  refine wpAny_comprehension_free (g := ⟨.Tuple [.Name x px, .Name y py] kk tp, iter, [], 0⟩) (gs := []) rfl (fold_plain hs) hclos O.kind O.loc (wpAny_mono (zip_src B S hA F V hs) (fun xv s₁ h₁ => wpAny_mono h₁ (fun it s₂ h₂ => ?_) fun _ _ x => x) fun _ _ x => x)
  obtain ⟨z, TI, TO, i1, i2, l1, l2, as₂, rfl, g₂, V₂, it₂, ap, hl1, hl2, hzz⟩ := h₂
  have F₂ := F.grow g₂
  refine wpAny_newList ?_ (by simp)
  have hDn : s₂.heap.get? s₂.heap.objs.size = none := Heap.get?_none_of_le (Nat.le_refl _)
  have hDfr := V₂.fresh hDn
  have back : ∀ b, s₂.heap.get? b = none → s.heap.get? b = none := fun b hb => by
    cases e : s.heap.get? b with
    | none => rfl
    | some o =>
      obtain ⟨o', e'⟩ := g₂.live b o e
      rw [hb] at e'; cases e'
  generalize hH3 : s₂.heap.push { cls := .type "list", data := .seq ([] : List Value).toArray } = H3
  have hsz : H3.objs.size = s₂.heap.objs.size + 1 := by rw [← hH3, Heap.size_push]
  have hCn : s₂.heap.get? H3.objs.size = none := Heap.get?_none_of_le (by omega)
  have hCfr := V₂.fresh hCn
  refine wpAny_newFunctionEnv (fun y hy => O.noCell y hy) (by intro y hy; cases hy) (fun h₄ hns hsb => ?_) O.kind
  dsimp only at hns hsb ⊢
  have old : ∀ b o, s₂.heap.get? b = some o → h₄.get? b = some o := fun b o e => by
    have hb : b ≠ H3.objs.size := fun q => by rw [q, hCn] at e; cases e
    exact hsb.extBut b o hb (Heap.get?_push_of_some _ (by rw [← hH3]; exact Heap.get?_push_of_some _ e))
  have hDC : s₂.heap.objs.size ≠ H3.objs.size := by omega
  have hacc : h₄.PlainList s₂.heap.objs.size ([] : List Value).toArray :=
    ⟨_, hsb.extBut _ _ hDC (Heap.get?_push_of_some _ (by rw [← hH3]; exact Heap.get?_push_size _ rfl))⟩
  have zlive : ∀ b ∈ [z, TI, TO, i1, i2], ∃ o, s₂.heap.get? b = some o := fun b hb => by
    refine elEE (it₂.to) fun a' b' ht' => ?_
    refine elEA (it₂.it1) fun o1 e1 _ => ?_
    refine elEA (it₂.it2) fun o2 e2 _ => ?_
    simp only [List.mem_cons, List.not_mem_nil, or_false] at hb
    rcases hb with rfl | rfl | rfl | rfl | rfl
    · exact ⟨_, it₂.zip⟩
    · exact ⟨_, it₂.ti⟩
    · exact ⟨_, ht'⟩
    · exact ⟨_, e1⟩
    · exact ⟨_, e2⟩
  have F₄ : FrI h₀ (compEnvC scope (clo env.cells scope.names []) H3.objs.size env) h₄ as₂ (freeOf scope ρ) := comp_frame F₂ O old hCn hCfr (by simpa using hns)
  have cellLive : ∀ c, c ∈ (clo env.cells scope.names []).map (·.2) → ∃ o, s.heap.get? c = some o := fun c hc => by
    refine elEA (List.mem_map.mp hc) fun pt50x1 hm' eq50x2 => ?_
    obtain ⟨yy, d⟩ := pt50x1
    subst eq50x2
    rcases clo_mem hm' with q | ⟨_, q⟩
    · cases q
    · refine elEEA (F.cells yy d (mem_of_lookup q)) fun v o ho _ => ?_
      exact ⟨o, ho⟩
  have offS : ∀ b, s.heap.get? b = none → b ≠ H3.objs.size → b ∉ faddrs (compEnvC scope (clo env.cells scope.names []) H3.objs.size env) := fun b hb hbC hm => by
    rcases List.mem_cons.mp hm with q | q
    · exact hbC q
    · obtain ⟨o, ho⟩ := cellLive b q
      rw [hb] at ho; cases ho
  have zD : ∀ b ∈ [z, TI, TO, i1, i2], b ≠ s₂.heap.objs.size := fun b hb q => by obtain ⟨o, ho⟩ := zlive b hb; rw [q, hDn] at ho; cases ho
  have zC : ∀ b ∈ [z, TI, TO, i1, i2], b ≠ H3.objs.size := fun b hb q => by obtain ⟨o, ho⟩ := zlive b hb; rw [q, hCn] at ho; cases ho
  have noX : ∀ yy, scope.names.lookup yy = some .local → (freeOf scope ρ).lookup yy = none := fun yy hyy => by
    cases e : (freeOf scope ρ).lookup yy with
    | none => rfl
    | some q =>
      have := (freeOf_lookup e).1
      rw [hyy] at this; cases this
  have it₄ : ZAt z TI TO i1 i2 l1 l2 0 h₄ := it₂.keep fun b _ o e => old b o e
  have go : ∀ s₄ : Shared, s₄ = { s₂ with heap := h₄, toks := s₂.toks + ([] : List (Str × Value)).length } →
      codeAny (model prog w) A (.compLoop (.ListComp elt [⟨.Tuple [.Name x px, .Name y py] kk tp, iter, [], 0⟩] scope pos) 0 (.ref z) (.ref s₂.heap.objs.size) (compEnvC scope (clo env.cells scope.names []) H3.objs.size env))
        (compPost (model prog w) A (fun _ _ => False) none (EP h₀ s as (.ref σ'.length) (σ' ++ [.list ys])) (.ref s₂.heap.objs.size) H3.objs.size) s₄ := by
    rintro s₄ rfl
    refine comp_loopZ S hA (t := false) (ρ := freeOf scope ρ) (lookup_relabel_local hx) (lookup_relabel_local hy) hxy (noX x hx) (noX y hy) (g₂.trans (.keeps old rfl (.refl _))) (V₂.keeps old) F₄ it₄ ap hl1 hl2
      (fun b hb => ⟨(hzz b hb).1, (hzz b hb).2.1, (hzz b hb).2.2, offS b (hzz b hb).2.1 (zC b hb), zD b hb⟩) hDfr.1 hacc (back _ hDn) (back _ hCn) hDfr.2 (offS _ (back _ hDn) hDC) h fun s' hc => ?_
    refine elEAAA (id hc) fun as' g' V' F' _ => ?_
    refine elEA (F'.ns) fun mm hn _ => ?_
    refine ⟨mm, hn, fun h' hsb' => ?_⟩
    refine elEAAA (hc.done (back _ hDn) hDfr.2 (back _ hCn) hDC (s'' := { s' with heap := h' }) ⟨fun b o hb e => hsb'.extBut b o hb e, rfl, .refl _⟩) fun as'' g'' V'' hv _ => ?_
    exact ⟨as'', g'', V'', hv⟩
  exact codeAny_compStart_list (go _ rfl) (wpAny_pyIter_zip (s := { s₂ with heap := h₄, toks := s₂.toks + ([] : List (Str × Value)).length }) it₄.zip (go _ rfl))
end
end Mine.Internal
end
section
set_option maxRecDepth 100000
namespace Mine.Internal
open PySem PyProof.Rows
open PySem.W.X (SegX)
section
variable {M : Model} {A : Around} {c : Code} {fs : List Frame} {s : Shared} {P : End → Shared → Prop}
theorem sx_wrap {α : Type} {m : Sem α} {K : α → Sem Fin} {H : Value → Sem Fin} {gd : Bool → Bool} {lv : List Value → List Value}
    (h : wpAny M (A.over c fs) m (fun a s' => SegX M A c (K a) fs s' P) (fun x s' => SegX M A c (H x) fs s' P) s) : SegX M A c (m.wrap K H gd lv) fs s P := by
  rintro Γ p rfl hΓ
  exact runs_wrap_of_wp (Φ := fun e s' => e.quiet = true ∧ P e s') K H gd lv m (h (Γ.over fs) p (hΓ.over fs)) (fun a p' s' h' => h' Γ p' rfl hΓ) (fun x p' s' h' => h' Γ p' rfl hΓ)
theorem sx_bind_wrap {α β : Type} {m : Sem α} {K : α → Sem β} {K' : β → Sem Fin} {H' : Value → Sem Fin} {gd : Bool → Bool} {lv : List Value → List Value}
    (h : wpAny M (A.over c fs) m (fun a s' => SegX M A c ((K a).wrap K' H' gd lv) fs s' P) (fun x s' => SegX M A c (H' x) fs s' P) s) : SegX M A c ((m >>= K).wrap K' H' gd lv) fs s P := by
  rw [Sem.bind_eq_wrap', Sem.wrap_wrap]; exact sx_wrap h
theorem sx_at {p' : Pos} {k : Unit → Sem Fin} (h : SegX M A c (k ()) fs s P) : SegX M A c (.at p' k) fs s P :=
  sx_wrap (m := standAt p') (K := k) (H := .raise) (gd := id) (lv := id) (wpAny_standAt h)
theorem sx_point {l : List Value} {k : Unit → Sem Fin} (h : SegX M A c (k ()) fs s P) : SegX M A c (.point l k) fs s P :=
  sx_wrap (m := point) (K := k) (H := .raise) (gd := id) (lv := fun _ => l) (wpAny_point h)
theorem sx_call {c' : Code} {h : Option Value} {g : Bool} {l : List Value} {k : Result → Sem Fin} (hc : ∀ p, SegX M A c' (M.den c') (.ret k h g l c p [] :: fs) s P) : SegX M A c (.call c' h g l k) fs s P := by
  rintro Γ p rfl hΓ
  refine elEEA (hc p (Γ.goto c') p rfl (hΓ.goto c')) fun e s' hr he => ?_
  exact ⟨e, s', runs_call_seg hr, he⟩
theorem sx_pop {k : Result → Sem Fin} {h : Option Value} {g : Bool} {l : List Value} {c₁ : Code} {p₁ : Pos} {kp} (r : Result) (hk : SegX M A c₁ (k r) fs s P) : SegX M A c (leafOf r) (.ret k h g l c₁ p₁ kp :: fs) s P := by
  rintro Γ p rfl hΓ
  refine elEEA (hk (Γ.goto c₁) p₁ rfl (hΓ.goto c₁)) fun e s' hr he => ?_
  exact ⟨e, s', Runs.pop r hr, he⟩
theorem sx_again {c' : Code} (hq : c'.quiet = true) (hc : SegX M A c' (M.den c') fs s P) : SegX M A c (.pure (.again c')) fs s P := by
  rintro Γ p rfl hΓ
  refine elEEA (hc (Γ.goto c') p rfl (hΓ.goto c')) fun e s' hr he => ?_
  exact ⟨e, s', Runs.head (c₁ := c') (fun _ _ x => .again hq x) hr, he⟩
theorem sx_end (r : Result) (h : P (.ret r) s) : SegX M A c (leafOf r) [] s P := by
  rintro Γ p rfl _
  exact ⟨.ret r, s, Runs.leaf r, rfl, h⟩
theorem sx_yield {v : Value} {g : Bool} {l : List Value} {k : Resume → Sem Fin} (hfs : splitAtGen fs = none) (hg : g = false) (hfg : fs.any Frame.guarded = false)
    (h : ∀ p, P (.susp v false l k c p fs) s) : SegX M A c (.yield v g l k) fs s P := by
  subst hg
  rintro Γ p rfl _
  exact ⟨_, s, Runs.yield' fs hfs, by simp [End.quiet, hfg], h p⟩
theorem wpAny_false {α : Type} {B : Around} {m : Sem α} {Q Q' : α → Shared → Prop} {E : Value → Shared → Prop} (h : wpAny M B m Q (fun _ _ => False) s) (hq : ∀ a s', Q a s' → Q' a s') : wpAny M B m Q' E s :=
  wpAny_mono h hq fun _ _ x => x.elim
variable {env : Env} {K : Flow → Sem Fin} {H : Value → Sem Fin} {gd : Bool → Bool} {lv : List Value → List Value}
theorem sx_execs_cons {st : Stmt} {rest : List Stmt}
    (h : SegX M A c ((exec st env).wrap (fun f => match f with | .next => (execs rest env).wrap K H gd lv | f => K f) H gd lv) fs s P) :
    SegX M A c ((execs (st :: rest) env).wrap K H gd lv) fs s P := by rw [execs_cons_wrap]; exact h
theorem sx_Expr_Yield {e : Expr} {ypos pos : Pos} (hfs : splitAtGen fs = none) (hgd : gd false = false) (hfg : fs.any Frame.guarded = false)
    (h : wpAny M (A.over c fs) (eval e env) (fun v s' => ∀ l k p, k (.send .none) = K .next → P (.susp v false l k c p fs) s') (fun _ _ => False) s)
    (hco : env.scope.isCoroutine = false) (hi : interactive env = false) :
    SegX M A c ((exec (.Expr (.Yield (some e) ypos) pos) env).wrap K H gd lv) fs s P := by
  rw [exec_Expr env _ pos hi rfl]
  show SegX M A c (.at pos fun _ => ((eval e env >>= fun v => (standAt ypos >>= fun _ => yieldOut env v)) >>= fun x =>
    dropValue (.Yield (some e) ypos) pos x).wrap K H gd lv) fs s P
  have hy : ∀ v, yieldOut env v = yieldValue v := fun v => by simp only [yieldOut, hco, Bool.false_eq_true, if_false]
  simp only [hy]
  refine sx_at ?_
  rw [Sem.bind_eq_wrap', Sem.bind_eq_wrap', Sem.wrap_wrap, Sem.wrap_wrap]
  refine sx_wrap (wpAny_false h (fun v s' h' => ?_))
  exact sx_at (sx_yield hfs hgd hfg fun p => h' _ _ p rfl)
theorem sx_if {t : Expr} {b o : List Stmt} {pos : Pos}
    (h : wpAny M (A.over c fs) (isTrue t env (eval t env)) (fun d s' => SegX M A c ((if d then execs b env else execs o env).wrap K H gd lv) fs s' P) (fun _ _ => False) s) :
    SegX M A c ((exec (.If t b o pos) env).wrap K H gd lv) fs s P := by
  rw [exec_If]
  refine sx_bind_wrap (wpAny_standAt (sx_bind_wrap (wpAny_false h fun d s' h' => ?_)))
  cases d <;> exact h'
end
section
variable {prog : Program} {w : World} {A : Around} {fs : List Frame} {s : Shared} {env : Env} {P : End → Shared → Prop}
noncomputable def genH (env : Env) : Value → Sem Fin := fun e => (leaving env e).wrap (fun _ => .raise e) .raise id id
noncomputable def genK : Flow → Sem Fin := fun f => .pure (.done (.ret (match f with | .ret v => v | _ => .none)))
theorem sx_func {body : List Stmt} (h : SegX (model prog w) A (.func body env) ((execs body env).wrap genK (genH env) id id) fs s P) :
    SegX (model prog w) A (.func body env) ((model prog w).den (.func body env)) fs s P := by
  refine (?_ : SegX _ A _ (.point [] fun _ => ((execs body env).onRaise (leaving env)) >>= _) fs s P)
  refine sx_point ?_
  rw [Sem.onRaise_eq_wrap, Sem.bind_eq_wrap', Sem.wrap_wrap]
  rw [Sem.wrap_congr (execs body env) _ _ (K' := genK) (H' := genH env) (fun f => by cases f <;> rfl)
    (fun e => by unfold genH; rw [Sem.bind_eq_wrap, Sem.wrap_wrap]; rfl)]
  exact h
noncomputable def forK (env : Env) (K : Flow → Sem Fin) (H : Value → Sem Fin) (gd : Bool → Bool) (lv : List Value → List Value) : Result → Sem Fin :=
  fun r => ((match r with | .ok f => (.pure f : Sem Flow) | .error e => .raise e).onRaise fun (x : Value) => do
        if (← field x 1) == Value.none then unsupported "frame.own-activation:exception-without-traceback"
        setFlight x env.frame).wrap K H gd lv
theorem sx_For {K : Flow → Sem Fin} {H : Value → Sem Fin} {gd : Bool → Bool} {lv : List Value → List Value} {c : Code} {target iter : Expr} {body : List Stmt} {pos : Pos}
    (hs : ∀ x, foldedSetIterable iter env x = pure x)
    (h : wpAny (model prog w) (A.over c fs) (eval iter env) (fun x s₁ => wpAny (model prog w) (A.over c fs) (pyIter x) (fun it s₂ => ∀ p,
      SegX (model prog w) A (.forLoop target it body [] env) ((model prog w).den (.forLoop target it body [] env)) (.ret (forK env K H gd lv) none (gd false) (lv []) c p [] :: fs) s₂ P) (fun _ _ => False) s₁) (fun _ _ => False) s) :
    SegX (model prog w) A c ((exec (.For target iter body [] pos) env).wrap K H gd lv) fs s P := by
  rw [exec_For]
  refine sx_bind_wrap (wpAny_standAt (sx_bind_wrap (wpAny_false h fun x s₁ h₁ => ?_)))
  refine sx_bind_wrap (wpAny_of_eq (hs x) (sx_bind_wrap (wpAny_standAt (sx_bind_wrap (wpAny_holding (wpAny_false h₁ fun it s₂ h₂ => ?_))))))
  exact sx_call h₂
noncomputable def turnH (env : Env) : Value → Sem Fin := fun e => (do noteFrame e env; theTreesLotGoes e : Sem Unit).wrap (fun _ => .raise e) .raise id id
noncomputable def turnK (target : Expr) (it : Value) (body : List Stmt) (env : Env) : Flow → Sem Fin := fun f => match f with
  | .next | .cont => .pure (.again (.forLoop target it body [] env))
  | .brk => .pure (.done .next)
  | .ret v => .pure (.done (.ret v))
theorem sx_turn {target : Expr} {it : Value} {body : List Stmt} {k : Result → Sem Fin} {h : Option Value} {g : Bool} {l : List Value} {c₁ : Code} {p₁ : Pos} {kp}
    (hn : wpAny (model prog w) (A.over (.forLoop target it body [] env) (.ret k h g l c₁ p₁ kp :: fs)) (pyNext it) (fun r s₁ => match r with
      | none => SegX (model prog w) A c₁ (k (.ok .next)) fs s₁ P
      | some v => wpAny (model prog w) (A.over (.forLoop target it body [] env) (.ret k h g l c₁ p₁ kp :: fs)) (letOwnedTupleGo target it v) (fun _ s₂ =>
          wpAny (model prog w) (A.over (.forLoop target it body [] env) (.ret k h g l c₁ p₁ kp :: fs)) (assign target env v) (fun _ s₃ =>
            SegX (model prog w) A (.forLoop target it body [] env) ((execs body env).wrap (turnK target it body env) (turnH env) id id) (.ret k h g l c₁ p₁ kp :: fs) s₃ P) (fun _ _ => False) s₂) (fun _ _ => False) s₁) (fun _ _ => False) s) :
    SegX (model prog w) A (.forLoop target it body [] env) ((model prog w).den (.forLoop target it body [] env)) (.ret k h g l c₁ p₁ kp :: fs) s P := by
  show SegX _ A _ ((forTurn target it body [] env).onRaise (fun x => do noteFrame x env; theTreesLotGoes x)) _ s P
  skip
  rw [Sem.onRaise_eq_wrap]
  refine sx_bind_wrap (wpAny_standAt (sx_bind_wrap (wpAny_onRaise (wpAny_mono hn (fun r s₁ h₁ => ?_) fun _ _ q => q.elim))))
  cases r with
  | none =>
    refine sx_again rfl ?_
    show SegX _ A _ (do return Fin.done (← (execs [] env).onRaise (fun x => do noteFrame x env; theTreesLotGoes x))) _ _ P
    exact sx_pop (.ok .next) h₁
  | some v =>
    refine sx_bind_wrap (wpAny_false h₁ fun _ s₂ h₂ => sx_bind_wrap (wpAny_false h₂ fun _ s₃ h₃ => ?_))
    rw [Sem.bind_eq_wrap', Sem.wrap_wrap]
    rw [Sem.wrap_congr (execs body env) _ _ (K' := turnK target it body env) (H' := turnH env) (fun f => by cases f <;> rfl)
      (fun e => by unfold turnH; first | exact Sem.bind_eq_wrap _ _ | (show (do noteFrame e env; theTreesLotGoes e : Sem Unit).bind (fun _ => .raise e) = _; rw [Sem.bind_eq_wrap]))]
    exact h₃
end
end Mine.Internal
end
section
set_option maxRecDepth 100000
set_option backward.match.sparseCases false
namespace Mine.Internal
open PySem PyProof.Rows
open PySem.W.X (SegX)
structure GKeep (pr : List Addr) (s₀ s : Shared) : Prop where
  keep : ∀ b o, b ∉ pr → s₀.heap.get? b = some o → s.heap.get? b = some o
  os : s.os = s₀.os
  gens : GK s₀.gens s.gens
theorem GKeep.refl (pr : List Addr) (s : Shared) : GKeep pr s s := ⟨fun _ _ _ e => e, rfl, .refl _⟩
theorem GKeep.step {pr X : List Addr} {s₀ s s' : Shared} (g : GKeep pr s₀ s) (hX : ∀ b ∈ X, b ∈ pr ∨ s₀.heap.get? b = none) (hk : ∀ b o, b ∉ X → s.heap.get? b = some o → s'.heap.get? b = some o) (ho : s'.os = s.os) (hg : GK s.gens s'.gens) : GKeep pr s₀ s' :=
  ⟨fun b o hb e => hk b o (fun hx => by
      rcases hX b hx with h | h
      · exact hb h
      · rw [h] at e; cases e) (g.keep b o hb e), ho.trans g.os, g.gens.trans hg⟩
noncomputable def GPost (M : Model) (A : Around) (h₀ : Heap) : List (Nat × List Nat) → List Addr → Shared → End → Shared → Prop
  | [], pr, s₀, e, s => e = .ret (.ok (.ret .none)) ∧ GKeep pr s₀ s
  | (i, ch) :: rem, pr, s₀, e, s => ∃ a k l c p fs, e = .susp (.ref a) false l k c p fs ∧ GKeep pr s₀ s ∧ (∃ its : List Value, IsTup s.heap a its.toArray ∧ Paired (VR h₀ []) its [.int i, .str ch]) ∧
      ∃ pr' : List Addr, (∀ b ∈ pr', b ∈ pr ∨ s₀.heap.get? b = none) ∧ (∀ b ∈ pr', ∃ o, s.heap.get? b = some o) ∧
        ∀ s'' : Shared, (∀ b o, h₀.get? b = some o → s''.heap.get? b = some o) → (∀ b ∈ pr', ∀ o, s.heap.get? b = some o → s''.heap.get? b = some o) → SegX M A c (k (.send .none)) fs s'' (GPost M A h₀ rem pr' s'')
noncomputable abbrev gR : Rec := recN TG 6
noncomputable abbrev gρ0 (x : List Nat) (p : Nat) (e : Bool) : Rho := [("addr", .str x), ("pos", .int p), ("escape", .bool e)]
noncomputable abbrev gρ (x : List Nat) (p : Nat) (e : Bool) (c : Nat) : Rho := [("addr", .str x), ("pos", .int p), ("escape", .bool e), ("ch", .str [c])]
section
variable {sc : Scope} {t : Bool} {x : List Nat} {p c : Nat} {e : Bool} {p1 p2 p3 p4 p5 : Pos}
theorem g_y1 : gR.ev ⟨sc, t⟩ (gρ x p e c) [] (.Tuple [.Name "pos" p1, .BinOp (.Constant (.str "\\") 0 p2) .Add (.Name "ch" p3) p4] 0 p5) = some (.ref 0, [.tup [.int p, .str [92, c]]]) := by kernel_rfl
theorem g_y2 : gR.ev ⟨sc, t⟩ (gρ x p e c) [] (.Tuple [.Name "pos" p1, .Name "ch" p3] 0 p5) = some (.ref 0, [.tup [.int p, .str [c]]]) := by kernel_rfl
theorem g_y3 : gR.ev ⟨sc, t⟩ (gρ0 x p e) [] (.Tuple [.Name "pos" p1, .Constant (.str "\\") 0 p2] 0 p5) = some (.ref 0, [.tup [.int p, .str [92]]]) := by kernel_rfl
theorem g_t1 : gR.tr ⟨sc, t⟩ (gρ x p e c) [] (.Name "escape" p1) = some (e, []) := by kernel_rfl
theorem g_t0 : gR.tr ⟨sc, t⟩ (gρ0 x p e) [] (.Name "escape" p1) = some (e, []) := by kernel_rfl
theorem g_t2 : gR.tr ⟨sc, t⟩ (gρ x p e c) [] (.Compare (.Name "ch" p1) [.Eq] [.Constant (.str "\\") 0 p2] p3) = some ([c] == [92], []) := by kernel_rfl
theorem g_upd {b : Bool} : upd (gρ x p e c) "escape" (.bool b) = gρ x p b c := by kernel_rfl
theorem g_set {q : Nat} : upd (upd (gρ0 x p e) "pos" (.int q)) "ch" (.str [c]) = gρ x q e c := by kernel_rfl
theorem lookup_app {r q : Rho} {y : Str} {v : PV} (h : r.lookup y = some v) : (r ++ q).lookup y = some v := by
  induction r with
  | nil => cases h
  | cons z r ih =>
    obtain ⟨n, u⟩ := z
    rw [List.cons_append, List.lookup_cons]
    rw [List.lookup_cons] at h
    split at h
    · exact h
    · exact ih h
end
theorem FrI.at {h₀ : Heap} {env : Env} {h h' : Heap} {ρ : Rho} {as : List Addr} (F : FrI h₀ env h as ρ) (kp : ∀ b ∈ faddrs env, ∀ o, h.get? b = some o → h'.get? b = some o) : FrI h₀ env h' as ρ := by
  have hc : ∀ x c, (x, c) ∈ env.cells → c ∈ faddrs env := fun x c h => List.mem_cons_of_mem _ (List.mem_map.mpr ⟨_, h, rfl⟩)
  refine ⟨F.fn, F.glb, F.blt, ?_, fun x p hx hk => ?_, F.nocd, F.kinds, F.own, fun x c h => ?_, F.apart, F.dict, F.offs⟩
  · refine elEA (F.ns) fun m hn hm => ?_
    exact ⟨m, hn.at' fun o e => kp _ (List.mem_cons_self ..) o e, hm⟩
  · refine elEEAA (F.cell x p hx hk) fun c v e pt57x1 hv => ?_
    obtain ⟨o, ho, hd⟩ := pt57x1
    exact ⟨c, v, e, ⟨o, kp c (hc x c (mem_of_lookup e)) o ho, hd⟩, hv⟩
  · refine elEEA (F.cells x c h) fun v o ho hd => ?_
    exact ⟨v, o, kp c (hc x c h) o ho, hd⟩
theorem inv_nil {h₀ h : Heap} (hb : ∀ b o, h₀.get? b = some o → h.get? b = some o) : Inv h₀ h [] [] :=
  ⟨hb, (fun _ h => nomatch h), List.Pairwise.nil, rfl, (fun n a po h => by simp at h)⟩
section
variable {prog : Program} {w : World} {h₀ : Heap} {k : Nat} {A : Around} {env : Env} {s : Shared}
structure GSt (h₀ : Heap) (env : Env) (x : List Nat) (tk : Tok) (E it : Addr) (i : Nat) (ρ : Rho) (h : Heap) : Prop where
  fr : FrI h₀ env h [] ρ
  base : ∀ b o, h₀.get? b = some o → h.get? b = some o
  en : ∃ old, IsEnum h E it i old
  si : h.IsStrIter it (strIterType ⟨x.toArray⟩) ⟨x.toArray⟩ tk i
structure GAp (h₀ : Heap) (env : Env) (E it : Addr) : Prop where
  cells : env.cells = []
  Eit : E ≠ it
  EC : E ≠ env.locals
  iC : it ≠ env.locals
  hE : h₀.get? E = none
  hi : h₀.get? it = none
theorem GAp.fad {E it : Addr} (a : GAp h₀ env E it) : faddrs env = [env.locals] := by unfold faddrs; rw [a.cells]; rfl
theorem GSt.at {x : List Nat} {tk : Tok} {E it : Addr} {i : Nat} {ρ : Rho} {h h' : Heap} (ap : GAp h₀ env E it) (g : GSt h₀ env x tk E it i ρ h) (hb : ∀ b o, h₀.get? b = some o → h'.get? b = some o) (kp : ∀ b ∈ [env.locals, E, it], ∀ o, h.get? b = some o → h'.get? b = some o) : GSt h₀ env x tk E it i ρ h' := by
  obtain ⟨old, he⟩ := g.en
  refine elEA (g.si) fun o ho r => ?_
  refine ⟨g.fr.at fun b hb' o e => kp b ?_ o e, hb, ⟨old, kp E (by simp) _ he⟩, ⟨o, kp it (by simp) o ho, r⟩⟩
  rw [ap.fad] at hb'
  rw [List.mem_singleton.mp hb']; simp
theorem GSt.live {x : List Nat} {tk : Tok} {E it : Addr} {i : Nat} {ρ : Rho} {h : Heap} (g : GSt h₀ env x tk E it i ρ h) : ∀ b ∈ [env.locals, E, it], ∃ o, h.get? b = some o := by
  intro b hb
  simp only [List.mem_cons, List.not_mem_nil, or_false] at hb
  rcases hb with rfl | rfl | rfl
  · obtain ⟨m, ⟨o, _, _, ho, _⟩, _⟩ := g.fr.ns; exact ⟨o, ho⟩
  · obtain ⟨old, he⟩ := g.en; exact ⟨_, he⟩
  · obtain ⟨o, ho, _⟩ := g.si; exact ⟨o, ho⟩
theorem GSt.weak {x : List Nat} {tk : Tok} {E it : Addr} {i : Nat} {ρ ρ' : Rho} {h : Heap} (g : GSt h₀ env x tk E it i ρ' h) (hw : ∀ y p, ρ.lookup y = some p → ρ'.lookup y = some p) : GSt h₀ env x tk E it i ρ h :=
  ⟨let F := g.fr; ⟨F.fn, F.glb, F.blt, let ⟨m, hn, hm⟩ := F.ns; ⟨m, hn, fun x p hx => hm x p (hw x p hx)⟩, fun x p hx => F.cell x p (hw x p hx), F.nocd, fun x p hx => F.kinds x p (hw x p hx), F.own, F.cells, F.apart, F.dict, F.offs⟩, g.base, g.en, g.si⟩
theorem grow_all {X : List Addr} {s s' : Shared} {as' : List Addr} (g : Grow X s [] s' as') (hX : ∀ b ∈ X, False) : ∀ b o, s.heap.get? b = some o → s'.heap.get? b = some o :=
  fun b o e => g.keep b o (fun h => hX b h) (fun h => nomatch h) e
structure GS (h₀ : Heap) (env : Env) (X : List Addr) (ρ : Rho) (St : Heap → Prop) : Prop where
  fr : ∀ h, St h → FrI h₀ env h [] ρ
  base : ∀ h, St h → ∀ b o, h₀.get? b = some o → h.get? b = some o
  live : ∀ h, St h → ∀ b ∈ X, ∃ o, h.get? b = some o
  at' : ∀ h h', St h → (∀ b o, h₀.get? b = some o → h'.get? b = some o) → (∀ b ∈ X, ∀ o, h.get? b = some o → h'.get? b = some o) → St h'
theorem GSt.gs {x : List Nat} {tk : Tok} {E it : Addr} {i : Nat} {ρ : Rho} (ap : GAp h₀ env E it) : GS h₀ env [env.locals, E, it] ρ (GSt h₀ env x tk E it i ρ) :=
  ⟨fun _ g => g.fr, fun _ g => g.base, fun _ g => g.live, fun _ _ g hb kp => g.at ap hb kp⟩
noncomputable def GS0 (h₀ : Heap) (env : Env) (ρ : Rho) (h : Heap) : Prop := FrI h₀ env h [] ρ ∧ ∀ b o, h₀.get? b = some o → h.get? b = some o
theorem GS0.gs {ρ : Rho} (hc : env.cells = []) : GS h₀ env [env.locals] ρ (GS0 h₀ env ρ) :=
  ⟨fun _ g => g.1, fun _ g => g.2, fun _ g b hb => by
    rw [List.mem_singleton.mp hb]
    obtain ⟨m, ⟨o, _, _, ho, _⟩, _⟩ := g.1.ns; exact ⟨o, ho⟩, fun _ _ g hb kp => ⟨g.1.at fun b hb' o e => kp b (by unfold faddrs at hb'; rw [hc] at hb'; exact hb') o e, hb⟩⟩
theorem ev_keep {e : Expr} {B : Around} {ρ : Rho} {p : PV} {σ' : Sto} {Xs : List Addr} {St : Heap → Prop} (S : Sd (fun _ => True) prog w h₀ k gR) (hA : AOk k B) (gs : GS h₀ env Xs ρ St) (g : St s.heap)
    (he : gR.ev ⟨env.scope, false⟩ ρ [] e = some (p, σ')) :
    wpAny (model prog w) B (eval e env) (fun v s' => (∀ b o, s.heap.get? b = some o → s'.heap.get? b = some o) ∧ St s'.heap ∧ EP h₀ s [] p σ' v s') (fun _ _ => False) s :=
  wpAny_mono (S.ev hA (gs.fr _ g) (inv_nil (gs.base _ g)) he) (fun v s' h => by
    refine elEAA (id h) fun as' gr I hv => ?_
    have ka := grow_all gr fun b hb => nomatch hb
    exact ⟨ka, gs.at' _ _ g (fun b o e => ka b o (gs.base _ g b o e)) (fun b _ o e => ka b o e), h⟩) fun _ _ q => q
theorem tr_keep {e : Expr} {B : Around} {ρ : Rho} {b : Bool} {Xs : List Addr} {St : Heap → Prop} (S : Sd (fun _ => True) prog w h₀ k gR) (hA : AOk k B) (gs : GS h₀ env Xs ρ St) (g : St s.heap)
    (he : gR.tr ⟨env.scope, false⟩ ρ [] e = some (b, [])) :
    wpAny (model prog w) B (isTrue e env (eval e env)) (fun v s' => v = b ∧ (∀ b o, s.heap.get? b = some o → s'.heap.get? b = some o) ∧ s'.os = s.os ∧ GK s.gens s'.gens ∧ St s'.heap) (fun _ _ => False) s :=
  wpAny_mono (S.tr hA (gs.fr _ g) (inv_nil (gs.base _ g)) he) (fun v s' h => by
    refine elEAA (id h) fun as' gr I hv => ?_
    have ka := grow_all gr fun b hb => nomatch hb
    exact ⟨hv, ka, gr.os, gr.gens, gs.at' _ _ g (fun b o e => ka b o (gs.base _ g b o e)) (fun b _ o e => ka b o e)⟩) fun _ _ q => q
end
end Mine.Internal
end
section
set_option maxRecDepth 100000
namespace Mine.Internal
open PySem PyProof.Rows
open PySem.W.X (SegX)
theorem draws_str {prog : Program} {w : World} {A : Around} (hh : A.handled = none) (it : Addr) (x : Str) (t : Tok) :
    Draws prog w A it [it] x.cps.size (fun i v => ∃ c u, x.cps[i]? = some c ∧ v = .str ⟨#[c]⟩ u) (fun i h => h.IsStrIter it (strIterType x) x t i) := by
  by_cases ha : x.cps.all (· < 128) = true
  · have : strIterType x = "str_ascii_iterator" := by simp [strIterType, ha]
    rw [this]; exact Draws.strAscii hh it x t
  · have : strIterType x = "str_iterator" := by simp [strIterType, ha]
    rw [this]; exact Draws.strWide hh it x t
structure GEx (cx : Cx) (t1 t2 t3 y1 y2 y3 : Expr) (a0 a1 : Stmt) : Prop where
  hy1 : ∀ x p e c, gR.ev cx (gρ x p e c) [] y1 = some (.ref 0, [.tup [.int p, .str [92, c]]])
  hy2 : ∀ x p e c, gR.ev cx (gρ x p e c) [] y2 = some (.ref 0, [.tup [.int p, .str [c]]])
  hy3 : ∀ x p e, gR.ev cx (gρ0 x p e) [] y3 = some (.ref 0, [.tup [.int p, .str [92]]])
  ht1 : ∀ x p e c, gR.tr cx (gρ x p e c) [] t1 = some (e, [])
  ht2 : ∀ x p e c, gR.tr cx (gρ x p e c) [] t2 = some ([c] == [92], [])
  ht3 : ∀ x p e, gR.tr cx (gρ0 x p e) [] t3 = some (e, [])
  ha0 : ∀ x p e c, gR.ex cx (gρ x p e c) [] a0 = some (.next, gρ x p false c, [])
  ha1 : ∀ x p e c, gR.ex cx (gρ x p e c) [] a1 = some (.next, gρ x p true c, [])
section
variable {prog : Program} {w : World} {h₀ : Heap} {k : Nat} {A : Around} {env : Env} {s : Shared}
theorem yield_post {e : Expr} {B A' : Around} {ρ : Rho} {ch : List Nat} {Xs : List Addr} {St : Heap → Prop} {j : Nat} {pr : List Addr} {s₀ : Shared} {M : Model} {rem : List (Nat × List Nat)} {c : Code} {fs : List Frame} {Tn : Sem Fin}
    (S : Sd (fun _ => True) prog w h₀ k gR) (hA : AOk k B) (gs : GS h₀ env Xs ρ St) (g : St s.heap) (gk : GKeep pr s₀ s) (hpr : ∀ b ∈ Xs, b ∈ pr ∨ s₀.heap.get? b = none)
    (he : gR.ev ⟨env.scope, false⟩ ρ [] e = some (.ref 0, [.tup [.int j, .str ch]]))
    (next : ∀ s'', St s''.heap → SegX M A' c Tn fs s'' (GPost M A' h₀ rem Xs s'')) :
    wpAny (model prog w) B (eval e env) (fun v s' => ∀ l kk p, kk (.send .none) = Tn → GPost M A' h₀ ((j, ch) :: rem) pr s₀ (.susp v false l kk c p fs) s') (fun _ _ => False) s := by
  refine wpAny_mono (ev_keep S hA gs g he) (fun v s' h => ?_) fun _ _ q => q
  obtain ⟨ka, g', as', gr, I, a, rfl, ha⟩ := h
  intro l kk p hkk
  have gk' : GKeep pr s₀ s' := gk.step (X := []) (fun b hb => nomatch hb) (fun b o _ e => ka b o e) gr.os gr.gens
  refine ⟨a, kk, l, c, p, fs, rfl, gk', ?_, Xs, hpr, fun b hb => gs.live _ g' b hb, fun s'' hb hp => ?_⟩
  · refine elEA (I.obj 0 a _ ha rfl) fun its hit hpv => ?_
    cases hpv with
    | cons h1 r => cases r with
      | cons h2 r => cases r; exact ⟨_, hit, .cons h1 (.cons h2 .nil)⟩
  · refine hkk.symm ▸ ?_
    exact next s'' (gs.at' _ _ g' hb hp)
theorem gen_loop {x : List Nat} {tk : Tok} {E it : Addr} {t1 t2 t3 y1 y2 y3 : Expr} {a0 a1 : Stmt} {p1 p2 p3 q1 q2 q3 q4 q5 q6 q7 q8 q9 : Pos} {kk : Nat} {p₁ : Pos}
    (S : Sd (fun _ => True) prog w h₀ k gR) (X : Xs (fun _ => True) prog w h₀ k gR) (G : GEx ⟨env.scope, false⟩ t1 t2 t3 y1 y2 y3 a0 a1) (ap : GAp h₀ env E it) (hco : env.scope.isCoroutine = false)
    (hpos : env.scope.names.lookup (Str.ofString "pos") = some .local) (hch : env.scope.names.lookup (Str.ofString "ch") = some .local)
    {tgt : Expr} (htgt : tgt = .Tuple [.Name "pos" p1, .Name "ch" p2] kk p3)
    {body : List Stmt} (hbody : body = [.If t1 [.Expr (.Yield (some y1) q1) q2, a0] [.If t2 [a1] [.Expr (.Yield (some y2) q3) q4] q5] q6])
    {fK : Flow → Sem Fin} (hK : fK = fun f => match f with | .next => (execs [.If t3 [.Expr (.Yield (some y3) q7) q8] [] q9] env).wrap genK (genH env) id id | f => genK f)
    {F₁ : Frame} {bd : List Stmt} (hF : F₁ = .ret (forK env fK (genH env) id id) none false [] (.func bd env) p₁ [])
    (hA : AOk k (A.over (.forLoop tgt (.ref E) body [] env) [F₁])) (hA0 : AOk k (A.over (.func bd env) [])) :
    ∀ (r : List Nat) (i : Nat) (e : Bool) (s s₀ : Shared) (pr : List Addr), i + r.length = x.length → x.drop i = r → GSt h₀ env x tk E it i (gρ0 x (i - 1) e) s.heap → GKeep pr s₀ s → (∀ b ∈ [env.locals, E, it], b ∈ pr ∨ s₀.heap.get? b = none) →
      SegX (model prog w) A (.forLoop tgt (.ref E) body [] env) ((model prog w).den (.forLoop tgt (.ref E) body [] env)) [F₁] s (GPost (model prog w) A h₀ (esc i e r) pr s₀) := by
  intro r
  induction r with
  | nil =>
    intro i e s s₀ pr hi hr g gk hpr
    subst hF
    have hin : interactive env = false := by
      unfold interactive
      rw [g.fr.fn]
      first | rfl | simp
    refine sx_turn ?_
    obtain ⟨old, he⟩ := g.en
    have hsz : i = (⟨x.toArray⟩ : Str).cps.size := by simpa using hi
    refine wpAny_pyNext_enum_endD (n := (⟨x.toArray⟩ : Str).cps.size) (draws_str (by exact hA.1) it ⟨x.toArray⟩ tk) he (hsz ▸ g.si) fun h' hx => ?_
    have kp : ∀ b o, b ∉ [it] → s.heap.get? b = some o → h'.get? b = some o := fun b o hb e => hx b o (fun q => hb (by rw [q]; simp)) e
    have nb : ∀ b o, h₀.get? b = some o → h'.get? b = some o := fun b o e => kp b o (fun q => by rw [List.mem_singleton.mp q, ap.hi] at e; cases e) (g.base b o e)
    have g0 : GS0 h₀ env (gρ0 x (i - 1) e) h' := ⟨g.fr.at fun b hb o e => kp b o (fun q => by
      rw [ap.fad, List.mem_singleton] at hb
      rw [List.mem_singleton.mp q] at hb; exact ap.iC hb) e, nb⟩
    have gk' : GKeep pr s₀ { s with heap := h' } := gk.step (X := [it]) (fun b hb => hpr b (by rw [List.mem_singleton.mp hb]; simp)) kp rfl (.refl _)
    have hC : ∀ b ∈ [env.locals], b ∈ pr ∨ s₀.heap.get? b = none := fun b hb => hpr b (by rw [List.mem_singleton.mp hb]; simp)
    refine (?_ : SegX _ A _ (fK .next) [] _ _)
    refine hK.symm ▸ ?_
    refine sx_execs_cons (sx_if (wpAny_false (tr_keep (s := { s with heap := h' }) S hA0 (GS0.gs ap.cells) g0 (G.ht3 x (i - 1) e)) fun d s₁ h₁ => ?_))
    refine elAAAA h₁ fun eq80x1 k₁ o₁ q₁ g₁ => ?_
    try clear h₁
    subst eq80x1
    have gk₁ : GKeep pr s₀ s₁ := gk'.step (X := []) (fun b hb => nomatch hb) (fun b o _ e => k₁ b o e) o₁ q₁
    cases d with
    | false => exact sx_end (.ok (.ret .none)) ⟨rfl, gk₁⟩
    | true =>
      refine sx_execs_cons (sx_Expr_Yield rfl rfl rfl (yield_post (rem := []) S hA0 (GS0.gs ap.cells) g₁ gk₁ hC (G.hy3 x (i - 1) true) fun s'' _ => ?_) hco hin)
      exact sx_end (.ok (.ret .none)) ⟨rfl, .refl _ _⟩
  | cons c r ih =>
    intro i e s s₀ pr hi hr g gk hpr
    have hin : interactive env = false := by
      unfold interactive
      rw [g.fr.fn]
      first | rfl | simp
    have hlen : i < x.length := by simp at hi; omega
    have hxi : x[i]? = some c := by
      have : (x.drop i)[0]? = some c := by rw [hr]; rfl
      simpa using this
    have hdrop : x.drop (i + 1) = r := by
      have : (x.drop i).drop 1 = r := by rw [hr]; rfl
      simpa using this
    have hlen' : i + 1 + r.length = x.length := by simp at hi; omega
    have hF' := hF
    have htgt' := htgt
    subst hF
    refine sx_turn ?_
    obtain ⟨old, he⟩ := g.en
    refine wpAny_pyNext_enum_itemD (n := (⟨x.toArray⟩ : Str).cps.size) (draws_str (by exact hA.1) it ⟨x.toArray⟩ tk) he g.si (by simpa using hlen) ap.Eit (by simpa using ap.Eit) fun v h₁ tk₁ hv ho₁ hs₁ hT₁ hz₁ hk₁ => ?_
    refine elEEA hv fun c' u hc' eq107x2 => ?_
    try clear hv
    subst eq107x2
    have hcc : c' = c := by
      have : x[i]? = some c' := by simpa using hc'
      rw [hxi] at this; cases this; rfl
    subst hcc
    skip
    refine htgt.symm ▸ ?_
    refine wpAny_letOwnedTupleGo_enum (s := { s with heap := h₁, toks := tk₁ + 1 }) ho₁ fun h₂ he₂ hs₂ => ?_
    replace hs₂ : Heap.SameBut E h₁ h₂ := hs₂
    have heH : E < s.heap.objs.size := Heap.lt_size he
    have hT₂ : h₂.IsTuple s.heap.objs.size #[.int i tk₁, .str ⟨#[c']⟩ u] := ⟨_, (hs₂.2 _ (Nat.ne_of_gt heH)).trans hT₁, rfl, _, rfl⟩
    refine wpAny_assign_Tuple (s := { s with heap := h₂, toks := tk₁ + 1 }) hA.1 hT₂ rfl rfl fun h₃ hx₃ => ?_
    replace hx₃ : Heap.ExtBut h₂.objs.size h₂ h₃ := hx₃
    have up₃ : ∀ b o, h₂.get? b = some o → h₃.get? b = some o := fun b o e => hx₃ b o (Nat.ne_of_lt (Heap.lt_size e)) e
    have kp : ∀ b o, b ∉ [E, it] → s.heap.get? b = some o → h₃.get? b = some o := fun b o hb e => by
      simp only [List.mem_cons, List.not_mem_nil, or_false, not_or] at hb
      exact up₃ b o ((hs₂.2 b hb.1).trans (hk₁ b o hb.1 hb.2 e))
    have nb : ∀ b o, h₀.get? b = some o → h₃.get? b = some o := fun b o e => kp b o (fun q => by
      simp only [List.mem_cons, List.not_mem_nil, or_false] at q
      rcases q with rfl | rfl
      · rw [ap.hE] at e; cases e
      · rw [ap.hi] at e; cases e) (g.base b o e)
    have F₃ : FrI h₀ env h₃ [] (gρ0 x (i - 1) e) := g.fr.at fun b hb o e => kp b o (fun q => by
      rw [ap.fad, List.mem_singleton] at hb
      simp only [List.mem_cons, List.not_mem_nil, or_false] at q
      rcases q with q | q
      · exact ap.EC (q ▸ hb)
      · exact ap.iC (q ▸ hb)) e
    have en₃ : IsEnum h₃ E it ((i + 1 : Nat) : Int) (.str ⟨#[c']⟩ u) := by
      have : ((i + 1 : Nat) : Int) = (i : Int) + 1 := by push_cast; rfl
      rw [this]; exact up₃ _ _ he₂
    have si₃ : h₃.IsStrIter it (strIterType ⟨x.toArray⟩) ⟨x.toArray⟩ tk (i + 1) := by
      refine elEA hs₁ fun o ho r => ?_
      try clear hs₁
      exact ⟨o, up₃ _ _ ((hs₂.2 it (Ne.symm ap.Eit)).trans ho), r⟩
    show wpAny _ _ (do holding [Value.str ⟨#[c']⟩ u] (assign (.Name "pos" p1) env (.int i tk₁)); assignInOrder [assign (.Name "ch" p2) env] [Value.str ⟨#[c']⟩ u]) _ _ _
    refine wpAny_bind (wpAny_holding (wpAny_assign_Name (wpAny_mono (store_sound (p := .int i) (s := { s with heap := h₃, toks := tk₁ + 1 }) F₃ (inv_nil nb) (.inl hpos) vr_int) (fun _ s₄ h₄ => ?_) fun _ _ q => q)))
    refine elAA h₄ fun g₄ I₄ F₄ => ?_
    try clear h₄
    show wpAny _ _ (do holding [] (assign (.Name "ch" p2) env (.str ⟨#[c']⟩ u)); pure ()) _ _ _
    refine wpAny_bind (wpAny_holding (wpAny_assign_Name (wpAny_mono (store_sound (p := .str [c']) F₄ I₄ (.inl hch) ⟨u, rfl⟩) (fun _ s₅ h₅ => wpAny_pure ?_) fun _ _ q => q)))
    refine elAA h₅ fun g₅ I₅ F₅ => ?_
    try clear h₅
    rw [g_set] at F₅
    have up₅ : ∀ b o, b ≠ env.locals → h₃.get? b = some o → s₅.heap.get? b = some o := fun b o hb e => by
      have hb' : b ∉ faddrs env := by rw [ap.fad]; simpa using hb
      exact g₅.keep b o hb' (fun q => nomatch q) (g₄.keep b o hb' (fun q => nomatch q) e)
    have g₆ : GSt h₀ env x tk E it (i + 1) (gρ x i e c') s₅.heap := ⟨F₅, I₅.base, ⟨_, up₅ _ _ ap.EC en₃⟩, let ⟨o, ho, r⟩ := si₃; ⟨o, up₅ _ _ ap.iC ho, r⟩⟩
    have gk₆ : GKeep pr s₀ s₅ := gk.step (X := [env.locals, E, it]) hpr (fun b o hb e => by
      simp only [List.mem_cons, List.not_mem_nil, or_false, not_or] at hb
      exact up₅ b o hb.1 (kp b o (by simp [hb.2.1, hb.2.2]) e)) (g₅.os.trans g₄.os) ((show GK s.gens s₄.gens from g₄.gens).trans g₅.gens)
    clear g₄ g₅ F₄ I₄ F₃ en₃ si₃ up₅ up₃ kp nb hk₁ hs₁ hs₂ hx₃ ho₁ he₂ hT₁ hT₂ hz₁
    have weak : ∀ {b : Bool} y p, (gρ0 x i b).lookup y = some p → (gρ x i b c').lookup y = some p := fun {b} y p hy => lookup_app (q := [("ch", .str [c'])]) hy
    have again : ∀ (K : Flow → Sem Fin), K .next = .pure (.again (.forLoop tgt (.ref E) body [] env)) → ∀ (b : Bool) (a : Stmt) (e' : Bool) (s₇ s₀' : Shared) (pr' : List Addr), gR.ex ⟨env.scope, false⟩ (gρ x i e' c') [] a = some (.next, gρ x i b c', []) → GSt h₀ env x tk E it (i + 1) (gρ x i e' c') s₇.heap → GKeep pr' s₀' s₇ →
        (∀ b ∈ [env.locals, E, it], b ∈ pr' ∨ s₀'.heap.get? b = none) →
        SegX (model prog w) A (.forLoop tgt (.ref E) body [] env) ((execs [a] env).wrap K (turnH env) id id) [.ret (forK env fK (genH env) id id) none false [] (.func bd env) p₁ []] s₇ (GPost (model prog w) A h₀ (esc (i + 1) b r) pr' s₀') := by
      intro K hKn b a e' s₇ s₀' pr' ha g₇ gk₇ hpr₇
      refine sx_execs_cons (sx_wrap (wpAny_false (wpP_to_any (X hA topF g₇.fr (inv_nil g₇.base) ha)) fun f s₈ h₈ => ?_))
      refine elEAAA h₈ fun as₈ gr I₈ F₈ hf => ?_
      try clear h₈
      have : as₈ = [] := List.length_eq_zero_iff.mp I₈.len
      subst this
      cases f with
      | next =>
        have up₈ : ∀ b o, b ≠ env.locals → s₇.heap.get? b = some o → s₈.heap.get? b = some o := fun b o hb e => gr.keep b o (by rw [ap.fad]; simpa using hb) (fun q => nomatch q) e
        obtain ⟨old₇, en₇⟩ := g₇.en
        refine elEA (g₇.si) fun o₇ ho₇ r₇ => ?_
        have g₈ : GSt h₀ env x tk E it (i + 1) (gρ x i b c') s₈.heap := ⟨F₈, I₈.base, ⟨_, up₈ _ _ ap.EC en₇⟩, ⟨o₇, up₈ _ _ ap.iC ho₇, r₇⟩⟩
        have gk₈ : GKeep pr' s₀' s₈ := gk₇.step (X := [env.locals]) (fun b hb => hpr₇ b (by rw [List.mem_singleton.mp hb]; simp)) (fun b o hb e => up₈ b o (by simpa using hb) e) gr.os gr.gens
        refine (?_ : SegX _ A _ (K .next) _ _ _)
        refine hKn.symm ▸ ?_
        exact sx_again rfl (ih (i + 1) b s₈ s₀' pr' hlen' hdrop (g₈.weak weak) gk₈ hpr₇)
      | _ => exact hf.elim
    refine htgt ▸ ?_
    have hb2 : execs body env = execs [.If t1 [.Expr (.Yield (some y1) q1) q2, a0] [.If t2 [a1] [.Expr (.Yield (some y2) q3) q4] q5] q6] env := by rw [hbody]
    refine hb2.symm ▸ ?_
    refine sx_execs_cons (sx_if (wpAny_false (tr_keep S hA (GSt.gs ap) g₆ (G.ht1 x i e c')) fun d s₇ h₇ => ?_))
    refine elAAAA h₇ fun eq181x3 k₇ o₇ q₇ g₇ => ?_
    try clear h₇
    subst eq181x3
    have gk₇ : GKeep pr s₀ s₇ := gk₆.step (X := []) (fun b hb => nomatch hb) (fun b o _ e => k₇ b o e) o₇ q₇
    cases d with
    | true =>
      have hesc : esc i true (c' :: r) = (i, [92, c']) :: esc (i + 1) false r := rfl
      refine hesc.symm ▸ ?_
      refine sx_execs_cons (sx_Expr_Yield rfl rfl rfl (yield_post S hA (GSt.gs ap) g₇ gk₇ hpr (G.hy1 x i true c') fun s'' g'' => ?_) hco hin)
      exact again _ rfl false a0 true s'' s'' _ (G.ha0 x i true c') g'' (.refl _ _) fun b hb => .inl hb
    | false =>
      refine sx_execs_cons (sx_if (wpAny_false (tr_keep S hA (GSt.gs ap) g₇ (G.ht2 x i false c')) fun d s₈ h₈ => ?_))
      refine elAAAA h₈ fun hd k₈ o₈ q₈ g₈ => ?_
      try clear h₈
      have gk₈ : GKeep pr s₀ s₈ := gk₇.step (X := []) (fun b hb => nomatch hb) (fun b o _ e => k₈ b o e) o₈ q₈
      cases d with
      | true =>
        have hc : c' = 92 := by simpa using hd.symm
        have hesc : esc i false (c' :: r) = esc (i + 1) true r := by rw [hc]; rfl
        refine hesc.symm ▸ ?_
        exact again _ rfl true a1 false s₈ s₀ pr (G.ha1 x i false c') g₈ gk₈ hpr
      | false =>
        have hc : c' ≠ 92 := by intro q; rw [q] at hd; exact absurd hd (by decide)
        have hesc : esc i false (c' :: r) = (i, [c']) :: esc (i + 1) false r := by simp [esc, hc]
        refine hesc.symm ▸ ?_
        refine sx_execs_cons (sx_Expr_Yield rfl rfl rfl (yield_post S hA (GSt.gs ap) g₈ gk₈ hpr (G.hy2 x i false c') fun s'' g'' => ?_) hco hin)
        exact sx_again rfl (ih (i + 1) false s'' s'' _ hlen' hdrop (g''.weak weak) (.refl _ _) fun b hb => .inl hb)
end
end Mine.Internal
end
section
set_option maxRecDepth 100000
namespace Mine.Internal
open PySem PyProof.Rows
open PySem.W.X (SegX)
inductive GForm (sc : Scope) (bd : List Stmt) : Prop
  | mk (t1 t2 t3 y1 y2 y3 : Expr) (a0 a1 s1 s2 : Stmt) (p1 p2 p3 q1 q2 q3 q4 q5 q6 q7 q8 q9 pf pn pc pp : Pos) (kk : Nat)
    (hbd : bd = [s1, s2, .For (.Tuple [.Name "pos" p1, .Name "ch" p2] kk p3) (.Call (.Name "enumerate" pf) [.Name "addr" pn] [] pc)
      [.If t1 [.Expr (.Yield (some y1) q1) q2, a0] [.If t2 [a1] [.Expr (.Yield (some y2) q3) q4] q5] q6] [] pp, .If t3 [.Expr (.Yield (some y3) q7) q8] [] q9])
    (G : GEx ⟨sc, false⟩ t1 t2 t3 y1 y2 y3 a0 a1) (hs1 : ∀ x : List Nat, gR.ex ⟨sc, false⟩ [("addr", .str x)] [] s1 = some (Fl.next, ([("addr", .str x), ("pos", .int 0)] : Rho), []))
    (hs2 : ∀ x : List Nat, gR.ex ⟨sc, false⟩ [("addr", .str x), ("pos", .int 0)] [] s2 = some (Fl.next, gρ0 x 0 false, [])) : GForm sc bd
structure GTx (sc : Scope) (bd : List Stmt) : Prop where
  form : GForm sc bd
  co : sc.isCoroutine = false
  pos : sc.names.lookup (Str.ofString "pos") = some .local
  ch : sc.names.lookup (Str.ofString "ch") = some .local
  en : sc.names.lookup (Str.ofString "enumerate") = some .globalImplicit
section
variable {prog : Program} {w : World} {h₀ : Heap} {mg mb : Str → Option Value} {k : Nat} {A : Around} {env : Env} {s : Shared}
theorem aok_func {bd : List Stmt} (hA : AOk (k + 1) A) : AOk k (A.over (.func bd env) []) :=
  ⟨hA.1, by show A.depth + 0 + 1 + k < 990; have := hA.2.1; omega, by show A.units + 0 + 3 + 10 * k < 9800; have := hA.2.2; omega⟩
theorem aok_loop {bd body : List Stmt} {tgt : Expr} {it : Value} {K : Result → Sem Fin} {p : Pos} (hA : AOk (k + 1) A) : AOk k (A.over (.forLoop tgt it body [] env) [.ret K none false [] (.func bd env) p []]) :=
  ⟨by show (marksOver [.ret K none false [] (.func bd env) p []] (A.handled, A.handled)).1 = none; rw [hA.1]; rfl, by show A.depth + (1 + 0) + 0 + k < 990; have := hA.2.1; omega, by show A.units + (3 + 0) + 0 + 10 * k < 9800; have := hA.2.2; omega⟩
noncomputable def Alv (s s' : Shared) : Prop := ∀ b o, s.heap.get? b = some o → ∃ o', s'.heap.get? b = some o'
theorem gen_start {sc : Scope} {bd : List Stmt} {x : List Nat} (T : GTx sc bd) (hsc : env.scope = sc) (hcells : env.cells = []) (B : Bs h₀ mg mb)
    (S : Sd (fun _ => True) prog w h₀ k gR) (X : Xs (fun _ => True) prog w h₀ k gR) (hA : AOk (k + 1) A) (g : GS0 h₀ env [("addr", .str x)] s.heap) :
    SegX (model prog w) A (.func bd env) ((model prog w).den (.func bd env)) [] s (GPost (model prog w) A h₀ (esc 0 false x) [env.locals] s) := by
  obtain ⟨⟨t1, t2, t3, y1, y2, y3, a0, a1, s1, s2, p1, p2, p3, q1, q2, q3, q4, q5, q6, q7, q8, q9, pf, pn, pc, pp, kk, hbd, G, hs1, hs2⟩, hco, hpos, hch, hen'⟩ := T
  subst hsc
  refine sx_func ?_
  have short : ∀ {st : Stmt} {rest : List Stmt} {ρ ρ' : Rho} {s' : Shared} {K : Flow → Sem Fin}, gR.ex ⟨env.scope, false⟩ ρ [] st = some (.next, ρ', []) → GS0 h₀ env ρ s'.heap → GKeep [env.locals] s s' → Alv s s' →
      (∀ s'', GS0 h₀ env ρ' s''.heap → GKeep [env.locals] s s'' → Alv s s'' → SegX (model prog w) A (.func bd env) ((execs rest env).wrap K (genH env) id id) [] s'' (GPost (model prog w) A h₀ (esc 0 false x) [env.locals] s)) →
      SegX (model prog w) A (.func bd env) ((execs (st :: rest) env).wrap K (genH env) id id) [] s' (GPost (model prog w) A h₀ (esc 0 false x) [env.locals] s) := by
    intro st rest ρ ρ' s' K hst g' gk' al' h
    refine sx_execs_cons (sx_wrap (wpAny_false (wpP_to_any (X (aok_func hA) topF g'.1 (inv_nil g'.2) hst)) fun f s₁ h₁ => ?_))
    refine elEAAA h₁ fun as₁ gr I₁ F₁ hf => ?_
    try clear h₁
    have : as₁ = [] := List.length_eq_zero_iff.mp I₁.len
    subst this
    cases f with
    | next => exact h s₁ ⟨F₁, I₁.base⟩ (gk'.step (X := [env.locals]) (fun b hb => .inl hb) (fun b o hb e => gr.keep b o (by unfold faddrs; rw [hcells]; exact hb) (fun q => nomatch q) e) gr.os gr.gens) fun b o e => let ⟨o', e'⟩ := al' b o e; gr.live b o' e'
    | _ => exact hf.elim
  have hb2 : execs bd env = execs [s1, s2, .For (.Tuple [.Name "pos" p1, .Name "ch" p2] kk p3) (.Call (.Name "enumerate" pf) [.Name "addr" pn] [] pc)
      [.If t1 [.Expr (.Yield (some y1) q1) q2, a0] [.If t2 [a1] [.Expr (.Yield (some y2) q3) q4] q5] q6] [] pp, .If t3 [.Expr (.Yield (some y3) q7) q8] [] q9] env := by rw [← hbd]
  refine hb2.symm ▸ ?_
  refine short (hs1 x) g (.refl _ _) (fun b o e => ⟨o, e⟩) fun s₁ g₁ gk₁ al₁ => short (hs2 x) g₁ gk₁ al₁ fun s₂ g₂ gk₂ al₂ => ?_
  refine sx_execs_cons (sx_For (fun _ => rfl) ?_)
  have hA0 : AOk k (A.over (.func bd env) []) := aok_func hA
  refine wpP_to_any (callNameP (global_sound B g₂.1 (inv_nil g₂.2) (by decide) hen' (.inr B.en) (callWithP_val rfl rfl ?_)))
  refine splicedP_cons (wpP_any (wpAny_mono (S.ev (t := false) (p := .str x) (σ' := []) hA0 g₂.1 (inv_nil g₂.2) (by kernel_rfl)) (fun v s₃ h₃ => ?_) fun _ _ q => q))
  refine elEAAE h₃ fun as₃ gr₃ I₃ tk eq55x1 => ?_
  try clear h₃
  subst eq55x1
  have ka := grow_all gr₃ fun b hb => nomatch hb
  have gk₃ : GKeep [env.locals] s s₃ := gk₂.step (X := []) (fun b hb => nomatch hb) (fun b o _ e => ka b o e) gr₃.os gr₃.gens
  have g₃ : GS0 h₀ env (gρ0 x 0 false) s₃.heap := (GS0.gs hcells).at' _ _ g₂ (fun b o e => ka b o (g₂.2 b o e)) fun b _ o e => ka b o e
  refine wpP_any (Calls.spliced_nil (wpP_any (call_enumerate_str fun h₄ en₄ si₄ hz₄ ka₄ => ?_)))
  refine wpAny_pyIter_enum (s := { s₃ with heap := h₄ }) en₄ fun p => ?_
  have dead : ∀ b, s₃.heap.objs.size ≤ b → s₃.heap.get? b = none := fun b hb => Heap.get?_none_of_le hb
  have h0dead : ∀ b, s₃.heap.objs.size ≤ b → h₀.get? b = none := fun b hb => by
    cases e : h₀.get? b with
    | none => rfl
    | some o => have := g₃.2 b o e; rw [dead b hb] at this; cases this
  have hCalive : ∃ o, s₃.heap.get? env.locals = some o := (GS0.gs hcells).live _ g₃ _ (List.mem_singleton.mpr rfl)
  have hClt : env.locals < s₃.heap.objs.size := let ⟨o, ho⟩ := hCalive; Heap.lt_size ho
  have ap : GAp h₀ env (s₃.heap.objs.size + 1) s₃.heap.objs.size :=
    ⟨hcells, Nat.succ_ne_self _, Nat.ne_of_gt (Nat.lt_succ_of_lt hClt), Nat.ne_of_gt hClt, h0dead _ (Nat.le_succ _), h0dead _ (Nat.le_refl _)⟩
  have gk₄ : GKeep [env.locals] s { s₃ with heap := h₄ } := gk₃.step (X := []) (fun b hb => nomatch hb) (fun b o _ e => ka₄ b o e) rfl (.refl _)
  have g₄ : GSt h₀ env x tk (s₃.heap.objs.size + 1) s₃.heap.objs.size 0 (gρ0 x 0 false) h₄ := ⟨g₃.1.at fun b _ o e => ka₄ b o e, fun b o e => ka₄ b o (g₃.2 b o e), ⟨_, en₄⟩, si₄⟩
  refine gen_loop (x := x) (tk := tk) S X G ap hco hpos hch rfl rfl rfl rfl (aok_loop hA) hA0 x 0 false { s₃ with heap := h₄ } s [env.locals] (by simp) rfl g₄ gk₄ fun b hb => ?_
  have sdead : ∀ b, s₃.heap.objs.size ≤ b → s.heap.get? b = none := fun b hb => by
    cases e : s.heap.get? b with
    | none => rfl
    | some o =>
      obtain ⟨o', e'⟩ := al₂ b o e
      have := ka b o' e'
      rw [dead b hb] at this; cases this
  simp only [List.mem_cons, List.not_mem_nil, or_false] at hb
  rcases hb with rfl | rfl | rfl
  · exact .inl (List.mem_singleton.mpr rfl)
  · exact .inr (sdead _ (Nat.le_succ _))
  · exact .inr (sdead _ (Nat.le_refl _))
noncomputable def GenMade (prog : Program) (w : World) (h₀ : Heap) (k : Nat) (s : Shared) (ps : List (Nat × List Nat)) (r : Value) (s' : Shared) : Prop :=
  ∃ a C c, r = .ref a ∧ s'.heap.IsGen a s.gens.size ∧ s'.gens = s.gens.push (.fresh c) ∧ s'.os = s.os ∧ (∀ b o, s.heap.get? b = some o → s'.heap.get? b = some o) ∧ s.heap.get? a = none ∧ s.heap.get? C = none ∧ a ≠ C ∧ (∃ o, s'.heap.get? C = some o) ∧
    ∀ (A : Around) (s'' : Shared), AOk (k + 1) A → (∀ b o, h₀.get? b = some o → s''.heap.get? b = some o) → (∀ o, s'.heap.get? C = some o → s''.heap.get? C = some o) →
      SegX (model prog w) A c ((model prog w).den c) [] s'' (GPost (model prog w) A h₀ ps [C] s'')
theorem gen_made {a : Addr} {o : Obj} {fd : FuncData} {bd : List Stmt} {x : List Nat} {v : Value} {as : List Addr} {σ : Sto} (D : FnDef h₀ a o fd bd) (hgen : fd.scope.isGenerator = true) (T : GTx fd.scope bd) (B : Bs h₀ mg mb)
    (S : Sd (fun _ => True) prog w h₀ k gR) (X : Xs (fun _ => True) prog w h₀ k gR) (hA : AOk (k + 1) A) (I : Inv h₀ s.heap as σ) (hv : VR h₀ as v (.str x)) (haddr : fd.scope.names.lookup (Str.ofString "addr") = some .local)
    (hb : ∀ v, bindArgs fd ⟨[v], []⟩ = pure [(Str.ofString "addr", v)]) :
    wpAny (model prog w) A (call (.ref a) [v]) (GenMade prog w h₀ k s (esc 0 false x)) (fun _ _ => False) s := by
  refine wpAny_call (codeAny_call_generator hA.room (I.base a o D.obj) D.dat D.co hgen D.body ?_ (wpAny_of_eq (hb v) (wpAny_newFunctionEnv D.noCell ?_ (fun h' hns hsb => ⟨?_, ?_⟩) D.kind)))
  · refine elEEEEAAA (D.code) fun c oc us tq e1 e2 e3 e4 => ?_
    exact ⟨c, oc, us, tq, e1, I.base c oc e2, e3, e4⟩
  · intro y hy
    rw [List.mem_singleton.mp hy]; exact haddr
  · have hC : s.heap.get? s.heap.objs.size = none := Heap.get?_none_of_le (Nat.le_refl _)
    refine D.lim.keeps fun b ob e => ?_
    have hb' : b ≠ s.heap.objs.size := fun q => by have := I.base b ob e; rw [q, hC] at this; cases this
    exact hsb.extBut b ob hb' (Heap.get?_push_of_some _ (I.base b ob e))
  · have hC : s.heap.get? s.heap.objs.size = none := Heap.get?_none_of_le (Nat.le_refl _)
    have fr := I.fresh hC
    have old : ∀ b ob, s.heap.get? b = some ob → h'.get? b = some ob := fun b ob e => hsb.extBut b ob (fun q => by rw [q, hC] at e; cases e) (Heap.get?_push_of_some _ e)
    have hz : h'.objs.size = s.heap.objs.size + 1 := by rw [hsb.1, Heap.size_push]
    have hCa : ∃ o, h'.get? s.heap.objs.size = some o := by obtain ⟨o, _, _, ho, _⟩ := hns; exact ⟨o, ho⟩
    obtain ⟨oC, hoC⟩ := hCa
    rw [D.clo, D.glb, D.blt]
    dsimp only [newEnv]
    refine ⟨h'.objs.size, s.heap.objs.size, _, rfl, ⟨_, _, _, Heap.get?_push_size _ rfl, rfl, rfl, rfl⟩, rfl, rfl, fun b o e => Heap.get?_push_of_some _ (old b o e), Heap.get?_none_of_le (by rw [hz]; exact Nat.le_succ _), hC, by rw [hz]; exact Nat.succ_ne_self _, ⟨oC, Heap.get?_push_of_some _ hoC⟩, fun A' s'' hA' hb'' hk'' => ?_⟩
    refine gen_start (x := x) T rfl rfl B S X hA' ⟨?_, hb''⟩
    obtain ⟨tk, rfl⟩ := hv
    refine ⟨D.kind, rfl, rfl, ⟨_, hns.at' fun o e => hk'' o (Heap.get?_push_of_some _ e), fun x' q hx _ => ?_⟩, fun x' q hx hk => ?_, fun x' hk _ => ?_, fun x' q hx => ?_, fun x' hk => ?_, (fun x' c hc => nomatch hc), .nil, (fun c hc => nomatch hc), fun b hb' => ?_⟩
    · rw [List.lookup_cons] at hx
      split at hx
      · rename_i hxx
        cases hx
        have : x' = Str.ofString "addr" := by simpa using hxx
        subst this
        exact ⟨_, by simp, tk, rfl⟩
      · cases hx
    · have hxx : x' = Str.ofString "addr" := by
        rw [List.lookup_cons] at hx
        split at hx
        · rename_i q; simpa using q
        · cases hx
      subst hxx
      rcases hk with e | e
      · have e' : fd.scope.names.lookup (Str.ofString "addr") = some .cell := e
        rw [haddr] at e'; cases e'
      · have e' : fd.scope.names.lookup (Str.ofString "addr") = some .free := e
        rw [haddr] at e'; cases e'
    · exact D.noFree _ (lookup_free (show fd.scope.names.lookup x' = some .free from hk)) rfl
    · have hxx : x' = Str.ofString "addr" := by
        rw [List.lookup_cons] at hx
        split at hx
        · rename_i q; simpa using q
        · cases hx
      subst hxx
      exact .inl haddr
    · exact absurd rfl (D.noCell _ (lookup_free (show fd.scope.names.lookup x' = some .cell from hk)))
    · rcases List.mem_cons.mp hb' with rfl | z
      · exact ⟨(fun h => nomatch h), fr.2⟩
      · cases z
end
end Mine.Internal
end
section
set_option maxRecDepth 100000
set_option backward.match.sparseCases false
namespace Mine.Internal
open PySem PyProof.Rows
open PySem.W.X (SegX)
noncomputable def GWake (prog : Program) (w : World) (A : Around) (h₀ : Heap) (gs : GenState) (rem : List (Nat × List Nat)) (pr : List Addr) (h : Heap) : Prop :=
  ∃ c₀ fs₀ t₀, ((gs = .fresh c₀ ∧ Resume.send .none = .send .none ∧ t₀ = denote table c₀ ∧ fs₀ = []) ∨ (∃ k₀ l₀ p₀ cl, gs = .suspended k₀ l₀ c₀ p₀ fs₀ cl ∧ t₀ = k₀ (.send .none))) ∧ gs.bare = true ∧
    ∀ s'' : Shared, (∀ b o, h₀.get? b = some o → s''.heap.get? b = some o) → (∀ b ∈ pr, ∀ o, h.get? b = some o → s''.heap.get? b = some o) → SegX (model prog w) A c₀ t₀ fs₀ s'' (GPost (model prog w) A h₀ rem pr s'')
structure GKx (g : Nat) (a b : Array GenState) : Prop where
  size : a.size ≤ b.size
  old : ∀ i, i < a.size → i ≠ g → b[i]? = a[i]?
  bare : AllBare a → AllBare b
theorem AllBare.setGen {s : Shared} {g : Nat} {x : GenState} (h : AllBare s.gens) (hx : x.bare = true) : AllBare (s.setGen g x).gens := fun y hy => by
  obtain ⟨i, hi⟩ := Array.mem_iff_getElem?.mp hy
  have hz : (s.setGen g x).gens.size = s.gens.size := by simp [Shared.setGen]
  have hlt : i < s.gens.size := hz ▸ (Array.getElem?_eq_some_iff.mp hi).1
  by_cases e : g = i
  · subst e
    have : (s.setGen g x).gens[g]? = some x := by simp [Shared.setGen, hlt]
    rw [this] at hi; cases hi; exact hx
  · have : (s.setGen g x).gens[i]? = s.gens[i]? := by simp [Shared.setGen, e]
    rw [this] at hi; exact h _ (Array.mem_iff_getElem?.mpr ⟨i, hi⟩)
theorem GKx.of {s s₁ : Shared} {g : Nat} {x : GenState} (k : GK (s.setGen g .running).gens s₁.gens) (hx : x.bare = true) : GKx g s.gens (s₁.setGen g x).gens := by
  have hz : (s.setGen g .running).gens.size = s.gens.size := by simp [Shared.setGen]
  refine ⟨by have := k.size; rw [hz] at this; simpa [Shared.setGen] using this, fun i hi hg => ?_, fun h => AllBare.setGen (k.bare (AllBare.setGen h rfl)) hx⟩
  have h1 := k.old i (by rw [hz]; exact hi)
  have h2 : (s.setGen g .running).gens[i]? = s.gens[i]? := by simp [Shared.setGen, Ne.symm hg]
  have h3 : (s₁.setGen g x).gens[i]? = s₁.gens[i]? := by simp [Shared.setGen, Ne.symm hg]
  rw [h3, h1, h2]
noncomputable def NxG (prog : Program) (w : World) (A : Around) (h₀ : Heap) (g : Nat) (rem : List (Nat × List Nat)) (pr : List Addr) (s : Shared) (r : Option Value) (s' : Shared) : Prop :=
  (∀ b o, b ∉ pr → s.heap.get? b = some o → s'.heap.get? b = some o) ∧ s'.os = s.os ∧ GKx g s.gens s'.gens ∧
  match rem with
  | [] => r = none
  | (i, ch) :: rem' => ∃ a its, r = some (.ref a) ∧ IsTup s'.heap a (its : List Value).toArray ∧ Paired (VR h₀ []) its [.int i, .str ch] ∧ ∃ pr' gs', (∀ b ∈ pr', b ∈ pr ∨ s.heap.get? b = none) ∧ (∀ b ∈ pr', ∃ o, s'.heap.get? b = some o) ∧
      s'.gens[g]? = some gs' ∧ GWake prog w A h₀ gs' rem' pr' s'.heap
section
variable {prog : Program} {w : World} {h₀ : Heap} {mg mb : Str → Option Value} {k : Nat} {A : Around} {env : Env} {s : Shared}
theorem sx_quiet {M : Model} {c : Code} {t : Sem PySem.Fin} {fs : List Frame} {P : End → Shared → Prop} (h : SegX M A c t fs s P) : SegX M A c t fs s (fun e s' => e.genState.bare = true ∧ P e s') := fun Γ p hc hΓ => by
  refine elEEAA (h Γ p hc hΓ) fun e s' hr hq hp => ?_
  exact ⟨e, s', hr, hq, End.bare_of_quiet hq, hp⟩
theorem sbE {α : Type} {P : α → Prop} {a b : α} (h : a = b) (p : P b) : P a := by rw [h]; exact p
theorem newExc_stop {M : Model} {A : Around} {s : Shared} {Q : Value → Shared → Prop} {E : Value → Shared → Prop}
    (h : ∀ a h', (∃ o, h'.get? a = some o ∧ o.cls = .type "StopIteration") → (∀ b o, s.heap.get? b = some o → h'.get? b = some o) → Q (.ref a) { s with heap := h' }) :
    wpAny M A (newExc (.type "StopIteration") []) Q E s := by
  refine wpAny_bind (wpAny_newObj_type ?_ (by size_fits))
  refine wpAny_bind (m := firstArgMember _ _) (wpAny_of_eq (a := Value.none) (by first | rfl | (simp only [firstArgMember]; rfl)) ?_)
  exact wpAny_newObj_type (h _ _ ⟨_, Heap.get?_push_size _ rfl, rfl⟩ fun b o hb => Heap.get?_push_of_some _ (Heap.get?_push_of_some _ hb)) (by size_fits)
theorem stop_new {α : Type} {M : Model} {A : Around} {s : Shared} {K : α → Sem Fin} {Q : Fin → Shared → Prop} {E : Value → Shared → Prop} (hh : A.handled = none)
    (h : ∀ a h', (∃ o, h'.get? a = some o ∧ o.cls = .type "StopIteration") → (∀ b o, s.heap.get? b = some o → h'.get? b = some o) → E (.ref a) { s with heap := h' }) :
    wpAny M A (newExc (.type "StopIteration") [] >>= fun e => raiseNew e >>= K) Q E s :=
  wpAny_bind (newExc_stop fun a h' h1 h2 => wpAny_bind (wpAny_bind (wpAny_handled (hh ▸ wpAny_throw (h a h' h1 h2)))))
theorem two_gs {P : GenState → Prop} {gs : GenState} {c₀ : Code} {fs₀ : List Frame} {t₀ : Sem Fin}
    (hgo : (gs = .fresh c₀ ∧ Resume.send .none = .send .none ∧ t₀ = denote table c₀ ∧ fs₀ = []) ∨ (∃ k₀ l₀ p₀ cl, gs = .suspended k₀ l₀ c₀ p₀ fs₀ cl ∧ t₀ = k₀ (.send .none)))
    (e : ∀ k₀ l₀ p₀ cl, P (.suspended k₀ l₀ c₀ p₀ fs₀ cl) = P (.fresh c₀)) (h : P (.fresh c₀)) : P gs := by
  rcases hgo with ⟨rfl, _⟩ | ⟨k₀, l₀, p₀, cl, rfl, _⟩
  · exact h
  · rw [e]; exact h
theorem nextG {a : Addr} {g : Nat} {gs : GenState} {rem : List (Nat × List Nat)} {pr : List Addr} (hh : A.handled = none) (hl : s.heap.NoLimit) (hroom : A.depth < recursionLimit) (hg : s.heap.IsGen a g) (hgs : s.gens[g]? = some gs)
    (hb : ∀ b o, h₀.get? b = some o → s.heap.get? b = some o) (hw : GWake prog w A.in1 h₀ gs rem pr s.heap) :
    wpAny (model prog w) A (pyNext (.ref a)) (NxG prog w A.in1 h₀ g rem pr s) (fun _ _ => False) s := by
  refine elEEEAA hw fun c₀ fs₀ t₀ hgo hbare hseg => ?_
  try clear hw
  skip
  refine wpAny_bind (wpAny_attempt (wpAny_callSpecial?_slot (name := Str.ofString "__next__") hg.typeIs slot_gen_next
    (wpAny_call_entry slot_gen_next hg.typeIs entry_gen_next ?_ (args_gen_next _))))
  refine (?_ : wpAny _ A.in1 (Builtin.Generator.genWake (.ref a) (.send .none)) _ _ s)
  skip
  refine wpAny_bind (wpAny_holding (wpAny_genNumber hg (wpAny_bind (wpAny_genState hgs ?_))))
  have size : ∀ {s₁ : Shared} {x : GenState}, GK (s.setGen g .running).gens s₁.gens → (s₁.setGen g x).gens[g]? = some x := fun {s₁ x} hk => by
    have hlt : g < s.gens.size := (Array.getElem?_eq_some_iff.mp hgs).1
    have hz : (s.setGen g .running).gens.size = s.gens.size := by simp [Shared.setGen]
    have := hk.size
    have hlt' : g < s₁.gens.size := by omega
    simp [Shared.setGen, hlt']
  have fin : ∀ (e : End) (s₁ : Shared), (e.genState.bare = true ∧ GPost (model prog w) A.in1 h₀ rem pr (s.setGen g .running) e s₁) →
      (e = .ret (.ok (.ret .none)) ∧ ∀ h', (∀ b o, s₁.heap.get? b = some o → h'.get? b = some o) → NxG prog w A.in1 h₀ g rem pr s none { s₁.setGen g .finished with heap := h' }) ∨
      ∃ v l k c p fs, e = .susp v false l k c p fs ∧ NxG prog w A.in1 h₀ g rem pr s (some v) (s₁.setGen g e.genState) := by
    intro e s₁ ⟨hq, hp⟩
    cases rem with
    | nil =>
      obtain ⟨rfl, gk⟩ := hp
      exact .inl ⟨rfl, fun h' hk' => ⟨fun b o hb e => hk' b o (gk.keep b o hb e), gk.os, GKx.of gk.gens rfl, rfl⟩⟩
    | cons q rem' =>
      obtain ⟨i, ch⟩ := q
      obtain ⟨a', kk, l, c, p, fs, rfl, gk, ⟨its, ht, hpv⟩, pr', h1, h2, h3⟩ := hp
      exact .inr ⟨_, _, _, _, _, _, rfl, fun b o hb e => gk.keep b o hb e, gk.os, GKx.of gk.gens hq, a', its, rfl, ht, hpv, pr', _, h1, h2, size gk.gens, c, fs, _, .inr ⟨kk, l, p, _, rfl, rfl⟩, hq, h3⟩
  have goal : ∀ (l : List Value) (K : GenResult → Sem PySem.Fin) (Q : PySem.Fin → Shared → Prop) (E : Value → Shared → Prop),
      (∀ e s₁, (e.genState.bare = true ∧ GPost (model prog w) A.in1 h₀ rem pr (s.setGen g .running) e s₁) → wpAny (model prog w) A.in1 (K e.result) Q E (s₁.setGen g e.genState)) →
      wpAny (model prog w) A.in1 (.resume g (.send .none) l K) Q E s := by
    intro l K Q E h Γ p hΓ
    refine PySem.W.X.wake_any _ prog w hgs (c₀ := c₀) (t₀ := t₀) (fs₀ := fs₀) (hgo.imp (fun h => ⟨h.1, rfl, h.2.2.1, h.2.2.2⟩) id) (fun Γ => Γ.In A.in1) (fun _ h => h) ?_ Γ p hΓ
    exact (sx_quiet (hseg (s.setGen g .running) hb fun b _ o e => e)).mono fun e s₁ he Γ p hΓ => h e s₁ he Γ p hΓ
  apply two_gs hgo
  · intros; rfl
  refine wpAny_bind (wpAny_roomToWake hl hroom ?_)
  refine (?_ : wpAny _ _ (.resume g (.send .none) [] _) _ _ s)
  refine goal _ _ _ _ fun e s₁ he => (fin e s₁ he).elim (fun h => ?_) fun h => ?_
  · apply sbE h.1
    refine (?_ : wpAny _ _ (newExc (.type "StopIteration") [] >>= _) _ _ _)
    refine stop_new hh fun a h' ha hk => ?_
    exact wpAny_bind (wpAny_isInstance (T := "StopIteration") (b := true) ha isSubtype_stop (wpAny_pure (h.2 h' hk)))
  · obtain ⟨v, l, kk, c, p, fs, rfl, hf⟩ := h
    exact wpAny_pure ⟨v, rfl, wpAny_pure hf⟩
end
end Mine.Internal
end
section
set_option maxRecDepth 100000
set_option backward.match.sparseCases false
namespace Mine.Internal
open PySem PyProof.Rows
open PySem.W.X (SegX)
section
variable {prog : Program} {w : World} {A : Around} {E : Value → Shared → Prop} {s : Shared}
theorem letOwned_gen {elts : List Expr} {x1 : Nat} {pos : Pos} {a b : Addr} {g : Nat} {Q : Unit → Shared → Prop} (hg : s.heap.IsGen a g) (h : Q () s) :
    wpAny (model prog w) A (letOwnedTupleGo (.Tuple elts x1 pos) (.ref a) (.ref b)) Q E s := by
  refine elEEEAAA hg fun o nm qn ho hc hd hs => ?_
  try clear hg
  skip
  refine wpAny_bind (wpAny_load ho ?_)
  rw [hc, hd]
  show wpAny _ A (if (["enumerate", "zip", "dict_itemiterator", "dict_reverseitemiterator", "odict_iterator", "itertools.zip_longest", "itertools.pairwise"].contains "generator" &&
      (#[Value.int g 0, nm, qn] : Array Value)[0]? == some (rawInt b)) = true then _ else _) Q E s
  rw [show (["enumerate", "zip", "dict_itemiterator", "dict_reverseitemiterator", "odict_iterator", "itertools.zip_longest", "itertools.pairwise"].contains "generator") = false from by decide]
  exact wpAny_pure h
end
noncomputable def GenC (prog : Program) (w : World) (h₀ : Heap) (mg : Str → Option Value) (k : Nat) : Prop :=
  h₀.NoLimit ∧ ∃ a o fd, mg (Str.ofString "_iter_escaped_chars") = some (.ref a) ∧ h₀.get? a = some o ∧ o.data = .func fd ∧
    ∀ (A : Around) (s : Shared) (as : List Addr) (σ : Sto) (v : Value) (x : List Nat), AOk (k + 1) A → Inv h₀ s.heap as σ → VR h₀ as v (.str x) → wpAny (model prog w) A (call (.ref a) [v]) (GenMade prog w h₀ k s (esc 0 false x)) (fun _ _ => False) s
theorem Grow.skipG {X pr : List Addr} {s s₁ s₂ : Shared} {as as₁ : List Addr} {n : Nat} (g : Grow X s as s₁ as₁) (hX : ∀ b ∈ pr, s.heap.get? b = none) (hk : ∀ b o, b ∉ pr → s₁.heap.get? b = some o → s₂.heap.get? b = some o) (ho : s₂.os = s₁.os) (hg : GKx n s₁.gens s₂.gens) (hn : s.gens.size ≤ n) : Grow X s as s₂ as₁ :=
  ⟨g.pre, fun b o hXb hb e => hk b o (fun q => by rw [hX b q] at e; cases e) (g.keep b o hXb hb e),
    fun b o e => by
      obtain ⟨o', e'⟩ := g.live b o e
      exact ⟨o', hk b o' (fun q => by rw [hX b q] at e; cases e) e'⟩, ho.trans g.os,
    ⟨Nat.le_trans g.gens.size hg.size, fun i hi => (hg.old i (Nat.lt_of_lt_of_le hi g.gens.size) (Nat.ne_of_lt (Nat.lt_of_lt_of_le hi hn))).trans (g.gens.old i hi), fun h => hg.bare (g.gens.bare h)⟩⟩
section
variable {P : Ctx → Prop} {prog : Program} {w : World} {h₀ : Heap} {mg mb : Str → Option Value} {k : Nat} {R : Rec} {T : Tab}
variable {A : Around} {env : Env} {s : Shared} {as : List Addr} {σ σ' : Sto} {ρ ρ' : Rho} {t : Bool}
noncomputable def genP (p : Nat × List Nat) : PV × PV := (.int p.1, .str p.2)
structure GLoop (prog : Program) (w : World) (A : Around) (h₀ : Heap) (env : Env) (s : Shared) (as : List Addr) (a : Addr) (g : Nat) (rem : List (Nat × List Nat)) (as₃ : List Addr) (s₃ : Shared) : Prop where
  gen : s₃.heap.IsGen a g
  wake : ∃ pr gs, s₃.gens[g]? = some gs ∧ GWake prog w A.in1 h₀ gs rem pr s₃.heap ∧ (∀ b ∈ pr, b ∉ as₃ ∧ s.heap.get? b = none ∧ h₀.get? b = none ∧ b ≠ a) ∧ (∀ b ∈ pr, ∃ o, s₃.heap.get? b = some o)
  num : s.gens.size ≤ g
  off : a ∉ as₃ ∧ s.heap.get? a = none
theorem live_fad (F : FrI h₀ env s.heap as ρ) {b : Addr} (hb : s.heap.get? b = none) : b ∉ faddrs env := fun hm => by
  have : ∃ o, s.heap.get? b = some o := by
    rcases List.mem_cons.mp hm with rfl | hb'
    · obtain ⟨m, ⟨o, _, _, ho, _⟩, _⟩ := F.ns; exact ⟨o, ho⟩
    · refine elEA (List.mem_map.mp hb') fun pt52x1 hm' eq52x2 => ?_
      obtain ⟨y, c⟩ := pt52x1
      subst eq52x2
      obtain ⟨v, o, ho, _⟩ := F.cells y c hm'; exact ⟨o, ho⟩
  obtain ⟨o, ho⟩ := this
  rw [hb] at ho; cases ho
theorem GLoop.grow {a : Addr} {g : Nat} {rem : List (Nat × List Nat)} {as₃ as₆ : List Addr} {s₃ s₆ : Shared} (F : FrI h₀ env s.heap as ρ) (G : GLoop prog w A h₀ env s as a g rem as₃ s₃) (gr : Grow (faddrs env) s₃ as₃ s₆ as₆) : GLoop prog w A h₀ env s as a g rem as₆ s₆ := by
  refine elEA (gr.pre) fun u hu hfr => ?_
  refine elEEAAA (G.wake) fun pr gs h1 h2 h3 h4 => ?_
  have nin : ∀ {b}, b ∉ as₃ → (∃ o, s₃.heap.get? b = some o) → b ∉ as₆ := fun {b} hb hl hm => by
    rw [hu] at hm
    rcases List.mem_append.mp hm with q | q
    · exact hb q
    · obtain ⟨o, ho⟩ := hl
      rw [hfr b q] at ho; cases ho
  have kp : ∀ b ∈ pr, ∀ o, s₃.heap.get? b = some o → s₆.heap.get? b = some o := fun b hb o e => gr.keep b o (live_fad F (h3 b hb).2.1) (h3 b hb).1 e
  have ha : ∀ o, s₃.heap.get? a = some o → s₆.heap.get? a = some o := fun o e => gr.keep a o (live_fad F G.off.2) G.off.1 e
  refine ⟨?_, ⟨pr, gs, ?_, ?_, fun b hb => ⟨nin (h3 b hb).1 (h4 b hb), (h3 b hb).2⟩, fun b hb => let ⟨o, ho⟩ := h4 b hb; ⟨o, kp b hb o ho⟩⟩, G.num, nin G.off.1 (let ⟨o, _, _, ho, _⟩ := G.gen; ⟨o, ho⟩), G.off.2⟩
  · refine elEEEA (G.gen) fun o nm qn ho r => ?_
    exact ⟨o, nm, qn, ha o ho, r⟩
  · rw [gr.gens.old g (Array.getElem?_eq_some_iff.mp h1).1]; exact h1
  · refine elEEEAA h2 fun c₀ fs₀ t₀ e1 e2 e3 => ?_
    try clear h2
    exact ⟨c₀, fs₀, t₀, e1, e2, fun s'' hb hp => e3 s'' hb fun b hb' o e => hp b hb' o (kp b hb' o e)⟩
theorem range_noGen {is : List Int} {ps : List (PV × PV)} (h : rangeOf is = some (.gens ps)) : False := by
  cases is with
  | nil => cases h
  | cons a r => cases r with
    | nil => exact iteE h fun _ h => nomatch h
    | cons b r => cases r with
      | nil => exact iteE h fun _ h => nomatch h
      | cons c r => cases r with
        | nil => exact iteE h fun _ h => nomatch h
        | cons _ _ => cases h
theorem srcF_gen {f : Str} {vs : List PV} {ps : List (PV × PV)} (h : srcF T f vs σ' = some (.gens ps)) : f = "_iter_escaped_chars" ∧ ∃ x, vs = [.str x] ∧ ps = T.gen x := by
  refine ite2 h (fun _ h => bindE h fun is _ h => iteE h fun _ h => (range_noGen h).elim) fun _ h => ite2 h (fun _ h => ?_) fun _ h => iteE h fun hf h => bindE h fun v hv h => bindE h fun x hx h => iteE h fun _ h => ?_
  · exact bindE h fun p hp h => bindE h fun m hm h => bindE h fun n hn h => bindE h fun xs hxs h => bindE h fun ys hys h => iteE h fun _ h => nomatch h
  · cases h
    exact ⟨hf, x, by rw [one1_some hv, asStr_ok hx], rfl⟩
noncomputable def GenMd (prog : Program) (w : World) (A : Around) (h₀ : Heap) (env : Env) (s : Shared) (as : List Addr) (σ₁ : Sto) (ps : List (PV × PV)) (v : Value) (s₂ : Shared) : Prop :=
  ∃ a g x', v = .ref a ∧ ps = (esc 0 false x').map genP ∧ ∃ as₂, Grow [] s as s₂ as₂ ∧ Inv h₀ s₂.heap as₂ σ₁ ∧ GLoop prog w A h₀ env s as a g (esc 0 false x') as₂ s₂
theorem src_gen (B : Bs h₀ mg mb) (S : Sd P prog w h₀ k R) {kg : Nat} (hk : kg + 2 ≤ k) (GC : GenC prog w h₀ mg kg) (hA : AOk k A) (F : FrI h₀ env s.heap as ρ) (V : Inv h₀ s.heap as σ) {iter : Expr} {ps : List (PV × PV)} {σ₁ : Sto}
    (hT : T.gen = escP) (hs : src T R ⟨env.scope, t⟩ ρ σ iter = some (.gens ps, σ₁)) : wpAny (model prog w) A (eval iter env) (GenMd prog w A h₀ env s as σ₁ ps) (fun _ _ => False) s := by
  obtain ⟨hlim, ga, go, gfd, hm, hgo, hgd, hcall⟩ := GC
  have hA1 : AOk (kg + 1) A := hA.le (by omega)
  have ok := view_ok iter
  unfold src at hs
  generalize view iter = v at ok hs
  cases v with
  | name x => exact bndE hs fun v σ₂ he h => bindE h fun n hn h => mapE h fun vs hl h => nomatch h
  | tup es => exact bndE hs fun v σ₂ he h => bindE h fun n hn h => bindE h fun vs hl h => iteE h fun _ h => nomatch h
  | call f args =>
    refine elAEE ok fun _ p q eq104x3 => ?_
    try clear ok
    subst eq104x3
    refine iteE hs fun hkf h => ?_
    clear hs
    refine bndE h fun vs σ₂ ha zz => ?_
    clear h
    refine mapE zz fun sr hsr h => ?_
    clear zz
    cases h
    refine elAEA (srcF_gen hsr) fun hf x' e1 e2 => ?_
    subst hf e1
    refine wpP_to_any (callNameP (global_sound B F V (by decide) hkf (.inl hm) (callWithP_fn (plainArgs (evs_length ha)) (wpP_any (wpAny_mono (evs_sound S hA F V ha) (fun us s₁ h₁ => ?_) fun _ _ x => x)))))
    refine elEAA h₁ fun as₁ g₁ I₁ hv => ?_
    try clear h₁
    refine ⟨⟨go, gfd, I₁.base _ _ hgo, hgd⟩, ?_⟩
    refine elEA (paired1 hv) fun uv eq112x4 hv1 => ?_
    subst eq112x4
    refine wpP_any (wpAny_mono (hcall A s₁ as₁ _ _ x' hA1 I₁ hv1) (fun v s₂ h₂ => ?_) fun _ _ x => x)
    obtain ⟨a, C, c, rfl, hgen, hgens, hos, hka, ha', hC, haC, hCl, hseg⟩ := h₂
    have back : ∀ b, s₁.heap.get? b = none → s.heap.get? b = none := fun b hb => by
      cases e : s.heap.get? b with
      | none => rfl
      | some o =>
        obtain ⟨o', e'⟩ := g₁.live b o e
        rw [hb] at e'; cases e'
    have gk : GK s₁.gens s₂.gens := by
      refine hgens.symm ▸ ?_
      exact ⟨by simp, fun i hi => by rw [Array.getElem?_push_lt hi]; exact (Array.getElem?_eq_getElem hi).symm, fun hb => AllBare.push hb rfl⟩
    refine ⟨a, s₁.gens.size, x', rfl, by rw [e2, hT]; rfl, as₁, g₁.trans (.keeps hka hos gk), I₁.keeps hka, ⟨hgen, ⟨[C], .fresh c, ?_, ⟨c, [], _, .inl ⟨rfl, rfl, rfl, rfl⟩, rfl, fun s'' hb hp => ?_⟩, fun b hb => ?_, fun b hb => ?_⟩, g₁.gens.size, (I₁.fresh ha').1, back _ ha'⟩⟩
    · rw [hgens]; simp
    · have hA2 : AOk (kg + 1) A.in1 := ⟨hA.1, by have := hA.2.1; show A.depth + (kg + 1) < 990; omega, by have := hA.2.2; show A.units + 1 + 10 * (kg + 1) < 9800; omega⟩
      exact hseg A.in1 s'' hA2 hb fun o e => hp C (List.mem_singleton.mpr rfl) o e
    · rw [List.mem_singleton.mp hb]
      exact ⟨(I₁.fresh hC).1, back _ hC, (I₁.fresh hC).2, Ne.symm haC⟩
    · rw [List.mem_singleton.mp hb]; exact hCl
  | _ => exact noE hs
theorem turn_gen {A : Around} {x y : Str} {px py tp : Pos} {kk : Nat} {a b : Addr} {g : Nat} {i : Nat} {ch : List Nat} {its : List Value} {s₃ : Shared} {as₃ : List Addr} {σ₃ : Sto} {ρ₃ : Rho} {Q : Unit → Shared → Prop} (hh : A.handled = none) (hx : env.scope.names.lookup x = some .local) (hy : env.scope.names.lookup y = some .local)
    (gen : s₃.heap.IsGen a g) (ht : s₃.heap.IsTuple b its.toArray) (hpv : Paired (VR h₀ []) its [.int i, .str ch]) (V : Inv h₀ s₃.heap as₃ σ₃) (F : FrI h₀ env s₃.heap as₃ ρ₃)
    (h : ∀ s₇, Grow (faddrs env) s₃ as₃ s₇ as₃ → Inv h₀ s₇.heap as₃ σ₃ → FrI h₀ env s₇.heap as₃ (upd (upd ρ₃ x (.int i)) y (.str ch)) → Q () s₇) :
    wpAny (model prog w) A (letOwnedTupleGo (.Tuple [.Name x px, .Name y py] kk tp) (.ref a) (.ref b)) (fun _ s₁ => wpAny (model prog w) A (assign (.Tuple [.Name x px, .Name y py] kk tp) env (.ref b)) Q (fun _ _ => False) s₁) (fun _ _ => False) s₃ := by
  cases hpv with
  | cons hv1 r1 => cases r1 with
    | cons hv2 r2 =>
      cases r2
      rename_i v1 v2
      replace hv1 : VR h₀ as₃ v1 (.int i) := hv1
      replace hv2 : VR h₀ as₃ v2 (.str ch) := hv2
      refine letOwned_gen gen ?_
      refine wpAny_assign_Tuple hh (items := #[v1, v2]) ht rfl rfl fun h₅ hx₅ => ?_
      have up₅ : ∀ b o, s₃.heap.get? b = some o → h₅.get? b = some o := fun b o e => hx₅ b o (Nat.ne_of_lt (Heap.lt_size e)) e
      have g₅ : Grow (faddrs env) s₃ as₃ { s₃ with heap := h₅ } as₃ := .keeps up₅ rfl (.refl _)
      have V₅ : Inv h₀ h₅ as₃ σ₃ := V.keeps up₅
      have F₅ : FrI h₀ env h₅ as₃ ρ₃ := F.at fun b _ o e => up₅ b o e
      show wpAny _ _ (do holding [v2] (assign (.Name x px) env v1); assignInOrder [assign (.Name y py) env] [v2]) _ _ _
      refine wpAny_bind (wpAny_holding (wpAny_assign_Name (wpAny_mono (store_sound (s := { s₃ with heap := h₅ }) F₅ V₅ (.inl hx) hv1) (fun _ s₆ h₆ => ?_) fun _ _ x => x)))
      refine elAA h₆ fun g₆ V₆ F₆ => ?_
      try clear h₆
      show wpAny _ _ (do holding [] (assign (.Name y py) env v2); pure ()) _ _ _
      refine wpAny_bind (wpAny_holding (wpAny_assign_Name (wpAny_mono (store_sound F₆ V₆ (.inl hy) hv2) (fun _ s₇ h₇ => wpAny_pure ?_) fun _ _ x => x)))
      refine elAA h₇ fun g₇ V₇ F₇ => ?_
      try clear h₇
      exact h s₇ ((g₅.trans g₆).trans g₇) V₇ F₇
theorem forG_sound (L : Pl P) (B : Bs h₀ mg mb) (S : Sd P prog w h₀ k R) (X : Xs P prog w h₀ k R) {kg : Nat} (hk : kg + 2 ≤ k) (GC : GenC prog w h₀ mg kg) (hA : AOk k A) (hO : TopOk t A env) (F : FrI h₀ env s.heap as ρ) (V : Inv h₀ s.heap as σ) {x y : Str} {px py tp pos : Pos} {kk : Nat} {iter : Expr} {body : List Stmt} {ps : List (PV × PV)} {σ₁ : Sto} {fl : Fl}
    (hT : T.gen = escP) (hs : src T R ⟨env.scope, t⟩ ρ σ iter = some (.gens ps, σ₁)) (hx : env.scope.names.lookup x = some .local) (hy : env.scope.names.lookup y = some .local)
    (h : forP (fun u v ρ σ => exs R ⟨env.scope, t⟩ (upd (upd ρ x u) y v) σ body) ps ρ σ₁ = some (fl, ρ', σ')) :
    wpP P (model prog w) A (exec (.For (.Tuple [.Name x px, .Name y py] kk tp) iter body [] pos) env) (XP h₀ env s as fl ρ' σ') (fun _ _ => False) s := by
  have hlim := GC.1
  refine forP_exec L ?_ (fold_plain hs)
  refine wpAny_mono (src_gen B S hk GC hA F V hT hs) (fun v s₂ h₂ => ?_) fun _ _ x => x
  obtain ⟨a, g, x', rfl, rfl, as₂, g₂, V₂, G₂⟩ := h₂
  refine wpAny_pyIter_gen G₂.gen ?_
  refine opq2 (fun (n : Nat) (s₃ : Shared) => ∃ rem as₃ σ₃ ρ₃, n = rem.length + 1 ∧ Grow (faddrs env) s as s₃ as₃ ∧ Inv h₀ s₃.heap as₃ σ₃ ∧ FrI h₀ env s₃.heap as₃ ρ₃ ∧ GLoop prog w A h₀ env s as a g rem as₃ s₃ ∧
      forP (fun u v ρ σ => exs R ⟨env.scope, t⟩ (upd (upd ρ x u) y v) σ body) (rem.map genP) ρ₃ σ₃ = some (fl, ρ', σ')) fun IV un mk => ?_
  refine forLoopP L (Ex := fun _ _ => False) (fun _ _ x => x.elim) (fun _ _ _ => trivial) IV ?_ _ (mk _ _ ⟨_, as₂, σ₁, ρ, rfl, g₂.wide0, V₂, F.grow g₂, G₂, h⟩)
  intro n s₃ hI
  refine el4_5 (un _ _ hI) fun rem as₃ σ₃ ρ₃ hn g₃ V₃ F₃ G₃ h₃ => ?_
  clear hI un
  subst hn
  refine elEEAAA (G₃.wake) fun pr gs hgs hwk hpr hpl => ?_
  have room : A.depth < recursionLimit := hA.room
  refine wpAny_mono (nextG hA.1 (hlim.keeps V₃.base) room G₃.gen hgs V₃.base hwk) (fun r s₄ h₄ => ?_) fun _ _ x => x
  refine elAAA h₄ fun kp₄ os₄ gx₄ h₄ => ?_
  have sk : SkipL pr s₃ { s₄ with gens := s₃.gens } := ⟨fun b o hb e => kp₄ b o hb e, os₄, .refl _⟩
  have g₄ : Grow (faddrs env) s as s₄ as₃ := g₃.skipG (fun b hb => (hpr b hb).2.1) kp₄ os₄ gx₄ G₃.num
  have V₄ : Inv h₀ s₄.heap as₃ σ₃ := Inv.skipL (s₂ := { s₄ with gens := s₃.gens }) V₃ (fun b hb => ⟨(hpr b hb).1, (hpr b hb).2.2.1⟩) sk
  have F₄ : FrI h₀ env s₄.heap as₃ ρ₃ := FrI.skipL (s₂ := { s₄ with gens := s₃.gens }) F₃ (fun b hb => live_fad F (hpr b hb).2.1) sk
  have gen₄ : s₄.heap.IsGen a g := by
    refine elEEEA (G₃.gen) fun o nm qn ho r => ?_
    exact ⟨o, nm, qn, kp₄ a o (fun hm => (hpr a hm).2.2.2 rfl) ho, r⟩
  cases rem with
  | nil =>
    have h₄ : r = none := h₄
    subst h₄
    apply tpE h₃
    exact ⟨as₃, g₄, V₄, F₄, trivial⟩
  | cons q rem =>
    obtain ⟨i, ch⟩ := q
    refine el2_3 h₄ fun a' its hr ht hpv h₅ => ?_
    refine el2_3 h₅ fun pr' gs' hp1 hp2 hgs' hwk' => ?_
    clear h₄ h₅
    subst hr
    have back : ∀ b, s₃.heap.get? b = none → b ∉ as₃ ∧ s.heap.get? b = none ∧ h₀.get? b = none ∧ b ≠ a := fun b hb => by
      have fr := V₃.fresh hb
      refine ⟨fr.1, ?_, fr.2, fun e => ?_⟩
      · cases e : s.heap.get? b with
        | none => rfl
        | some o =>
          obtain ⟨o', e'⟩ := g₃.live b o e
          rw [hb] at e'; cases e'
      · refine elEEEA (G₃.gen) fun o _ _ ho _ => ?_
        rw [← e, hb] at ho; cases ho
    have G₄ : GLoop prog w A h₀ env s as a g rem as₃ s₄ := ⟨gen₄, ⟨pr', gs', hgs', hwk', fun b hb => (hp1 b hb).elim (hpr b) (back b), hp2⟩, G₃.num, G₃.off⟩
    refine turn_gen hA.1 hx hy gen₄ ht hpv V₄ F₄ fun s₇ gg V₇ F₇ => ?_
    refine bindE h₃ fun z he zz => ?_
    clear h₃
    rename _ => h₃
    obtain ⟨f₁, ρ₈, σ₈⟩ := z
    refine wpP_mono (exs_sound X hA hO F₇ V₇ he) (fun f s₈ h₈ => ?_) fun _ _ x => x
    refine elEAAA h₈ fun as₈ g₈ V₈ F₈ hf => ?_
    try clear h₈
    cases f₁ with
    | next =>
      cases f with
      | next => exact ⟨rem.length + 1, Nat.lt_succ_self _, mk _ _ ⟨rem, as₈, σ₈, ρ₈, rfl, (g₄.trans gg).trans g₈, V₈, F₈, (G₄.grow F (gg.trans g₈)), h₃⟩⟩
      | _ => exact hf.elim
    | ret q =>
      apply tpE h₃
      cases f with
      | ret v => exact ⟨as₈, (g₄.trans gg).trans g₈, V₈, F₈, hf⟩
      | _ => exact hf.elim
end
end Mine.Internal
end
section
set_option maxRecDepth 100000
set_option backward.match.sparseCases false
namespace Mine.Internal
open PySem PyProof.Rows
noncomputable def clsName (c : Str) : String := if c = "ValueError" then "ValueError" else "IndexError"
noncomputable def RzOut (h₀ : Heap) (env : Env) (s : Shared) (as : List Addr) (σ : Sto) (cls : Str) (e : Value) (s' : Shared) : Prop :=
  ∃ a a0 base, e = .ref a ∧ Heap.FlyingW base [env] a (.type (clsName cls)) a0 s'.heap ∧ s'.os = s.os ∧ GK s.gens s'.gens ∧ (∀ b o, b ≠ env.locals → b ∉ as → s.heap.get? b = some o → base.get? b = some o) ∧
    (∀ m, s.heap.Ns env.locals m → s'.heap.Ns env.locals m) ∧ Inv h₀ base as σ
noncomputable def XcOk (P : Ctx → Prop) (prog : Program) (w : World) (h₀ : Heap) (mg : Str → Option Value) (k : Nat) (f : Str) (g : List PV → Option Str) : Prop :=
  ∃ a o fd, mg f = some (.ref a) ∧ h₀.get? a = some o ∧ o.data = .func fd ∧ ∀ (A : Around) (env : Env) (s : Shared) (as : List Addr) (σ : Sto) (vs : List Value) (ps : List PV) (cls : Str),
    AOk k A → A.frames = some [env] → env.frame = some env.locals → env.scope.kind = .function → (∃ m, s.heap.Ns env.locals m) → env.locals ∉ as → h₀.get? env.locals = none → Inv h₀ s.heap as σ → Paired (VR h₀ as) vs ps → g ps = some cls →
    wpP P (model prog w) A (call (.ref a) vs) (fun _ _ => False) (RzOut h₀ env s as σ cls) s
section
variable {P : Ctx → Prop} {prog : Program} {w : World} {h₀ : Heap} {mg mb : Str → Option Value} {k : Nat} {R : Rec} {T : Tab}
variable {A : Around} {env : Env} {s : Shared} {as : List Addr} {σ σ' : Sto} {ρ ρ' : Rho} {t : Bool}
theorem try_rule {body : List Stmt} {hs : List ExceptHandler} {pos : Pos} {Q : Flow → Shared → Prop} {E : Value → Shared → Prop}
    (h : wpP P (model prog w) A (execs body env) (fun f s' => f = .next ∧ Q .next s') (fun e s' => hs.isEmpty = false ∧ wpAny (model prog w) A (noteFrame e env) (fun _ s₂ => wpAny (model prog w) A (setFlight e none) (fun _ s₃ => wpAny (model prog w) A (handleBy e env hs) Q E s₃) E s₂) E s') s) :
    wpP P (model prog w) A (exec (.Try body hs [] [] pos) env) Q E s := by
  show wpP _ _ _ (do standAt pos; tryStmt false (execs body env) hs (execs [] env) [] env) _ _ s
  refine wpP_leaf (wpAny_standAt ?_)
  skip
  refine wpP_bind (wpP_attempt (wpP_mono h (fun f s' h' => ?_) fun e s' h' => ?_))
  · obtain ⟨rfl, hq⟩ := h'
    exact wpP_any (wpAny_execs_nil hq)
  · obtain ⟨hh, h'⟩ := h'
    refine wpP_any (wpAny_bind (wpAny_mono h' (fun _ s₂ h₂ => ?_) fun _ _ x => x))
    refine hh.symm ▸ ?_
    exact wpAny_bind (wpAny_mono h₂ (fun _ s₃ h₃ => h₃) fun _ _ x => x)
theorem fr_of {base h' : Heap} (F : FrI h₀ env s.heap as ρ) (hk : ∀ b o, b ≠ env.locals → b ∉ as → s.heap.get? b = some o → base.get? b = some o) (hst : base.StaysIn h') (hns : ∀ m, s.heap.Ns env.locals m → h'.Ns env.locals m) : FrI h₀ env h' as ρ := by
  have hc : ∀ x c, (x, c) ∈ env.cells → ∀ o, s.heap.get? c = some o → h'.get? c = some o := fun x c h o e => by
    have hm : c ∈ env.cells.map (·.2) := List.mem_map.mpr ⟨_, h, rfl⟩
    exact hst c o (hk c o (F.dict c hm) (F.offs c (List.mem_cons_of_mem _ hm)).1 e)
  refine ⟨F.fn, F.glb, F.blt, ?_, fun x p hx hk => ?_, F.nocd, F.kinds, F.own, fun x c h => ?_, F.apart, F.dict, F.offs⟩
  · refine elEA (F.ns) fun m hn hm => ?_
    exact ⟨m, hns m hn, hm⟩
  · refine elEEAA (F.cell x p hx hk) fun c v e pt46x1 hv => ?_
    obtain ⟨o, ho, hd⟩ := pt46x1
    exact ⟨c, v, e, ⟨o, hc x c (mem_of_lookup e) o ho, hd⟩, hv⟩
  · refine elEEA (F.cells x c h) fun v o ho hd => ?_
    exact ⟨v, o, hc x c h o ho, hd⟩
structure Cst (h₀ : Heap) (env : Env) (base : Heap) (as : List Addr) (σ : Sto) (ρ : Rho) (s s' : Shared) : Prop where
  fr : FrI h₀ env s'.heap as ρ
  inv : Inv h₀ s'.heap as σ
  grow : Grow (faddrs env) s as s' as
theorem Cst.of {base : Heap} {s' : Shared} (F : FrI h₀ env s.heap as ρ) (hk : ∀ b o, b ≠ env.locals → b ∉ as → s.heap.get? b = some o → base.get? b = some o) (V : Inv h₀ base as σ) (hst : base.StaysIn s'.heap) (hns : ∀ m, s.heap.Ns env.locals m → s'.heap.Ns env.locals m) (ho : s'.os = s.os) (hg : GK s.gens s'.gens) :
    Cst h₀ env base as σ ρ s s' := by
  have F' := fr_of F hk hst hns
  have V' := V.keeps hst
  refine ⟨F', V', ⟨⟨[], by simp, fun _ q => nomatch q⟩, fun b o hX hb e => hst b o (hk b o (fun q => hX (q ▸ List.mem_cons_self ..)) hb e), fun b o e => ?_, ho, hg⟩⟩
  by_cases h1 : b ∈ as
  · exact V'.alive h1
  · by_cases h2 : b = env.locals
    · refine elEA (F'.ns) fun m pt65x2 _ => ?_
      obtain ⟨o, _, _, ho, _⟩ := pt65x2
      exact ⟨o, h2 ▸ ho⟩
    · exact ⟨o, hst b o (hk b o h2 h1 e)⟩
theorem exc_hit : ∀ {x : String}, x = "ValueError" ∨ x = "IndexError" → isSubtype (.type x) (.type "BaseException") = pure true ∧ isSubtype (.type ((Manifest.find? x).elim "type" fun y => y.metatype)) (.type "tuple") = pure false ∧ isSubtype (.type x) (.type x) = pure true := by
  intro x hx
  rcases hx with rfl | rfl
  · exact ⟨isSubtype_of_subB (by decide +kernel), isSubtype_of_subB (by decide +kernel), isSubtype_of_subB (by decide +kernel)⟩
  · exact ⟨isSubtype_of_subB (by decide +kernel), isSubtype_of_subB (by decide +kernel), isSubtype_of_subB (by decide +kernel)⟩
theorem exc_miss : isSubtype (.type "IndexError") (.type "ValueError") = pure false := isSubtype_of_subB (by decide +kernel)
theorem cls_named (B : Bs h₀ mg mb) {cls tn : Str} (htn : tn = cls) (hc : cls = "ValueError" ∨ cls = "IndexError") : (clsName cls = "ValueError" ∨ clsName cls = "IndexError") ∧ (mg tn = none ∧ mb tn = some (.type (clsName cls))) ∧ tn ≠ "__debug__" := by
  subst htn
  rcases hc with rfl | rfl
  · exact ⟨.inl rfl, B.ve, by decide⟩
  · exact ⟨.inr rfl, B.ie, by decide⟩
theorem suite_sound {y : Str} {py cp hp : Pos} {kk : Nat} {tx : Str} {base : Heap} {s' : Shared} (hky : kindOk env.scope y = true) (C : Cst h₀ env base as σ ρ s s') :
    wpAny (model prog w) A (execs [.Assign [.Name y py] (.Constant (.str tx) kk cp) hp] env) (XP h₀ env s as .next (upd ρ y (.str tx.cps.toList)) σ) (fun _ _ => False) s' := by
  rw [execs_cons]
  refine wpAny_bind ?_
  rw [exec_Assign_Name env y py _ hp (swaps_no rfl)]
  refine wpAny_bind (wpAny_standAt (wpAny_bind ?_))
  refine wpAny_false (const_ev (kk := kk) (pos := cp) (c := .str tx) (s := s') C.inv rfl) fun v s₂ h₂' => ?_
  refine elEAA h₂' fun as₂ g₂ V₂ hv => ?_
  try clear h₂'
  refine wpAny_bind (wpAny_standAt (wpAny_bind (wpAny_bindName (wpAny_false (store_sound (C.fr.grow g₂) V₂ (kind_of hky) hv) fun _ s₃ h₃ => wpAny_pure (wpAny_execs_nil ?_)))))
  refine elAA h₃ fun g₃ V₃ F₃ => ?_
  try clear h₃
  exact ⟨as₂, (C.grow.trans g₂.wide0).trans g₃, V₃, F₃, trivial⟩
theorem catch_sound (B : Bs h₀ mg mb) {cls : Str} {y : Str} {py cp hp : Pos} {kk : Nat} {tx : Str} {e : Addr} {a0 : Value} {base : Heap} (F : FrI h₀ env s.heap as ρ) (hky : kindOk env.scope y = true)
    (hk : ∀ b o, b ≠ env.locals → b ∉ as → s.heap.get? b = some o → base.get? b = some o) (V : Inv h₀ base as σ) :
    ∀ {hs : List ExceptHandler} {s' : Shared}, hasH env.scope cls hs = some [.Assign [.Name y py] (.Constant (.str tx) kk cp) hp] → Heap.FlyingW base [env] e (.type (clsName cls)) a0 s'.heap → (∀ m, s.heap.Ns env.locals m → s'.heap.Ns env.locals m) → s'.os = s.os → GK s.gens s'.gens →
    wpAny (model prog w) A (handleBy (.ref e) env hs) (XP h₀ env s as .next (upd ρ y (.str tx.cps.toList)) σ) (fun _ _ => False) s'
  | [], s', h, _, _, _, _ => noE h
  | hd :: rest, s', h, hfl, hns, ho, hg => by
    refine bindE h fun p hv zz => ?_
    clear h
    refine iteE zz fun hkt h' => ?_
    clear zz
    obtain ⟨tn, body⟩ := p
    obtain ⟨⟨p, q, rfl⟩, hne⟩ := hview_ok hv
    have C := Cst.of F hk V hfl.1 hns ho hg
    refine elEA (hfl.there) fun ob hob hobc => ?_
    refine ite2 h' (fun hc h => ?_) fun _ h => iteE h fun hc hrest => ?_
    · cases h
      refine elAA (cls_named B hc.1 hc.2) fun hcn hb hdb => ?_
      refine elAA (exc_hit hcn) fun e1 e2 e3 => ?_
      refine wpAny_handleBy_builtin (X := clsName cls) (T := clsName cls) (b := true) e1 e2 e3 (global_sound B C.fr C.inv hdb hkt (.inr hb) ⟨rfl, ⟨ob, hob, hobc⟩, ?_⟩)
      rw [if_pos rfl]
      refine lands_againW hfl fun h₂ hfl₂ hsm₂ => ?_
      exact wpAny_mono (suite_sound (s' := { s' with heap := h₂ }) hky (Cst.of F hk V hfl₂.1 (fun m hm => hsm₂.ns (hns m hm)) ho hg)) (fun _ _ x => x) fun _ _ x => x.elim
    · obtain ⟨b₀, body, rfl⟩ : ∃ b₀ bs, body = b₀ :: bs := by
        cases body with
        | nil => cases hne
        | cons b bs => exact ⟨b, bs, rfl⟩
      refine elAA (exc_hit (x := "ValueError") (.inl rfl)) fun e1 e2 e3 => ?_
      refine elAA (cls_named B hc.1 (.inl rfl)) fun hcn hb hdb => ?_
      have hX : clsName cls = "IndexError" := by rw [hc.2]; rfl
      have he : s'.TypeIs (.ref e) "IndexError" := ⟨ob, hob, hX ▸ hobc⟩
      refine wpAny_handleBy_builtin (X := "IndexError") (T := "ValueError") (b := false) e1 e2 exc_miss (global_sound B C.fr C.inv hdb hkt (.inr hb) ⟨rfl, he, ?_⟩)
      rw [if_neg Bool.false_ne_true]
      exact catch_sound B F hky hk V hrest hfl hns ho hg
end
end Mine.Internal
end
section
set_option maxRecDepth 100000
set_option backward.match.sparseCases false
namespace Mine.Internal
open PySem PyProof.Rows
section
variable {P : Ctx → Prop} {prog : Program} {w : World} {h₀ : Heap} {mg mb : Str → Option Value} {k : Nat} {R : Rec} {T : Tab}
variable {A : Around} {env : Env} {s : Shared} {as : List Addr} {σ σ' : Sto} {ρ ρ' : Rho} {t : Bool}
theorem try_ok (B : Bs h₀ mg mb) (hT : ∀ f g, T.sp f = some g → SpOk P prog w h₀ mg mb k f g) (S : Sd P prog w h₀ k R) (hA : AOk k A) (F : FrI h₀ env s.heap as ρ) (I : Inv h₀ s.heap as σ) {f x : Str} {g : Nat1} {args : List Expr} {px pf pc pa pos : Pos} {hs : List ExceptHandler} {vs : List PV} {v : PV} {σ₁ : Sto}
    (hd : f ≠ "__debug__") (hk : env.scope.names.lookup f = some .globalImplicit) (hx : kindOk env.scope x = true) (hg : T.sp f = some g) (ha : evs R ⟨env.scope, t⟩ ρ σ args = some (vs, σ₁)) (h : g vs σ₁ = some (v, σ')) :
    wpP P (model prog w) A (exec (.Try [.Assign [.Name x px] (.Call (.Name f pf) args [] pc) pa] hs [] [] pos) env) (XP h₀ env s as .next (upd ρ x v) σ') (fun _ _ => False) s := by
  refine try_rule ?_
  rw [execs_cons, exec_Assign_Name env x px _ pa (swaps_no rfl)]
  have call : wpP P (model prog w) A (eval (.Call (.Name f pf) args [] pc) env) (EP h₀ s as v σ') (fun _ _ => False) s :=
    spcall_sound B hA F I (hT f g hg) hd hk (evs_length ha) (wpP_any (evs_sound S hA F I ha)) h
  refine wpP_bind (wpP_leaf (wpAny_standAt (wpP_bind (wpP_mono call (fun u s₁ h₁ => ?_) fun _ _ q => q.elim))))
  refine elEAA h₁ fun as₁ g₁ I₁ hv₁ => ?_
  try clear h₁
  refine wpP_leaf (wpAny_standAt (wpP_leaf (wpAny_bindName (wpAny_false (store_sound (F.grow g₁) I₁ (kind_of hx) hv₁) fun _ s₂ h₂ => wpP_pure ?_))))
  refine elAA h₂ fun g₂ I₂ F₂ => ?_
  try clear h₂
  exact wpP_any (wpAny_execs_nil ⟨rfl, as₁, g₁.wide0.trans g₂, I₂, F₂, trivial⟩)
theorem try_no (B : Bs h₀ mg mb) (hX : ∀ f g, T.exc f = some g → XcOk P prog w h₀ mg k f g) (S : Sd P prog w h₀ k R) (hA : AOk k A) (hO : TopOk true A env) (F : FrI h₀ env s.heap as ρ) (I : Inv h₀ s.heap as σ) {f x : Str} {g : List PV → Option Str} {args : List Expr} {px pf pc pa pos : Pos} {hs : List ExceptHandler} {vs : List PV} {cls : Str} {y tx : Str} {py cp hp : Pos} {kk : Nat}
    (hd : f ≠ "__debug__") (hk : env.scope.names.lookup f = some .globalImplicit) (hg : T.exc f = some g) (ha : evs R ⟨env.scope, t⟩ ρ σ args = some (vs, σ')) (h : g vs = some cls) (hy : kindOk env.scope y = true)
    (hh : hasH env.scope cls hs = some [.Assign [.Name y py] (.Constant (.str tx) kk cp) hp]) :
    wpP P (model prog w) A (exec (.Try [.Assign [.Name x px] (.Call (.Name f pf) args [] pc) pa] hs [] [] pos) env) (XP h₀ env s as .next (upd ρ y (.str tx.cps.toList)) σ') (fun _ _ => False) s := by
  refine try_rule ?_
  obtain ⟨hfr, hfl⟩ := hO rfl
  rw [execs_cons, exec_Assign_Name env x px _ pa (swaps_no rfl)]
  refine elEEEAAA (hX f g hg) fun a o fd hm ho hdat hct => ?_
  have hne : hs.isEmpty = false := by
    cases hs with
    | nil => cases hh
    | cons _ _ => rfl
  have call : wpP P (model prog w) A (eval (.Call (.Name f pf) args [] pc) env) (fun _ _ => False) (fun e s' => ∃ s₁ as₁, Grow [] s as s₁ as₁ ∧ Inv h₀ s₁.heap as₁ σ' ∧ RzOut h₀ env s₁ as₁ σ' cls e s') s := by
    refine callNameP (wpAny_mono (global_sound (E := fun _ _ => False) B F I hd hk (.inl hm) ?_) (fun _ _ q => q) fun _ _ q => q.elim)
    refine callWithP_fn (plainArgs (evs_length ha)) (wpP_any (wpAny_mono (evs_sound S hA F I ha) (fun us s₁ h₁ => ?_) fun _ _ x => x.elim))
    refine elEAA h₁ fun as₁ g₁ I₁ hu => ?_
    try clear h₁
    have F₁ := F.grow g₁
    refine elEA (F₁.ns) fun m hn _ => ?_
    have off := F₁.offs env.locals (List.mem_cons_self ..)
    exact ⟨⟨o, fd, I₁.base a o ho, hdat⟩, wpP_mono (hct A env s₁ as₁ σ' us vs cls hA hfr hfl F.fn ⟨m, hn⟩ off.1 off.2 I₁ hu h) (fun _ _ q => q) fun e s' hr => ⟨s₁, as₁, g₁, I₁, hr⟩⟩
  refine wpP_bind (wpP_leaf (wpAny_standAt (wpP_bind (wpP_mono call (fun u s₁ h₁ => h₁.elim) fun e s' h' => ⟨hne, ?_⟩))))
  obtain ⟨s₁, as₁, g₁, I₁, a', a0, base, rfl, hfly, hos, hgk, hkb, hns, Vb⟩ := h'
  have F₁ := F.grow g₁
  refine wpAny_looks_onW hfr hfl hfly fun h₂ hheld hsm₂ => ?_
  refine wpAny_landsW (s := { s' with heap := h₂ }) hheld fun h₃ hfly₃ hsm₃ => ?_
  refine wpAny_mono (catch_sound (s' := { s' with heap := h₃ }) B F₁ hy hkb Vb hh hfly₃ (fun m hm => hsm₃.ns (hsm₂.ns (hns m hm))) hos hgk) (fun f s₄ h₄ => ?_) fun _ _ q => q
  refine elEAAA h₄ fun as₄ g₄ V₄ F₄ hf => ?_
  try clear h₄
  exact ⟨as₄, g₁.wide0.trans g₄, V₄, F₄, hf⟩
end
end Mine.Internal
end
section
set_option maxRecDepth 100000
set_option backward.match.sparseCases false
namespace Mine.Internal
open PySem PyProof.Rows
section
variable {P : Ctx → Prop} {prog : Program} {w : World} {h₀ : Heap} {mg mb : Str → Option Value} {k : Nat} {R : Rec} {T : Tab}
variable {A : Around} {env : Env} {s : Shared} {as : List Addr} {σ σ' : Sto} {ρ ρ' : Rho} {t : Bool}
theorem and3_no {a b c d : Bool} (h : b = false) : (a && b && c && d) = false := by rw [h, Bool.and_false, Bool.false_and, Bool.false_and]
theorem swaps_cell {x : Str} {px pos : Pos} {elt : Expr} {gens : List Comprehension} {scope : Scope} {n : Nat} (h : env.scope.names.lookup x = some .cell) : swapsWith (.ListComp elt gens scope pos) (some (.Name x px)) n env = pure false := by
  have hk : env.kindOf x = some .cell := h
  have hb : (env.kindOf x == some .local) = false := by rw [hk]; decide
  refine (?_ : (pure (env.blockKind == .function && env.kindOf x == some .local && px.line == (Expr.ListComp elt gens scope pos).pos.line && !(scope.names.any fun q => q.1 == x && (q.2 == .local || q.2 == .cell))) : Sem Bool) = pure false)
  exact congrArg _ (and3_no hb)
theorem isName_ok {e : Expr} (h : isName e = true) : ∃ x p, e = .Name x p := by
  have k : ∀ e, if isName e then ∃ x p, e = .Name x p else True := fun e => by
    cases e <;> first | exact True.intro | exact ⟨_, _, rfl⟩
  have := k e
  rw [h] at this
  exact this
theorem comp_assign (B : Bs h₀ mg mb) (S : Sd P prog w h₀ k R) (hZ : ZipOk prog w h₀ k R T) (hA : AOk k A) (F : FrI h₀ env s.heap as ρ) (V : Inv h₀ s.heap as σ) {x : Str} {px pos spos : Pos} {tgt elt iter : Expr} {ifs : List Expr} {scope : Scope} {v : PV}
    (hk : kindOk env.scope x = true) (hc : isName tgt = true ∨ env.scope.names.lookup x = some .cell) (h : comp T R ⟨env.scope, t⟩ ρ σ elt tgt iter ifs scope = some (v, σ')) :
    wpP P (model prog w) A (exec (.Assign [.Name x px] (.ListComp elt [⟨tgt, iter, ifs, 0⟩] scope pos) spos) env) (XP h₀ env s as .next (upd ρ x v) σ') (fun _ _ => False) s := by
  rcases hc with hn | hcell
  · refine elEE (isName_ok hn) fun y py eq29x1 => ?_
    subst eq29x1
    refine iteE h fun hsc zz => ?_
    clear h
    refine bndE zz fun sr σ₁ hs h => ?_
    clear zz
    refine mapE h fun q hq zz => ?_
    clear h
    rename _ => h
    obtain ⟨ys, σ₂⟩ := q
    cases h
    refine compT_inv hq (fun m n x y px py kk tp _ e2 _ _ _ _ _ => nomatch e2) fun x' px' hS e2 hx hc => ?_
    cases e2
    exact comp_st B S hA F V (scOk_of hsc) hs hS hx hc hk
  · rw [exec_Assign_Name env x px _ spos (swaps_cell hcell)]
    refine wpP_leaf (wpAny_standAt (wpP_leaf (wpAny_mono (comp_any B S hZ hA F V h) (fun u s₁ h₁ => ?_) fun _ _ x => x)))
    refine elEAA h₁ fun as₁ g₁ I₁ hv => ?_
    try clear h₁
    refine wpP_leaf (wpAny_standAt (wpP_leaf (wpAny_bindName (wpAny_mono (store_sound (F.grow g₁) I₁ (kind_of hk) hv) (fun _ s₂ h₂ => wpP_pure ?_) fun _ _ x => x))))
    refine elAA h₂ fun g₂ I₂ F₂ => ?_
    try clear h₂
    exact ⟨as₁, g₁.wide0.trans g₂, I₂, F₂, trivial⟩
structure TabOk (P : Ctx → Prop) (prog : Program) (w : World) (h₀ : Heap) (mg mb : Str → Option Value) (k : Nat) (T : Tab) : Prop where
  fn : ∀ f g, T.fn f = some g → FnOk (fun _ => True) prog w h₀ mg k f g
  sp : ∀ f g, T.sp f = some g → SpOk P prog w h₀ mg mb k f g
  exc : ∀ f g, T.exc f = some g → XcOk P prog w h₀ mg k f g
  gen : T.gen = escP
  gc : T.useGen = true → ∃ kg, kg + 2 ≤ k ∧ GenC prog w h₀ mg kg
theorem forV_inv {c : Cx} {tgt : Expr} {body : List Stmt} {S : Src} {fl : Fl} {Q : Prop} (h : forV T R c ρ σ body (tview tgt) S = some (fl, ρ', σ'))
    (hg : ∀ ps x y px py kk tp, S = .gens ps → T.useGen = true → tgt = .Tuple [.Name x px, .Name y py] kk tp → c.sc.names.lookup x = some .local → c.sc.names.lookup y = some .local → forP (fun u v ρ σ => exs R c (upd (upd ρ x u) y v) σ body) ps ρ σ = some (fl, ρ', σ') → Q)
    (hp : ∀ x px, S.Plain → tgt = .Name x px → kindOk c.sc x = true → forS (fun v ρ σ => exs R c (upd ρ x v) σ body) S 2000 0 ρ σ = some (fl, ρ', σ') → Q) : Q := by
  have ok := tview_ok tgt
  generalize tview tgt = tv at ok h
  have one : S.Plain → forOne R c ρ σ body S tv = some (fl, ρ', σ') → Q := fun hS h => by
    cases tv with
    | one x =>
      obtain ⟨px, rfl⟩ := ok
      exact iteE h fun hx h => hp x px hS rfl hx h
    | _ => exact noE h
  cases S with
  | zips m n => exact noE h
  | gens ps =>
    refine iteE h fun hu zz => ?_
    clear h
    rename _ => h
    cases tv with
    | two x y =>
      refine elEEEE ok fun px py kk tp eq69x2 => ?_
      try clear ok
      subst eq69x2
      exact iteE h fun hc h => hg ps x y px py kk tp rfl hu rfl hc.1 hc.2.1 h
    | _ => exact noE h
  | rng => exact one plain_rng h
  | lst => exact one plain_lst h
  | tup => exact one plain_tup h
theorem augI_ok {op : Operator} {i j k : Int} (h : augI op i j = some k) : (op = .Add ∧ k = i + j) ∨ (op = .Sub ∧ k = i - j) := by
  cases op with
  | Add => cases h; exact .inl ⟨rfl, rfl⟩
  | Sub => cases h; exact .inr ⟨rfl, rfl⟩
  | _ => cases h
theorem tries_sound (B : Bs h₀ mg mb) (TO : TabOk P prog w h₀ mg mb k T) (S : Sd P prog w h₀ k R) (hA : AOk k A) (hO : TopOk t A env) (F : FrI h₀ env s.heap as ρ) (I : Inv h₀ s.heap as σ) {fl : Fl} {x f : Str} {args : List Expr} {hs : List ExceptHandler} {px pf pc pa q : Pos}
    (hd : f ≠ "__debug__") (h : exV T R ⟨env.scope, t⟩ ρ σ (.tries x f args hs) = some (fl, ρ', σ')) :
    wpP P (model prog w) A (exec (.Try [.Assign [.Name x px] (.Call (.Name f pf) args [] pc) pa] hs [] [] q) env) (XP h₀ env s as fl ρ' σ') (fun _ _ => False) s := by
  refine bindE h fun g hg zz => ?_
  clear h
  refine iteE zz fun hc h => ?_
  clear zz
  refine bndE h fun vs σ₁ ha zz => ?_
  clear h
  rename _ => h
  refine elAA hc fun htop hx hk => ?_
  try clear hc
  cases hcls : (T.exc f).bind fun g => g vs with
  | some cls =>
    rw [hcls] at h
    refine bindE h fun p hh h => iteE h fun hy h => bindE hh fun l hl hh => ?_
    apply tpE h; clear h
    obtain ⟨p1, p2⟩ := p
    obtain ⟨py, tx, kk, cp, hp, rfl, rfl⟩ := hdS_ok hh
    have htop : t = true := htop
    subst htop
    exact bindE hcls fun gx he hcls => try_no B TO.exc S hA hO F I hd hk he ha hcls hy hl
  | none =>
    rw [hcls] at h
    refine bndE h fun v σ₂ hgv zz => ?_
    clear h
    rename _ => h
    apply tpE h; clear h
    exact try_ok B TO.sp S hA F I hd hk hx hg ha hgv
theorem ex_sound (L : Pl P) (B : Bs h₀ mg mb) (TO : TabOk P prog w h₀ mg mb k T) (S : Sd P prog w h₀ k R) (X : Xs P prog w h₀ k R) (hA : AOk k A) (hO : TopOk t A env) (F : FrI h₀ env s.heap as ρ) (I : Inv h₀ s.heap as σ) {st : Stmt} {fl : Fl}
    (h : exStep T R ⟨env.scope, t⟩ ρ σ st = some (fl, ρ', σ')) : wpP P (model prog w) A (exec st env) (XP h₀ env s as fl ρ' σ') (fun _ _ => False) s := by
  have ok := sview_ok st
  unfold exStep at h
  generalize sview st = v at ok h
  cases v with
  | app e =>
    obtain ⟨o, nm, apos, args, p, q, rfl, rfl⟩ := ok
    refine bndE h fun v σ₁ he zz => ?_
    clear h
    refine iteE zz fun hv h => ?_
    clear zz
    apply tpE h; clear h
    subst hv
    exact append_st S hA F I he
  | ret e =>
    apply exE ok; intro q; clear ok
    refine bndE h fun v σ₁ he zz => ?_
    clear h
    rename _ => h
    apply tpE h; clear h
    exact ret_st S hA F I he
  | asgC x elt tgt iter ifs scope =>
    refine elEEE ok fun p q r eq119x3 => ?_
    try clear ok
    subst eq119x3
    refine iteE h fun hc zz => ?_
    clear h
    refine bndE zz fun v σ₁ he h => ?_
    clear zz
    apply tpE h; clear h
    exact comp_assign B S (zip_ok B S) hA F I hc.1 hc.2 he
  | asg x e =>
    refine elAEE ok fun hc p q eq124x4 => ?_
    try clear ok
    subst eq124x4
    refine iteE h fun hk zz => ?_
    clear h
    refine bndE zz fun v σ₁ he h => ?_
    clear zz
    apply tpE h; clear h
    exact assign_st S hA F I hk hc he
  | two x y a b =>
    obtain ⟨_, _, _, _, _, _, _, _, _, _, _, rfl⟩ := ok
    refine iteE h fun hc zz => ?_
    clear h
    rename _ => h
    apply tpE h; clear h
    exact two_st hA F I hc.1 hc.2.1
  | item o i e =>
    refine elAEE ok fun hc p q eq134x5 => ?_
    try clear ok
    subst eq134x5
    refine bndE h fun v σ₁ h1 zz => ?_
    clear h
    refine bndE zz fun ov σ₂ h2 h => ?_
    clear zz
    refine bndE h fun u σ₃ h3 zz => ?_
    clear h
    refine bindE zz fun kk hkk h => ?_
    clear zz
    refine mapE h fun σ₄ h4 zz => ?_
    clear h
    rename _ => h
    cases h
    rw [asInt_ok hkk] at h3
    exact item_st S hA F I hc h1 h2 h3 h4
  | aug x op e =>
    refine elEE ok fun p q eq140x6 => ?_
    try clear ok
    subst eq140x6
    refine iteE h fun hc zz => ?_
    clear h
    refine bindE zz fun u hu h => ?_
    clear zz
    refine bindE h fun i hi zz => ?_
    clear h
    refine bndE zz fun v σ₁ he h => ?_
    clear zz
    refine bindE h fun j hj zz => ?_
    clear h
    refine mapE zz fun kk hkk h => ?_
    clear zz
    cases h
    rw [asInt_ok hi] at hu
    rw [asInt_ok hj] at he
    exact aug_st S hA F I hc.2 hu he (augI_ok hkk)
  | ifs tt b o =>
    apply exE ok; intro q; clear ok
    exact bndE h fun d σ₁ he h => if_st S X hA hO F I he h
  | fors tgt i b =>
    apply exE ok; intro q; clear ok
    refine bndE h fun sr σ₁ hs h => forV_inv h (fun ps x y px py kk tp e1 hu e2 hx hy h' => ?_) fun x px hS e2 hk h' => ?_
    · subst e1 e2
      refine elEA (TO.gc hu) fun kg hkg GC => ?_
      exact forG_sound L B S X hkg GC hA hO F I TO.gen hs hx hy h'
    · subst e2
      exact for_sound L B S X hA hO F I hs hS hk h'
  | tries x f args hs =>
    obtain ⟨hd, px, pf, pc, pa, q, rfl⟩ := ok
    exact tries_sound B TO S hA hO F I hd h
  | bad => exact noE h
theorem bcall_val (f : Str) (ps : List PV) (σ : Sto) (r : PV × Sto) (h : bcall f ps σ = some r) : ∃ v, bval f = some v := by
  refine bindE h fun v _ zz => ?_
  clear h
  rename _ => h
  refine ite2 h (fun e _ => ?_) fun n1 h => ite2 h (fun e _ => ?_) fun n2 h => ite2 h (fun e _ => ?_) fun n3 h => ite2 h (fun e _ => ?_) fun n4 h => ite2 h (fun e _ => ?_) fun n5 h => iteE h fun e _ => ?_ <;> subst e <;> exact ⟨_, rfl⟩
theorem all_sound (L : Pl P) (B : Bs h₀ mg mb) (TO : TabOk P prog w h₀ mg mb k T) : ∀ n, Sd P prog w h₀ k (recN T n) ∧ Xs P prog w h₀ k (recN T n)
  | 0 => ⟨⟨(fun _ _ _ h => by cases h), (fun _ _ _ h => by cases h), (fun _ _ _ h => by cases h)⟩, (fun _ _ _ _ h => by cases h)⟩
  | n + 1 => by
    obtain ⟨S, X⟩ := all_sound L B TO n
    exact ⟨⟨fun hA F I h => ev_sound B TO.fn (fun f _ => bcall_val f) S (zip_ok B S) hA F I h, fun hA F I h => tr_sound (T := T) S hA F I h, fun hA F I h => es_sound B TO.sp S hA F I h⟩, fun hA hO F I h => ex_sound L B TO S X hA hO F I h⟩
end
end Mine.Internal
end
section
set_option maxRecDepth 100000
set_option backward.match.sparseCases false
namespace Mine.Internal
open PySem PyProof.Rows
section
variable {T : Tab} {R : Rec} {n : Nat} {c : Cx} {ρ ρ₁ : Rho} {σ σ₁ : Sto}
theorem exs_cons {st : Stmt} {r : List Stmt} : exs R c ρ σ (st :: r) = flow (R.ex c ρ σ st) fun ρ σ => exs R c ρ σ r := rfl
theorem exs_next {st : Stmt} {r : List Stmt} (h : R.ex c ρ σ st = some (.next, ρ₁, σ₁)) : exs R c ρ σ (st :: r) = exs R c ρ₁ σ₁ r := by
  rw [exs_cons, h]; rfl
theorem exs_ret {st : Stmt} {r : List Stmt} {v : PV} (h : R.ex c ρ σ st = some (.ret v, ρ₁, σ₁)) : exs R c ρ σ (st :: r) = some (.ret v, ρ₁, σ₁) := by
  rw [exs_cons, h]; rfl
theorem exs_one {st : Stmt} : exs R c ρ σ [st] = R.ex c ρ σ st := by
  rw [exs_cons]
  cases h : R.ex c ρ σ st with
  | none => rfl
  | some x =>
    obtain ⟨f, ρ, σ⟩ := x
    cases f <;> rfl
end
noncomputable def SV.e1 : SV → Expr
  | .app e => e
  | .ret e => e
  | .asg _ e => e
  | .item o _ _ => o
  | .ifs t _ _ => t
  | .fors t _ _ => t
  | _ => default
noncomputable def SV.e2 : SV → Expr
  | .item _ i _ => i
  | .fors _ i _ => i
  | _ => default
noncomputable def SV.e3 : SV → Expr
  | .item _ _ e => e
  | _ => default
noncomputable def SV.b1 : SV → List Stmt
  | .ifs _ b _ => b
  | .fors _ _ b => b
  | _ => []
noncomputable def SV.b2 : SV → List Stmt
  | .ifs _ _ o => o
  | _ => []
noncomputable def SV.x : SV → Str
  | .asg x _ => x
  | _ => default
noncomputable def SV.isIf : SV → Bool
  | .ifs .. => true
  | _ => false
noncomputable def SV.isFor : SV → Bool
  | .fors .. => true
  | _ => false
noncomputable def SV.isRet : SV → Bool
  | .ret _ => true
  | _ => false
noncomputable def SV.isAsg : SV → Bool
  | .asg .. => true
  | _ => false
noncomputable def SV.isItem : SV → Bool
  | .item .. => true
  | _ => false
noncomputable def isSm (b : Bool) : Option Unit := if b then some () else none
theorem isSm_ok {b : Bool} (h : (isSm b).isSome = true) : b = true := by
  cases b <;> first | rfl | cases h
noncomputable def ifP (s : Stmt) : Option Unit := isSm (sview s).isIf
noncomputable def ifT (s : Stmt) : Expr := (sview s).e1
noncomputable def ifB (s : Stmt) : List Stmt := (sview s).b1
noncomputable def ifO (s : Stmt) : List Stmt := (sview s).b2
theorem if_eta {s : Stmt} (h : (ifP s).isSome = true) : sview s = .ifs (ifT s) (ifB s) (ifO s) := by
  have k : ∀ v : SV, v.isIf = true → v = .ifs v.e1 v.b1 v.b2 := fun v h => by
    cases v <;> first | rfl | cases h
  exact k _ (isSm_ok h)
noncomputable def forP' (s : Stmt) : Option Unit := isSm (sview s).isFor
noncomputable def forT (s : Stmt) : Expr := (sview s).e1
noncomputable def forI (s : Stmt) : Expr := (sview s).e2
noncomputable def forB (s : Stmt) : List Stmt := (sview s).b1
theorem for_eta {s : Stmt} (h : (forP' s).isSome = true) : sview s = .fors (forT s) (forI s) (forB s) := by
  have k : ∀ v : SV, v.isFor = true → v = .fors v.e1 v.e2 v.b1 := fun v h => by
    cases v <;> first | rfl | cases h
  exact k _ (isSm_ok h)
noncomputable def TV.p1 : TV → Option Str
  | .one x => some x
  | _ => none
noncomputable def TV.p2 : TV → Option (Str × Str)
  | .two x y => some (x, y)
  | _ => none
noncomputable def twoN (e : Expr) : Option (Str × Str) := (tview e).p2
noncomputable def oneN (e : Expr) : Option Str := (tview e).p1
theorem twoN_ok {e : Expr} {x y : Str} (h : twoN e = some (x, y)) : tview e = .two x y := by
  unfold twoN at h
  cases hv : tview e with
  | two a b => rw [hv] at h; cases h; rfl
  | _ => rw [hv] at h; cases h
theorem oneN_ok {e : Expr} {x : Str} (h : oneN e = some x) : tview e = .one x := by
  unfold oneN at h
  cases hv : tview e with
  | one a => rw [hv] at h; cases h; rfl
  | _ => rw [hv] at h; cases h
section
variable {T : Tab} {n : Nat} {c : Cx} {ρ : Rho} {σ σ₁ : Sto} {s : Stmt}
theorem ex_of {v : SV} (h : sview s = v) : (recN T (n + 1)).ex c ρ σ s = exV T (recN T n) c ρ σ v := congrArg (exV T (recN T n) c ρ σ) h
theorem bnd_of {α β γ : Type} {x : Option (α × β)} {k : α → β → Option γ} {a : α} {b : β} (h : x = some (a, b)) : bnd x k = k a b := by rw [h]; rfl
theorem bind_of {α β : Type} {x : Option α} {k : α → Option β} {a : α} (h : x = some a) : x.bind k = k a := by rw [h]; rfl
theorem ex_ifs {d : Bool} (hs : (ifP s).isSome = true) (h : (recN T n).tr c ρ σ (ifT s) = some (d, σ₁)) : (recN T (n + 1)).ex c ρ σ s = exs (recN T n) c ρ σ₁ (if d then ifB s else ifO s) :=
  (ex_of (if_eta hs)).trans (bnd_of h)
theorem ex_forG {x y : Str} {ps : List (PV × PV)} (hs : (forP' s).isSome = true) (ht : twoN (forT s) = some (x, y)) (hu : T.useGen = true) (hx : c.sc.names.lookup x = some .local) (hy : c.sc.names.lookup y = some .local) (hxy : x ≠ y)
    (h : src T (recN T n) c ρ σ (forI s) = some (.gens ps, σ₁)) :
    (recN T (n + 1)).ex c ρ σ s = forP (fun u v ρ σ => exs (recN T n) c (upd (upd ρ x u) y v) σ (forB s)) ps ρ σ₁ := by
  refine (ex_of (for_eta hs)).trans ((bnd_of h).trans ((if_pos hu).trans ?_))
  rw [twoN_ok ht]
  exact if_pos ⟨hx, hy, hxy⟩
theorem ex_forS {x : Str} {sr : Src} (hs : (forP' s).isSome = true) (ht : oneN (forT s) = some x) (hk : kindOk c.sc x = true) (hsr : match sr with | .gens _ => False | .zips _ _ => False | _ => True)
    (h : src T (recN T n) c ρ σ (forI s) = some (sr, σ₁)) :
    (recN T (n + 1)).ex c ρ σ s = forS (fun v ρ σ => exs (recN T n) c (upd ρ x v) σ (forB s)) sr 2000 0 ρ σ₁ := by
  refine (ex_of (for_eta hs)).trans ((bnd_of h).trans ?_)
  rw [oneN_ok ht]
  cases sr <;> first | exact hsr.elim | exact if_pos hk
end
theorem some_of {α : Type} {o : Option α} (h : o.isSome = true) : ∃ r, o = some r := Option.isSome_iff_exists.mp h
noncomputable def V.ap : V → Option (Expr × Expr)
  | .meth nm o args => if nm = "append" then (one1 args).bind fun a => if isStar a = false then some (o, a) else none else none
  | _ => none
noncomputable def SV.ap : SV → Option (Expr × Expr)
  | .app e => (view e).ap
  | _ => none
noncomputable def appP (s : Stmt) : Option (Expr × Expr) := (sview s).ap
noncomputable def appO (s : Stmt) : Expr := match appP s with | some r => r.1 | none => default
noncomputable def appA (s : Stmt) : Expr := match appP s with | some r => r.2 | none => default
theorem vap_ok {v : V} {r : Expr × Expr} (h : v.ap = some r) : v = .meth (Str.ofString "append") r.1 [r.2] ∧ isStar r.2 = false := by
  cases v with
  | meth nm o args =>
    refine iteE h fun hn zz => ?_
    clear h
    refine bindE zz fun a ha h => ?_
    clear zz
    refine iteE h fun hs zz => ?_
    clear h
    rename _ => h
    cases h
    rw [hn, one1_some ha]
    exact ⟨rfl, hs⟩
  | _ => cases h
theorem appP_ok {s : Stmt} {r : Expr × Expr} (h : appP s = some r) : ∃ e, sview s = .app e ∧ view e = .meth (Str.ofString "append") r.1 [r.2] ∧ isStar r.2 = false := by
  have k : ∀ v : SV, v.ap = some r → ∃ e, v = .app e ∧ view e = .meth (Str.ofString "append") r.1 [r.2] ∧ isStar r.2 = false := fun v h => by
    cases v with
    | app e => exact ⟨e, rfl, vap_ok h⟩
    | _ => cases h
  exact k _ h
theorem ev_of {T : Tab} {n : Nat} {c : Cx} {ρ : Rho} {σ : Sto} {e : Expr} {v : V} (h : view e = v) : (recN T (n + 1)).ev c ρ σ e = evV T (recN T n) c ρ σ v := congrArg (evV T (recN T n) c ρ σ) h
theorem evs_cons {R : Rec} {c : Cx} {ρ : Rho} {σ σ₁ σ₂ : Sto} {e : Expr} {r : List Expr} {v : PV} {vs : List PV} (hs : isStar e = false) (h : R.ev c ρ σ e = some (v, σ₁)) (hr : evs R c ρ σ₁ r = some (vs, σ₂)) : evs R c ρ σ (e :: r) = some (v :: vs, σ₂) :=
  (if_neg (Bool.eq_false_iff.mp hs)).trans ((bnd_of h).trans (bnd_of hr))
theorem evs_nil {R : Rec} {c : Cx} {ρ : Rho} {σ : Sto} : evs R c ρ σ [] = some ([], σ) := rfl
theorem esL_cons {R : Rec} {c : Cx} {ρ : Rho} {σ σ₁ σ₂ : Sto} {e : Expr} {r : List Expr} {v : PV} {vs : List PV} (hs : isStar e = false) (h : R.es c ρ σ e = some (v, σ₁)) (hr : esL R c ρ σ₁ r = some (vs, σ₂)) : esL R c ρ σ (e :: r) = some (v :: vs, σ₂) :=
  (if_neg (Bool.eq_false_iff.mp hs)).trans ((bnd_of h).trans (bnd_of hr))
theorem listAt_get {σ : Sto} {m : Nat} {vs : List PV} (h : σ[m]? = some (.list vs)) : listAt σ (.ref m) = some vs := bind_of (k := asList) h
theorem ex_app {T : Tab} {n m : Nat} {c : Cx} {ρ : Rho} {σ σ₁ : Sto} {s : Stmt} {v : PV} {vs : List PV} (hs : (appP s).isSome = true) (ho : (recN T n).ev c ρ σ (appO s) = some (.ref m, σ)) (hv : (recN T n).ev c ρ σ (appA s) = some (v, σ₁)) (h0 : ∃ us, σ[m]? = some (.list us)) (hl : σ₁[m]? = some (.list vs)) (hn : vs.length ≤ lim) :
    (recN T (n + 2)).ex c ρ σ s = some (.next, ρ, σ₁.set m (.list (vs ++ [v]))) := by
  obtain ⟨r, hr⟩ := some_of hs
  unfold appO at ho
  unfold appA at hv
  rw [hr] at ho hv
  refine elEAA (appP_ok hr) fun e h1 h2 h3 => ?_
  obtain ⟨us, hus⟩ := h0
  have hm : mcall (Str.ofString "append") (.ref m) [v] σ₁ = some (.none, σ₁.set m (.list (vs ++ [v]))) := by
    refine (?_ : mList (Str.ofString "append") m v σ₁ = _)
    unfold mList
    rw [if_pos rfl]
    exact (bind_of (listAt_get hl)).trans (if_pos hn)
  have hmid : mid (Str.ofString "append") (.ref m) σ = some ("list", "list.append") := (bind_of (listAt_get hus)).trans (if_pos rfl)
  have hev : (recN T (n + 1)).ev c ρ σ e = some (.none, σ₁.set m (.list (vs ++ [v]))) :=
    (ev_of h2).trans ((bnd_of ho).trans ((bind_of hmid).trans ((bnd_of (evs_cons h3 hv evs_nil)).trans hm)))
  exact (ex_of h1).trans ((bnd_of hev).trans (if_pos rfl))
noncomputable def V.cm : V → Option (Expr × CmpOp × Expr)
  | .cmp op l r => some (l, op, r)
  | _ => none
noncomputable def cmpP (e : Expr) : Option (Expr × CmpOp × Expr) := (view e).cm
noncomputable def cmL (e : Expr) : Expr := match cmpP e with | some r => r.1 | none => default
noncomputable def cmR (e : Expr) : Expr := match cmpP e with | some r => r.2.2 | none => default
noncomputable def cmO (e : Expr) : CmpOp := match cmpP e with | some r => r.2.1 | none => .Eq
theorem cmp_eta {e : Expr} (h : (cmpP e).isSome = true) : view e = .cmp (cmO e) (cmL e) (cmR e) := by
  obtain ⟨r, hr⟩ := some_of h
  have k : ∀ v : V, v.cm = some r → v = .cmp r.2.1 r.1 r.2.2 := fun v h => by
    cases v <;> first | (cases h; rfl) | cases h
  unfold cmO cmL cmR
  rw [hr]
  exact k _ hr
section
variable {T : Tab} {n : Nat} {c : Cx} {ρ : Rho} {σ σ₁ σ₂ : Sto} {e : Expr} {a b : PV} {d : Bool}
theorem tr_of {v : V} (h : view e = v) : (recN T (n + 1)).tr c ρ σ e = trV (recN T n) c ρ σ e v := congrArg (trV (recN T n) c ρ σ e) h
theorem es_of {v : V} (h : view e = v) : (recN T (n + 1)).es c ρ σ e = esV T (recN T n) c ρ σ e v := congrArg (esV T (recN T n) c ρ σ e) h
theorem tr_cmp (h : (cmpP e).isSome = true) (hl : (recN T n).ev c ρ σ (cmL e) = some (a, σ₁)) (hr : (recN T n).ev c ρ σ₁ (cmR e) = some (b, σ₂)) (hc : cmpop (cmO e) a b σ₂ = some d) : (recN T (n + 1)).tr c ρ σ e = some (d, σ₂) :=
  (tr_of (cmp_eta h)).trans ((bnd_of hl).trans ((bnd_of hr).trans (congrArg (Option.map fun t => (t, σ₂)) hc)))
end
noncomputable def V.ng : V → Option Expr
  | .not x => some x
  | _ => none
theorem ng_ok {v : V} {x : Expr} (h : v.ng = some x) : v = .not x := by
  cases v <;> first | (cases h; rfl) | cases h
theorem trV_plain {R : Rec} {c : Cx} {ρ : Rho} {σ : Sto} {e : Expr} {v : V} (h : v.plain = true) : trV R c ρ σ e v = bnd (R.ev c ρ σ e) fun v σ => (truth v).map fun b => (b, σ) := by
  cases v <;> first | rfl | cases h
theorem tr_plain {T : Tab} {n : Nat} {c : Cx} {ρ : Rho} {σ σ₁ : Sto} {e : Expr} {v : PV} {b : Bool} (h : (view e).plain = true) (hx : (recN T n).ev c ρ σ e = some (v, σ₁)) (hb : truth v = some b) : (recN T (n + 1)).tr c ρ σ e = some (b, σ₁) :=
  (trV_plain h).trans ((bnd_of hx).trans (congrArg (Option.map fun b => (b, σ₁)) hb))
noncomputable def retP (s : Stmt) : Option Unit := isSm (sview s).isRet
noncomputable def retE (s : Stmt) : Expr := (sview s).e1
theorem ex_ret {T : Tab} {n : Nat} {c : Cx} {ρ : Rho} {σ σ₁ : Sto} {s : Stmt} {v : PV} (h : (retP s).isSome = true) (he : (recN T n).es c ρ σ (retE s) = some (v, σ₁)) : (recN T (n + 1)).ex c ρ σ s = some (.ret v, ρ, σ₁) := by
  have k : ∀ v : SV, v.isRet = true → v = .ret v.e1 := fun v h => by
    cases v <;> first | rfl | cases h
  exact (ex_of (k _ (isSm_ok h))).trans (bnd_of he)
noncomputable def asgP (s : Stmt) : Option Unit := isSm (sview s).isAsg
noncomputable def asN (s : Stmt) : Str := (sview s).x
noncomputable def asE (s : Stmt) : Expr := (sview s).e1
theorem asg_eta {s : Stmt} (h : (asgP s).isSome = true) : sview s = .asg (asN s) (asE s) := by
  have k : ∀ v : SV, v.isAsg = true → v = .asg v.x v.e1 := fun v h => by
    cases v <;> first | rfl | cases h
  exact k _ (isSm_ok h)
theorem ex_asg {T : Tab} {n : Nat} {c : Cx} {ρ : Rho} {σ σ₁ : Sto} {s : Stmt} {v : PV} (h : (asgP s).isSome = true) (hk : kindOk c.sc (asN s) = true) (he : (recN T n).es c ρ σ (asE s) = some (v, σ₁)) : (recN T (n + 1)).ex c ρ σ s = some (.next, upd ρ (asN s) v, σ₁) :=
  (ex_of (asg_eta h)).trans ((if_pos hk).trans (bnd_of he))
noncomputable def V.c1 : V → Option (Str × Expr)
  | .call f args => (one1 args).bind fun a => if isStar a = false then some (f, a) else none
  | _ => none
noncomputable def cl1P (e : Expr) : Option (Str × Expr) := (view e).c1
noncomputable def c1F (e : Expr) : Str := match cl1P e with | some r => r.1 | none => default
noncomputable def c1A (e : Expr) : Expr := match cl1P e with | some r => r.2 | none => default
theorem es_sp1 {T : Tab} {n : Nat} {c : Cx} {ρ : Rho} {σ σ₁ : Sto} {e : Expr} {v : PV} {g : Nat1} (h : (cl1P e).isSome = true) (hg : T.sp (c1F e) = some g) (_hd : c1F e ≠ "__debug__") (hk : c.sc.names.lookup (c1F e) = some NameKind.globalImplicit) (ha : (recN T n).es c ρ σ (c1A e) = some (v, σ₁)) :
    (recN T (n + 1)).es c ρ σ e = g [v] σ₁ := by
  obtain ⟨r, hr⟩ := some_of h
  unfold c1F at hg hk
  unfold c1A at ha
  rw [hr] at hg hk ha
  have k : ∀ v : V, v.c1 = some r → v = .call r.1 [r.2] ∧ isStar r.2 = false := fun v h => by
    cases v with
    | call f args =>
      refine bindE h fun a ha' zz => ?_
      clear h
      refine iteE zz fun hs h => ?_
      clear zz
      cases h
      rw [one1_some ha']
      exact ⟨rfl, hs⟩
    | _ => cases h
  obtain ⟨h1, h2⟩ := k _ hr
  refine (es_of h1).trans ?_
  show (match T.sp r.1 with | some g => _ | none => _) = _
  rw [hg]
  exact (if_pos hk).trans (bnd_of (esL_cons h2 ha rfl))
noncomputable def V.c2 : V → Option (Str × Expr × Expr)
  | .call f args => (two2 args).bind fun p => if isStar p.1 = false ∧ isStar p.2 = false then some (f, p.1, p.2) else none
  | _ => none
noncomputable def cl2P (e : Expr) : Option (Str × Expr × Expr) := (view e).c2
noncomputable def c2F (e : Expr) : Str := match cl2P e with | some r => r.1 | none => default
noncomputable def c2A (e : Expr) : Expr := match cl2P e with | some r => r.2.1 | none => default
noncomputable def c2B (e : Expr) : Expr := match cl2P e with | some r => r.2.2 | none => default
theorem es_sp2 {T : Tab} {n : Nat} {c : Cx} {ρ : Rho} {σ σ₁ σ₂ : Sto} {e : Expr} {u v : PV} {g : Nat1} (h : (cl2P e).isSome = true) (hg : T.sp (c2F e) = some g) (_hd : c2F e ≠ "__debug__") (hk : c.sc.names.lookup (c2F e) = some NameKind.globalImplicit) (ha : (recN T n).es c ρ σ (c2A e) = some (u, σ₁)) (hb : (recN T n).es c ρ σ₁ (c2B e) = some (v, σ₂)) :
    (recN T (n + 1)).es c ρ σ e = g [u, v] σ₂ := by
  obtain ⟨r, hr⟩ := some_of h
  unfold c2F at hg hk
  unfold c2A at ha
  unfold c2B at hb
  rw [hr] at hg hk ha hb
  have k : ∀ v : V, v.c2 = some r → v = .call r.1 [r.2.1, r.2.2] ∧ isStar r.2.1 = false ∧ isStar r.2.2 = false := fun v h => by
    cases v with
    | call f args =>
      refine bindE h fun a ha' zz => ?_
      clear h
      refine iteE zz fun hs h => ?_
      clear zz
      cases h
      rw [two2_ok ha']
      exact ⟨rfl, hs⟩
    | _ => cases h
  refine elAA (k _ hr) fun h1 h2 h3 => ?_
  refine (es_of h1).trans ?_
  show (match T.sp r.1 with | some g => _ | none => _) = _
  rw [hg]
  exact (if_pos hk).trans (bnd_of (esL_cons h2 ha (esL_cons h3 hb rfl)))
noncomputable def V.rg : V → Option (List Expr)
  | .call f args => if f = "range" then some args else none
  | _ => none
noncomputable def rngP (e : Expr) : Option (List Expr) := (view e).rg
noncomputable def rgA (e : Expr) : List Expr := match rngP e with | some l => l | none => []
theorem src_of {T : Tab} {R : Rec} {c : Cx} {ρ : Rho} {σ : Sto} {e : Expr} {v : V} (h : view e = v) : src T R c ρ σ e = srcV T R c ρ σ e v := congrArg (srcV T R c ρ σ e) h
theorem src_rng {T : Tab} {R : Rec} {c : Cx} {ρ : Rho} {σ σ₁ : Sto} {e : Expr} {vs : List PV} {is : List Int} {sr : Src} (h : (rngP e).isSome = true) (hk : c.sc.names.lookup (Str.ofString "range") = some .globalImplicit) (ha : evs R c ρ σ (rgA e) = some (vs, σ₁)) (hi : pvInts vs = some is) (hs : smallAll is = true) (hr : rangeOf is = some sr) :
    src T R c ρ σ e = some (sr, σ₁) := by
  obtain ⟨l, hl⟩ := some_of h
  unfold rgA at ha
  rw [hl] at ha
  have k : ∀ v : V, v.rg = some l → v = .call (Str.ofString "range") l := fun v h => by
    cases v with
    | call f args =>
      refine iteE h fun hf zz => ?_
      clear h
      rename _ => h
      cases h
      rw [hf]
    | _ => cases h
  have hF : srcF T (Str.ofString "range") vs σ₁ = some sr := (if_pos rfl).trans ((bind_of hi).trans ((if_pos hs).trans hr))
  exact (src_of (k _ hl)).trans ((if_pos hk).trans ((bnd_of ha).trans (congrArg (Option.map fun s => (s, σ₁)) hF)))
noncomputable def setP (s : Stmt) : Option Unit := isSm (sview s).isItem
noncomputable def stO (s : Stmt) : Expr := (sview s).e1
noncomputable def stI (s : Stmt) : Expr := (sview s).e2
noncomputable def stV (s : Stmt) : Expr := (sview s).e3
theorem set_eta {s : Stmt} (h : (setP s).isSome = true) : sview s = .item (stO s) (stI s) (stV s) := by
  have k : ∀ v : SV, v.isItem = true → v = .item v.e1 v.e2 v.e3 := fun v h => by
    cases v <;> first | rfl | cases h
  exact k _ (isSm_ok h)
theorem ex_set {T : Tab} {n : Nat} {c : Cx} {ρ : Rho} {σ σ₁ σ₂ σ₃ σ₄ : Sto} {s : Stmt} {v ov : PV} {k : Int} (h : (setP s).isSome = true) (hv : (recN T n).ev c ρ σ (stV s) = some (v, σ₁)) (ho : (recN T n).ev c ρ σ₁ (stO s) = some (ov, σ₂)) (hi : (recN T n).ev c ρ σ₂ (stI s) = some (.int k, σ₃)) (hs : setBA σ₃ ov k v = some σ₄) :
    (recN T (n + 1)).ex c ρ σ s = some (.next, ρ, σ₄) :=
  (ex_of (set_eta h)).trans ((bnd_of hv).trans ((bnd_of ho).trans ((bnd_of hi).trans (congrArg (Option.map fun σ => (Fl.next, ρ, σ)) hs))))
theorem forS_turn {step : PV → Rho → Sto → Turn} {S : Src} {k i : Nat} {ρ ρ₁ : Rho} {σ σ₁ : Sto} {v : PV} (hn : nx S i σ = some (some v)) (h : step v ρ σ = some (.next, ρ₁, σ₁)) : forS step S (k + 1) i ρ σ = forS step S k (i + 1) ρ₁ σ₁ :=
  (bind_of hn).trans (bind_of (x := step v ρ σ) h)
theorem forS_stop {step : PV → Rho → Sto → Turn} {S : Src} {k i : Nat} {ρ ρ₁ : Rho} {σ σ₁ : Sto} {v w : PV} (hn : nx S i σ = some (some v)) (h : step v ρ σ = some (.ret w, ρ₁, σ₁)) : forS step S (k + 1) i ρ σ = some (.ret w, ρ₁, σ₁) :=
  (bind_of hn).trans (bind_of (x := step v ρ σ) h)
theorem forS_end {step : PV → Rho → Sto → Turn} {S : Src} {k i : Nat} {ρ : Rho} {σ : Sto} (hn : nx S i σ = some none) : forS step S (k + 1) i ρ σ = some (.next, ρ, σ) := bind_of hn
theorem forP_turn {step : PV → PV → Rho → Sto → Turn} {u v : PV} {vs : List (PV × PV)} {ρ ρ₁ : Rho} {σ σ₁ : Sto} (h : step u v ρ σ = some (.next, ρ₁, σ₁)) : forP step ((u, v) :: vs) ρ σ = forP step vs ρ₁ σ₁ := bind_of (x := step u v ρ σ) h
theorem forP_stop {step : PV → PV → Rho → Sto → Turn} {u v w : PV} {vs : List (PV × PV)} {ρ ρ₁ : Rho} {σ σ₁ : Sto} (h : step u v ρ σ = some (.ret w, ρ₁, σ₁)) : forP step ((u, v) :: vs) ρ σ = some (.ret w, ρ₁, σ₁) := bind_of (x := step u v ρ σ) h
theorem nx_rng {a c : Int} {n i : Nat} {σ : Sto} (h : i < n) : nx (.rng a c n) i σ = some (some (.int (a + i * c))) := congrArg some (if_pos h)
theorem nx_rng_end {a c : Int} {n i : Nat} {σ : Sto} (h : ¬ i < n) : nx (.rng a c n) i σ = some none := congrArg some (if_neg h)
noncomputable def fnDef (f : Str) : Option (List Stmt × Scope) := (PySem.Challenge.pw_pg0065_01.main.body.filterMap fun s => match s with | .FunctionDef n _ b _ _ _ sc _ _ _ => if n = f then some (b, sc) else none | _ => none).head?
noncomputable def fB (f : Str) : List Stmt := match fnDef f with | some (b, _) => b | none => []
noncomputable def fS (f : Str) : Scope := match fnDef f with | some (_, s) => s | none => default
noncomputable def nth (l : List Stmt) (i : Nat) : Stmt := l.getD i (.Pass default)
end Mine.Internal
end
section
set_option maxRecDepth 100000
set_option backward.match.sparseCases false
namespace Mine.Internal
open PySem PyProof.Rows
noncomputable abbrev zB : List Stmt := fB "_strip_quoted_realnames"
noncomputable abbrev zC : Cx := ⟨fS "_strip_quoted_realnames", false⟩
noncomputable abbrev zF : Stmt := nth zB 4
noncomputable abbrev z0 : Stmt := nth (forB zF) 0
noncomputable abbrev z1 : Stmt := nth (ifB z0) 0
noncomputable abbrev za : Stmt := nth (ifB z1) 0
noncomputable abbrev z3 : Stmt := nth (ifO z1) 0
noncomputable abbrev zp : Stmt := nth (ifB z3) 0
noncomputable abbrev zb : Stmt := nth (ifO z1) 1
noncomputable abbrev zc : Stmt := nth (ifO z1) 2
noncomputable abbrev z5 : Stmt := nth zB 5
noncomputable abbrev zq : Stmt := nth (ifB z5) 0
theorem z_body : zB = [nth zB 0, nth zB 1, nth zB 2, nth zB 3, zF, z5, nth zB 6] ∧ forB zF = [z0] ∧ ifB z0 = [z1] ∧ ifO z0 = [] ∧ ifB z1 = [za] ∧ ifO z1 = [z3, zb, zc] ∧ ifB z3 = [zp] ∧ ifO z3 = [] ∧ ifB z5 = [zq] ∧ ifO z5 = [] :=
  ⟨by kernel_rfl, by kernel_rfl, by kernel_rfl, by kernel_rfl, by kernel_rfl, by kernel_rfl, by kernel_rfl, by kernel_rfl, by kernel_rfl, by kernel_rfl⟩
theorem z_kinds : (ifP (nth zB 0)).isSome = true ∧ (forP' zF).isSome = true ∧ (ifP z0).isSome = true ∧ (ifP z1).isSome = true ∧ (ifP z3).isSome = true ∧ (appP zp).isSome = true ∧ (ifP z5).isSome = true ∧ (appP zq).isSome = true ∧ twoN (forT zF) = some ((Str.ofString "pos"), (Str.ofString "ch")) :=
  ⟨by kernel_rfl, by kernel_rfl, by kernel_rfl, by kernel_rfl, by kernel_rfl, by kernel_rfl, by kernel_rfl, by kernel_rfl, by kernel_rfl⟩
noncomputable def opv : Option Nat → PV
  | none => .none
  | some o => .int o
noncomputable abbrev zρ (x : List Nat) (st : Nat) (op : PV) (p : Nat) (ch : List Nat) : Rho := [("addr", .str x), ("start", .int st), ("open_pos", op), ("result", .ref 0), ("pos", .int p), ("ch", .str ch)]
noncomputable abbrev zρ0 (x : List Nat) (st : Nat) (op : PV) : Rho := [("addr", .str x), ("start", .int st), ("open_pos", op), ("result", .ref 0)]
section
variable {x ch : List Nat} {st p o : Nat} {op : PV} {σ : Sto}
theorem zt0 : (recN T0 8).tr zC (zρ x st op p ch) σ (ifT z0) = some (ch == [34], σ) := by kernel_rfl
theorem zt1n : (recN T0 7).tr zC (zρ x st .none p ch) σ (ifT z1) = some (true, σ) := by kernel_rfl
theorem zt1s : (recN T0 7).tr zC (zρ x st (.int o) p ch) σ (ifT z1) = some (false, σ) := by kernel_rfl
theorem ze_a : (recN T0 7).ex zC (zρ x st .none p ch) σ za = some (.next, zρ x st (.int p) p ch, σ) := by kernel_rfl
theorem zt3 : (recN T0 6).tr zC (zρ x st (.int o) p ch) σ (ifT z3) = some ((st : Int) != (o : Int), σ) := by kernel_rfl
theorem ze_po : (recN T0 4).ev zC (zρ x st op p ch) σ (appO zp) = some (.ref 0, σ) := by kernel_rfl
theorem ze_pa : (recN T0 4).ev zC (zρ x st (.int o) p ch) σ (appA zp) = slc (.str x) (some (st : Int)) (some (o : Int)) false σ := by kernel_rfl
theorem ze_b : (recN T0 7).ex zC (zρ x st op p ch) σ zb = some (.next, zρ x (p + 1) op p ch, σ) := by kernel_rfl
theorem ze_c : (recN T0 7).ex zC (zρ x st op p ch) σ zc = some (.next, zρ x st .none p ch, σ) := by kernel_rfl
theorem z_up : upd (upd (zρ0 x st op) "pos" (.int p)) "ch" (.str ch) = zρ x st op p ch := by kernel_rfl
theorem z_up' {p' : Nat} {ch' : List Nat} : upd (upd (zρ x st op p ch) "pos" (.int p')) "ch" (.str ch') = zρ x st op p' ch' := by kernel_rfl
end
theorem slc_str {x : List Nat} {a b : Nat} {σ : Sto} (h1 : a ≤ b) (h2 : b ≤ x.length) (h3 : x.length ≤ lim) : slc (.str x) (some (a : Int)) (some (b : Int)) false σ = some (.str ((x.take b).drop a), σ) := by
  unfold slc
  rw [if_pos (by simp)]
  exact if_pos ⟨h3, rfl, by omega, by omega⟩
theorem slc_str1 {x : List Nat} {a : Nat} {σ : Sto} (h2 : a ≤ x.length) (h3 : x.length ≤ lim) : slc (.str x) (some (a : Int)) none false σ = some (.str (x.drop a), σ) := by
  unfold slc
  rw [if_pos (by simp)]
  exact if_pos ⟨h3, rfl, by omega⟩
theorem joinN_snoc : ∀ (l : List (List Nat)) (y : List Nat), joinN [] (l ++ [y]) = joinN [] l ++ y
  | [], y => by simp [joinN]
  | [a], y => by simp [joinN]
  | a :: b :: r, y => by
    have := joinN_snoc (b :: r) y
    simp only [List.cons_append, joinN] at this ⊢
    rw [this]; simp
noncomputable def ZOk (x : List Nat) (st : Nat) (op : Option Nat) (ps : List (Nat × List Nat)) : Prop :=
  ps.Pairwise (fun a b => a.1 < b.1) ∧ (∀ q ∈ ps, q.1 < x.length) ∧ match op with
    | none => (∀ q ∈ ps, st ≤ q.1) ∧ st ≤ x.length
    | some o => st ≤ o ∧ o < x.length ∧ ∀ q ∈ ps, o < q.1
noncomputable def stepZ (x : List Nat) (st : Nat) (op : Option Nat) (pcs : List (List Nat)) (p : Nat) (ch : List Nat) : Nat × Option Nat × List (List Nat) :=
  if ch = [34] then match op with
    | none => (st, some p, pcs)
    | some o => (p + 1, none, if st = o then pcs else pcs ++ [(x.take o).drop st])
  else (st, op, pcs)
theorem strip_turn {x : List Nat} (hx : x.length ≤ 10000) {st p : Nat} {op : Option Nat} {pcs : List (List Nat)} {ch : List Nat} (hop : ∀ o, op = some o → st ≤ o ∧ o < x.length) (hn : pcs.length ≤ 20000) :
    exs (recN T0 9) zC (zρ x st (opv op) p ch) [.list (pcs.map .str)] (forB zF) = some (.next, zρ x (stepZ x st op pcs p ch).1 (opv (stepZ x st op pcs p ch).2.1) p ch, [.list ((stepZ x st op pcs p ch).2.2.map .str)]) := by
  rw [z_body.2.1, exs_one, ex_ifs z_kinds.2.2.1 zt0]
  unfold stepZ
  by_cases hch : ch = [34]
  · have hb : (ch == [34]) = true := by simpa using hch
    rw [hb, if_pos rfl, z_body.2.2.1, exs_one, if_pos hch]
    cases op with
    | none =>
      rw [show opv none = PV.none from rfl, ex_ifs z_kinds.2.2.2.1 zt1n, if_pos rfl, z_body.2.2.2.2.1, exs_one, ze_a]
      rfl
    | some o =>
      rw [show opv (some o) = PV.int o from rfl, ex_ifs z_kinds.2.2.2.1 zt1s, if_neg Bool.false_ne_true, z_body.2.2.2.2.2.1]
      obtain ⟨ho1, ho2⟩ := hop o rfl
      have hex3 : (recN T0 7).ex zC (zρ x st (.int o) p ch) [.list (pcs.map .str)] z3 = some (.next, zρ x st (.int o) p ch, [.list ((if st = o then pcs else pcs ++ [(x.take o).drop st]).map .str)]) := by
        rw [ex_ifs z_kinds.2.2.2.2.1 zt3]
        by_cases hso : st = o
        · have : ((st : Int) != (o : Int)) = false := by simp [hso]
          rw [this, if_neg Bool.false_ne_true, z_body.2.2.2.2.2.2.2.1, if_pos hso]; rfl
        · have : ((st : Int) != (o : Int)) = true := by simp; omega
          rw [this, if_pos rfl, z_body.2.2.2.2.2.2.1, exs_one, if_neg hso]
          rw [ex_app z_kinds.2.2.2.2.2.1 ze_po (ze_pa.trans (slc_str ho1 (by omega) (by unfold lim; omega))) ⟨_, rfl⟩ rfl (by simp; unfold lim; omega)]
          simp
      rw [exs_next hex3, exs_next ze_b, exs_next ze_c]
      rfl
  · have hb : (ch == [34]) = false := by simpa using hch
    rw [hb, if_neg Bool.false_ne_true, z_body.2.2.2.1, if_neg hch]
    rfl
noncomputable abbrev zStep : PV → PV → Rho → Sto → Turn := fun u v ρ σ => exs (recN T0 9) zC (upd (upd ρ (Str.ofString "pos") u) (Str.ofString "ch") v) σ (forB zF)
theorem strip_loop {x : List Nat} (hx : x.length ≤ 10000) : ∀ (ps : List (Nat × List Nat)) (st : Nat) (op : Option Nat) (pcs : List (List Nat)) (ρ : Rho), ZOk x st op ps → (ρ = zρ0 x st (opv op) ∨ ∃ p ch, ρ = zρ x st (opv op) p ch) → pcs.length + ps.length ≤ 20000 → (joinN [] pcs).length ≤ st →
    ∃ st' op' pcs' ρ', forP zStep (ps.map genP) ρ [.list (pcs.map .str)] = some (.next, ρ', [.list (pcs'.map .str)]) ∧
      (ρ' = zρ0 x st' op' ∨ ∃ p ch, ρ' = zρ x st' op' p ch) ∧ stripGo x ps st op (joinN [] pcs) = (st', joinN [] pcs') ∧ st' ≤ x.length ∧ (joinN [] pcs').length ≤ st' ∧ pcs'.length ≤ 20000 := by
  intro ps
  induction ps with
  | nil =>
    intro st op pcs ρ hok hρ hn hj
    refine ⟨st, opv op, pcs, ρ, rfl, hρ, rfl, ?_, hj, by simpa using hn⟩
    refine elAA hok fun _ _ h => ?_
    try clear hok
    cases op with
    | none => exact h.2
    | some o => have := h.1; have := h.2.1; omega
  | cons q ps ih =>
    intro st op pcs ρ hok hρ hn hj
    obtain ⟨p, ch⟩ := q
    refine elAA hok fun hsort hlt hop => ?_
    try clear hok
    have hsort' := List.pairwise_cons.mp hsort
    have hpx : p < x.length := hlt (p, ch) (List.mem_cons_self ..)
    have hup : upd (upd ρ (Str.ofString "pos") (.int p)) (Str.ofString "ch") (.str ch) = zρ x st (opv op) p ch := by
      rcases hρ with rfl | ⟨p', ch', rfl⟩
      · exact z_up
      · exact z_up'
    have hlt' : ∀ q ∈ ps, q.1 < x.length := fun q hq => hlt q (List.mem_cons_of_mem _ hq)
    have hgt : ∀ q ∈ ps, p < q.1 := fun q hq => hsort'.1 q hq
    simp only [List.length_cons] at hn
    have turn := strip_turn hx (st := st) (p := p) (op := op) (pcs := pcs) (ch := ch) (fun o ho => by subst ho; exact ⟨hop.1, hop.2.1⟩) (by omega)
    have hstep : forP zStep (((p, ch) :: ps).map genP) ρ [.list (pcs.map .str)] =
        forP zStep (ps.map genP) (zρ x (stepZ x st op pcs p ch).1 (opv (stepZ x st op pcs p ch).2.1) p ch) [.list ((stepZ x st op pcs p ch).2.2.map .str)] := by
      rw [← hup] at turn
      exact forP_turn (step := zStep) turn
    rw [hstep]
    have hgo : stripGo x ((p, ch) :: ps) st op (joinN [] pcs) = stripGo x ps (stepZ x st op pcs p ch).1 (stepZ x st op pcs p ch).2.1 (joinN [] (stepZ x st op pcs p ch).2.2) := by
      simp only [stripGo]
      unfold stepZ
      by_cases hch : ch = [34]
      · rw [if_pos hch, if_pos hch]
        cases op with
        | none => rfl
        | some o =>
          dsimp only
          by_cases hso : st = o
          · rw [if_pos hso, if_pos hso]
          · rw [if_neg hso, if_neg hso, joinN_snoc]
      · rw [if_neg hch, if_neg hch]
    refine hgo.symm ▸ ?_
    refine ih _ _ _ _ ⟨hsort'.2, hlt', ?_⟩ (.inr ⟨p, ch, rfl⟩) ?_ ?_
    · unfold stepZ
      by_cases hch : ch = [34]
      · rw [if_pos hch]
        cases op with
        | none => exact ⟨hop.1 (p, ch) (List.mem_cons_self ..), hpx, hgt⟩
        | some o => exact ⟨fun q hq => hgt q hq, hpx⟩
      · rw [if_neg hch]
        cases op with
        | none => exact ⟨fun q hq => hop.1 q (List.mem_cons_of_mem _ hq), hop.2⟩
        | some o => exact ⟨hop.1, hop.2.1, fun q hq => hop.2.2 q (List.mem_cons_of_mem _ hq)⟩
    · unfold stepZ
      by_cases hch : ch = [34]
      · rw [if_pos hch]
        cases op with
        | none => show pcs.length + _ ≤ _; omega
        | some o => show (if st = o then pcs else pcs ++ [(x.take o).drop st]).length + _ ≤ _; split <;> (try simp only [List.length_append, List.length_cons, List.length_nil]) <;> omega
      · rw [if_neg hch]; show pcs.length + _ ≤ _; omega
    · unfold stepZ
      by_cases hch : ch = [34]
      · rw [if_pos hch]
        cases op with
        | none => exact hj
        | some o =>
          have h1 := hop.1
          have h3 : o < p := hop.2.2 (p, ch) (List.mem_cons_self ..)
          show (joinN [] (if st = o then pcs else pcs ++ [(x.take o).drop st])).length ≤ p + 1
          split
          · omega
          · rw [joinN_snoc, List.length_append, List.length_drop, List.length_take]; omega
      · rw [if_neg hch]; exact hj
theorem esc_sorted : ∀ (r : List Nat) (i : Nat) (e : Bool), (e = true → 0 < i) → (esc i e r).Pairwise (fun a b => a.1 < b.1) ∧ ∀ q ∈ esc i e r, (if e then i - 1 else i) ≤ q.1 ∧ q.1 < i + r.length
  | [], i, e, he => by
    cases e with
    | false => exact ⟨.nil, fun q hq => nomatch hq⟩
    | true =>
      refine ⟨by simp [esc], fun q hq => ?_⟩
      simp [esc] at hq
      subst hq
      have := he rfl
      simp; omega
  | c :: r, i, e, he => by
    cases e with
    | true =>
      have ih := esc_sorted r (i + 1) false (fun h => by cases h)
      have he := he rfl
      have hd : esc i true (c :: r) = (i, [92, c]) :: esc (i + 1) false r := rfl
      refine hd.symm ▸ ?_
      refine ⟨List.pairwise_cons.mpr ⟨fun q hq => ?_, ih.1⟩, fun q hq => ?_⟩
      · have := (ih.2 q hq).1; simp at this; show i < q.1; omega
      · rcases List.mem_cons.mp hq with rfl | hq
        · simp
        · have := ih.2 q hq; simp at this ⊢; omega
    | false =>
      by_cases hc : c = 92
      · have ih := esc_sorted r (i + 1) true (fun _ => Nat.succ_pos _)
        have hd : esc i false (c :: r) = esc (i + 1) true r := by simp [esc, hc]
        refine hd.symm ▸ ?_
        refine ⟨ih.1, fun q hq => ?_⟩
        have := ih.2 q hq; simp at this ⊢; omega
      · have ih := esc_sorted r (i + 1) false (fun h => by cases h)
        have hd : esc i false (c :: r) = (i, [c]) :: esc (i + 1) false r := by simp [esc, hc]
        refine hd.symm ▸ ?_
        refine ⟨List.pairwise_cons.mpr ⟨fun q hq => ?_, ih.1⟩, fun q hq => ?_⟩
        · have := (ih.2 q hq).1; simp at this; show i < q.1; omega
        · rcases List.mem_cons.mp hq with rfl | hq
          · simp
          · have := ih.2 q hq; simp at this ⊢; omega
theorem esc_length : ∀ (r : List Nat) (i : Nat) (e : Bool), (esc i e r).length ≤ r.length + 1
  | [], i, e => by cases e <;> simp [esc]
  | c :: r, i, e => by
    cases e with
    | true => have := esc_length r (i + 1) false; simp [esc]; omega
    | false =>
      by_cases hc : c = 92
      · have := esc_length r (i + 1) true; simp [esc, hc]; omega
      · have := esc_length r (i + 1) false; simp [esc, hc]; omega
section
variable {x ch : List Nat} {st p : Nat} {op : PV} {σ : Sto}
theorem zs0 : (recN T0 9).tr zC [((Str.ofString "addr"), .str x)] [] (ifT (nth zB 0)) = some (!x.contains 34, []) := by kernel_rfl
theorem zs0r : exs (recN T0 9) zC [((Str.ofString "addr"), .str x)] [] (ifB (nth zB 0)) = some (.ret (.str x), [((Str.ofString "addr"), .str x)], []) := by kernel_rfl
theorem zs0o : ifO (nth zB 0) = [] := by kernel_rfl
theorem zs1 : (recN T0 10).ex zC [((Str.ofString "addr"), .str x)] [] (nth zB 1) = some (.next, [((Str.ofString "addr"), .str x), ((Str.ofString "start"), .int 0)], []) := by kernel_rfl
theorem zs2 : (recN T0 10).ex zC [((Str.ofString "addr"), .str x), ((Str.ofString "start"), .int 0)] [] (nth zB 2) = some (.next, [((Str.ofString "addr"), .str x), ((Str.ofString "start"), .int 0), ((Str.ofString "open_pos"), .none)], []) := by kernel_rfl
theorem zs3 : (recN T0 10).ex zC [((Str.ofString "addr"), .str x), ((Str.ofString "start"), .int 0), ((Str.ofString "open_pos"), .none)] [] (nth zB 3) = some (.next, zρ0 x 0 .none, [.list []]) := by kernel_rfl
theorem zsrc : src T0 (recN T0 9) zC (zρ0 x 0 .none) [.list []] (forI zF) = (if x.length ≤ lim then some (Src.gens (escP x)) else none).map fun s => (s, [.list []]) := by kernel_rfl
theorem zlen : (recN T0 7).ev zC (zρ x st op p ch) σ (appO zq) = some (.ref 0, σ) ∧ (recN T0 7).ev zC (zρ0 x st op) σ (appO zq) = some (.ref 0, σ) := ⟨by kernel_rfl, by kernel_rfl⟩
theorem zqa : (recN T0 7).ev zC (zρ x st op p ch) σ (appA zq) = slc (.str x) (some (st : Int)) none false σ ∧ (recN T0 7).ev zC (zρ0 x st op) σ (appA zq) = slc (.str x) (some (st : Int)) none false σ := ⟨by kernel_rfl, by kernel_rfl⟩
end
noncomputable def ZLast (x : List Nat) (st : Nat) (ρ : Rho) : Prop :=
  (∀ σ, (recN T0 7).ev zC ρ σ (appO zq) = some (.ref 0, σ)) ∧ (∀ σ, (recN T0 7).ev zC ρ σ (appA zq) = slc (.str x) (some (st : Int)) none false σ) ∧
  (∀ σ, x.length ≤ lim → (recN T0 9).tr zC ρ σ (ifT z5) = some (decide ((st : Int) < (x.length : Int)), σ)) ∧
  (∀ ss : List (List Nat), (joinN [] ss).length ≤ lim → ss.length ≤ lim → (recN T0 10).ex zC ρ [.list (ss.map .str)] (nth zB 6) = some (.ret (.str (joinN [] ss)), ρ, [.list (ss.map .str)]))
theorem len_str {x : List Nat} {σ : Sto} (h : x.length ≤ lim) : bcall (Str.ofString "len") [.str x] σ = some (.int x.length, σ) := by
  refine (?_ : ((if x.length ≤ lim then some (x.length : Int) else none).map fun i => (PV.int i, σ)) = _)
  rw [if_pos h]; rfl
theorem mcall_join {ss : List (List Nat)} {σ : Sto} {m : Nat} (hm : σ[m]? = some (.list (ss.map .str))) (h1 : (joinN [] ss).length ≤ lim) (h2 : ss.length ≤ lim) : mcall (Str.ofString "join") (.str []) [.ref m] σ = some (.str (joinN [] ss), σ) := by
  refine (?_ : ((listAt σ (.ref m)).bind fun vs => (pvStrs vs).bind fun ss => if (joinN [] ss).length ≤ lim ∧ ss.length ≤ lim then some (PV.str (joinN [] ss), σ) else none) = _)
  have : listAt σ (.ref m) = some (ss.map .str) := listAt_get hm
  rw [this, Option.bind_some, strs_of, Option.bind_some, if_pos ⟨h1, h2⟩]
theorem z5k : (cmpP (ifT z5)).isSome = true ∧ (retP (nth zB 6)).isSome = true ∧ cmO (ifT z5) = .Lt := ⟨by kernel_rfl, by kernel_rfl, by kernel_rfl⟩
section
variable {x ch : List Nat} {st p : Nat} {op : PV} {σ : Sto}
theorem z5l : (recN T0 8).ev zC (zρ x st op p ch) σ (cmL (ifT z5)) = some (.int st, σ) ∧ (recN T0 8).ev zC (zρ0 x st op) σ (cmL (ifT z5)) = some (.int st, σ) := ⟨by kernel_rfl, by kernel_rfl⟩
theorem z5r : (recN T0 8).ev zC (zρ x st op p ch) σ (cmR (ifT z5)) = bcall (Str.ofString "len") [.str x] σ ∧ (recN T0 8).ev zC (zρ0 x st op) σ (cmR (ifT z5)) = bcall (Str.ofString "len") [.str x] σ := ⟨by kernel_rfl, by kernel_rfl⟩
theorem z6e {vs : List PV} : (recN T0 9).es zC (zρ x st op p ch) [.list vs] (retE (nth zB 6)) = mcall (Str.ofString "join") (.str []) [.ref 0] [.list vs] ∧ (recN T0 9).es zC (zρ0 x st op) [.list vs] (retE (nth zB 6)) = mcall (Str.ofString "join") (.str []) [.ref 0] [.list vs] := ⟨by kernel_rfl, by kernel_rfl⟩
end
theorem z_last {x : List Nat} {st : Nat} {ρ : Rho} {op : PV} (h : ρ = zρ0 x st op ∨ ∃ p ch, ρ = zρ x st op p ch) : ZLast x st ρ := by
  rcases h with rfl | ⟨p, ch, rfl⟩
  · refine ⟨fun σ => (zlen (x := x) (st := st) (op := op) (p := 0) (ch := [])).2, fun σ => (zqa (x := x) (st := st) (op := op) (p := 0) (ch := [])).2, fun σ hx => ?_, fun ss h1 h2 => ex_ret z5k.2.1 ((z6e (x := x) (st := st) (op := op) (p := 0) (ch := [])).2.trans (mcall_join rfl h1 h2))⟩
    exact tr_cmp z5k.1 (z5l (x := x) (st := st) (op := op) (p := 0) (ch := [])).2 ((z5r (x := x) (st := st) (op := op) (p := 0) (ch := [])).2.trans (len_str hx)) (by rw [z5k.2.2]; rfl)
  · refine ⟨fun σ => zlen.1, fun σ => zqa.1, fun σ hx => ?_, fun ss h1 h2 => ex_ret z5k.2.1 (z6e.1.trans (mcall_join rfl h1 h2))⟩
    exact tr_cmp z5k.1 z5l.1 (z5r.1.trans (len_str hx)) (by rw [z5k.2.2]; rfl)
theorem strip_run {x : List Nat} (hx : x.length ≤ 10000) : ∃ ρ' σ', exs (recN T0 10) zC [((Str.ofString "addr"), .str x)] [] zB = some (.ret (.str (strip x)), ρ', σ') := by
  have hlim : x.length ≤ lim := by unfold lim; omega
  rw [z_body.1]
  have h0 : (recN T0 10).ex zC [((Str.ofString "addr"), .str x)] [] (nth zB 0) = exs (recN T0 9) zC [((Str.ofString "addr"), .str x)] [] (if (!x.contains 34) = true then ifB (nth zB 0) else ifO (nth zB 0)) := ex_ifs z_kinds.1 zs0
  unfold strip
  cases hc : x.contains 34 with
  | false =>
    rw [hc] at h0
    have h0' := h0.trans zs0r
    rw [exs_ret h0']
    exact ⟨_, _, rfl⟩
  | true =>
    rw [hc] at h0
    have h0' := h0.trans (show _ = some (Fl.next, [((Str.ofString "addr"), PV.str x)], []) by rw [Bool.not_true, if_neg Bool.false_ne_true, zs0o]; rfl)
    rw [exs_next h0', if_pos rfl, exs_next zs1, exs_next zs2, exs_next zs3]
    obtain ⟨st', op', pcs', ρ', e1, e2, e3, e4, e5, e6⟩ := strip_loop hx (esc 0 false x) 0 none [] (zρ0 x 0 .none) ⟨(esc_sorted x 0 false (fun h => by cases h)).1, fun q hq => by have := (esc_sorted x 0 false (fun h => by cases h)).2 q hq; simpa using this, fun q _ => Nat.zero_le _, Nat.zero_le _⟩ (.inl rfl) (by have := esc_length x 0 false; simp; omega) (Nat.le_refl _)
    have hF : (recN T0 10).ex zC (zρ0 x 0 .none) [.list []] zF = some (.next, ρ', [.list (pcs'.map .str)]) := by
      rw [ex_forG z_kinds.2.1 z_kinds.2.2.2.2.2.2.2.2 rfl (by kernel_rfl) (by kernel_rfl) (by decide) (zsrc.trans (by rw [if_pos hlim]; rfl))]
      exact e1
    rw [exs_next hF]
    refine elAAA (z_last e2) fun l1 l2 l3 l4 => ?_
    have e3' : stripGo x (esc 0 false x) 0 none [] = (st', joinN [] pcs') := e3
    rw [e3']
    skip
    have h5 : (recN T0 10).ex zC ρ' [.list (pcs'.map .str)] z5 = some (.next, ρ', [.list ((if st' < x.length then pcs' ++ [x.drop st'] else pcs').map .str)]) := by
      rw [ex_ifs z_kinds.2.2.2.2.2.2.1 (l3 _ hlim)]
      by_cases hs : st' < x.length
      · rw [if_pos (by simpa using hs), z_body.2.2.2.2.2.2.2.2.1, exs_one, if_pos hs]
        rw [ex_app z_kinds.2.2.2.2.2.2.2.1 (l1 _) ((l2 _).trans (slc_str1 e4 hlim)) ⟨_, rfl⟩ rfl (by simp; unfold lim; omega)]
        simp
      · rw [if_neg (by simpa using hs), z_body.2.2.2.2.2.2.2.2.2, if_neg hs]; rfl
    rw [exs_next h5]
    have hl : (joinN [] (if st' < x.length then pcs' ++ [x.drop st'] else pcs')).length ≤ lim := by
      skip
      split
      · rw [joinN_snoc, List.length_append, List.length_drop]; omega
      · omega
    rw [exs_ret (l4 _ hl (by unfold lim; split <;> (try simp only [List.length_append, List.length_cons, List.length_nil]) <;> omega))]
    have hj : joinN [] (if st' < x.length then pcs' ++ [x.drop st'] else pcs') = (if st' < x.length then joinN [] pcs' ++ x.drop st' else joinN [] pcs') := by
      split
      · rw [joinN_snoc]
      · rfl
    refine hj.symm ▸ ?_
    exact ⟨_, _, rfl⟩
end Mine.Internal
end
section
set_option maxRecDepth 100000
set_option backward.match.sparseCases false
namespace Mine.Internal
open PySem PyProof.Rows
theorem strip_length {x : List Nat} (hx : x.length ≤ 10000) : (strip x).length ≤ x.length := by
  unfold strip
  split
  · obtain ⟨st', op', pcs', ρ', e1, e2, e3, e4, e5, e6⟩ := strip_loop hx (esc 0 false x) 0 none [] (zρ0 x 0 .none) ⟨(esc_sorted x 0 false (fun h => by cases h)).1, fun q hq => by have := (esc_sorted x 0 false (fun h => by cases h)).2 q hq; simpa using this, fun q _ => Nat.zero_le _, Nat.zero_le _⟩ (.inl rfl) (by have := esc_length x 0 false; simp; omega) (Nat.le_refl _)
    have e3' : stripGo x (esc 0 false x) 0 none [] = (st', joinN [] pcs') := e3
    refine e3'.symm ▸ ?_
    dsimp only
    split
    · rw [List.length_append, List.length_drop]; omega
    · omega
  · exact Nat.le_refl _
noncomputable abbrev kB : List Stmt := fB "_check_parenthesis"
noncomputable abbrev kC : Cx := ⟨fS "_check_parenthesis", false⟩
noncomputable abbrev kF : Stmt := nth kB 2
noncomputable abbrev k0 : Stmt := nth (forB kF) 0
noncomputable abbrev ka : Stmt := nth (ifB k0) 0
noncomputable abbrev k1 : Stmt := nth (ifO k0) 0
noncomputable abbrev kb : Stmt := nth (ifB k1) 0
noncomputable abbrev k2 : Stmt := nth (ifB k1) 1
theorem k_body : kB = [nth kB 0, nth kB 1, kF, nth kB 3] ∧ forB kF = [k0] ∧ ifB k0 = [ka] ∧ ifO k0 = [k1] ∧ ifB k1 = [kb, k2] ∧ ifO k1 = [] ∧ ifO k2 = [] :=
  ⟨by kernel_rfl, by kernel_rfl, by kernel_rfl, by kernel_rfl, by kernel_rfl, by kernel_rfl, by kernel_rfl⟩
theorem k_kinds : (forP' kF).isSome = true ∧ (ifP k0).isSome = true ∧ (ifP k1).isSome = true ∧ (ifP k2).isSome = true ∧ twoN (forT kF) = some ((Str.ofString "pos"), (Str.ofString "ch")) ∧ (asgP (nth kB 0)).isSome = true ∧ asN (nth kB 0) = Str.ofString "addr" :=
  ⟨by kernel_rfl, by kernel_rfl, by kernel_rfl, by kernel_rfl, by kernel_rfl, by kernel_rfl, by kernel_rfl⟩
noncomputable abbrev kρ (y : List Nat) (n : Int) (p : Nat) (ch : List Nat) : Rho := [("addr", .str y), ("opens", .int n), ("pos", .int p), ("ch", .str ch)]
noncomputable abbrev kρ0 (y : List Nat) (n : Int) : Rho := [("addr", .str y), ("opens", .int n)]
section
variable {x y ch : List Nat} {p : Nat} {n : Int} {σ : Sto}
theorem kt0 : (recN T1 8).tr kC (kρ y n p ch) σ (ifT k0) = some (ch == [40], σ) := by kernel_rfl
theorem kt1 : (recN T1 7).tr kC (kρ y n p ch) σ (ifT k1) = some (ch == [41], σ) := by kernel_rfl
theorem kt2 : (recN T1 6).tr kC (kρ y n p ch) σ (ifT k2) = some (decide (n < 0), σ) := by kernel_rfl
theorem ke_a : (recN T1 8).ex kC (kρ y n p ch) σ ka = some (.next, kρ y (n + 1) p ch, σ) := by kernel_rfl
theorem ke_b : (recN T1 7).ex kC (kρ y n p ch) σ kb = some (.next, kρ y (n - 1) p ch, σ) := by kernel_rfl
theorem ke_r : exs (recN T1 6) kC (kρ y n p ch) σ (ifB k2) = some (.ret (.bool false), kρ y n p ch, σ) := by kernel_rfl
theorem k_up : upd (upd (kρ0 y n) (Str.ofString "pos") (.int p)) (Str.ofString "ch") (.str ch) = kρ y n p ch := by kernel_rfl
theorem k_up' {p' : Nat} {ch' : List Nat} : upd (upd (kρ y n p ch) (Str.ofString "pos") (.int p')) (Str.ofString "ch") (.str ch') = kρ y n p' ch' := by kernel_rfl
theorem ks0 : (recN T1 9).es kC [(Str.ofString "addr", .str x)] [] (asE (nth kB 0)) = fStrip [.str x] [] := by kernel_rfl
theorem ks0u : upd [(Str.ofString "addr", PV.str x)] (Str.ofString "addr") (.str y) = [(Str.ofString "addr", .str y)] := by kernel_rfl
theorem ks1 : (recN T1 10).ex kC [(Str.ofString "addr", .str y)] [] (nth kB 1) = some (.next, kρ0 y 0, []) := by kernel_rfl
theorem ksrc : src T1 (recN T1 9) kC (kρ0 y 0) [] (forI kF) = (if y.length ≤ lim then some (Src.gens (escP y)) else none).map fun s => (s, []) := by kernel_rfl
theorem ks3 : (recN T1 10).ex kC (kρ y n p ch) σ (nth kB 3) = some (.ret (.bool (n == 0)), kρ y n p ch, σ) ∧ (recN T1 10).ex kC (kρ0 y n) σ (nth kB 3) = some (.ret (.bool (n == 0)), kρ0 y n, σ) := ⟨by kernel_rfl, by kernel_rfl⟩
end
noncomputable abbrev kStep : PV → PV → Rho → Sto → Turn := fun u v ρ σ => exs (recN T1 9) kC (upd (upd ρ (Str.ofString "pos") u) (Str.ofString "ch") v) σ (forB kF)
theorem chk_loop {y : List Nat} : ∀ (ps : List (Nat × List Nat)) (n : Int) (ρ : Rho), (ρ = kρ0 y n ∨ ∃ p ch, ρ = kρ y n p ch) →
    (∃ n' ρ', forP kStep (ps.map genP) ρ [] = some (.next, ρ', []) ∧ (ρ' = kρ0 y n' ∨ ∃ p ch, ρ' = kρ y n' p ch) ∧ chkGo ps n = (n' == 0)) ∨
    (∃ ρ', forP kStep (ps.map genP) ρ [] = some (.ret (.bool false), ρ', []) ∧ chkGo ps n = false) := by
  intro ps
  induction ps with
  | nil => intro n ρ hρ; exact .inl ⟨n, ρ, rfl, hρ, rfl⟩
  | cons q ps ih =>
    intro n ρ hρ
    obtain ⟨p, ch⟩ := q
    have hup : upd (upd ρ (Str.ofString "pos") (.int p)) (Str.ofString "ch") (.str ch) = kρ y n p ch := by
      rcases hρ with rfl | ⟨p', ch', rfl⟩
      · exact k_up
      · exact k_up'
    have turn : exs (recN T1 9) kC (kρ y n p ch) [] (forB kF) = if ch = [40] then some (.next, kρ y (n + 1) p ch, []) else if ch = [41] then (if n - 1 < 0 then some (.ret (.bool false), kρ y (n - 1) p ch, []) else some (.next, kρ y (n - 1) p ch, [])) else some (.next, kρ y n p ch, []) := by
      rw [k_body.2.1, exs_one, ex_ifs k_kinds.2.1 kt0]
      by_cases h1 : ch = [40]
      · rw [if_pos (by simpa using h1), k_body.2.2.1, exs_one, ke_a, if_pos h1]
      · rw [if_neg (by simpa using h1), k_body.2.2.2.1, exs_one, if_neg h1, ex_ifs k_kinds.2.2.1 kt1]
        by_cases h2 : ch = [41]
        · rw [if_pos (by simpa using h2), k_body.2.2.2.2.1, exs_next ke_b, exs_one, if_pos h2, ex_ifs k_kinds.2.2.2.1 kt2]
          by_cases h3 : n - 1 < 0
          · rw [if_pos (by simpa using h3), ke_r, if_pos h3]
          · rw [if_neg (by simpa using h3), k_body.2.2.2.2.2.2, if_neg h3]; rfl
        · rw [if_neg (by simpa using h2), k_body.2.2.2.2.2.1, if_neg h2]; rfl
    rw [← hup] at turn
    simp only [chkGo]
    by_cases h1 : ch = [40]
    · rw [if_pos h1] at turn ⊢
      rw [List.map_cons, show genP (p, ch) = (.int p, .str ch) from rfl, forP_turn (u := .int p) (v := .str ch) (step := kStep) turn]
      exact ih (n + 1) _ (.inr ⟨p, ch, rfl⟩)
    · rw [if_neg h1] at turn ⊢
      by_cases h2 : ch = [41]
      · rw [if_pos h2] at turn ⊢
        by_cases h3 : n - 1 < 0
        · rw [if_pos h3] at turn ⊢
          exact .inr ⟨_, forP_stop (u := .int p) (v := .str ch) (step := kStep) turn, rfl⟩
        · rw [if_neg h3] at turn ⊢
          rw [List.map_cons, show genP (p, ch) = (.int p, .str ch) from rfl, forP_turn (u := .int p) (v := .str ch) (step := kStep) turn]
          exact ih (n - 1) _ (.inr ⟨p, ch, rfl⟩)
      · rw [if_neg h2] at turn ⊢
        rw [List.map_cons, show genP (p, ch) = (.int p, .str ch) from rfl, forP_turn (u := .int p) (v := .str ch) (step := kStep) turn]
        exact ih n _ (.inr ⟨p, ch, hup⟩)
theorem check_run {x : List Nat} (hx : x.length ≤ 10000) : ∃ ρ' σ', exs (recN T1 10) kC [((Str.ofString "addr"), .str x)] [] kB = some (.ret (.bool (check x)), ρ', σ') := by
  have hs := strip_length hx
  have hlim : (strip x).length ≤ lim := by unfold lim; omega
  rw [k_body.1]
  have h0 : (recN T1 10).ex kC [((Str.ofString "addr"), .str x)] [] (nth kB 0) = some (.next, [((Str.ofString "addr"), .str (strip x))], []) := by
    rw [ex_asg k_kinds.2.2.2.2.2.1 (by kernel_rfl) (ks0.trans (show (if x.length ≤ 10000 then some (PV.str (strip x), []) else none) = some (PV.str (strip x), []) from if_pos hx)), k_kinds.2.2.2.2.2.2, ks0u]
  rw [exs_next h0, exs_next ks1]
  unfold check
  rcases chk_loop (y := strip x) (esc 0 false (strip x)) 0 (kρ0 (strip x) 0) (.inl rfl) with ⟨n', ρ', e1, e2, e3⟩ | ⟨ρ', e1, e3⟩
  · have hF : (recN T1 10).ex kC (kρ0 (strip x) 0) [] kF = some (.next, ρ', []) := by
      rw [ex_forG k_kinds.1 k_kinds.2.2.2.2.1 rfl (by kernel_rfl) (by kernel_rfl) (by decide) (ksrc.trans (by rw [if_pos hlim]; rfl))]
      exact e1
    rw [exs_next hF, e3]
    rcases e2 with rfl | ⟨p, ch, rfl⟩
    · rw [exs_ret (ks3 (p := 0) (ch := [])).2]; exact ⟨_, _, rfl⟩
    · rw [exs_ret ks3.1]; exact ⟨_, _, rfl⟩
  · have hF : (recN T1 10).ex kC (kρ0 (strip x) 0) [] kF = some (.ret (.bool false), ρ', []) := by
      rw [ex_forG k_kinds.1 k_kinds.2.2.2.2.1 rfl (by kernel_rfl) (by kernel_rfl) (by decide) (ksrc.trans (by rw [if_pos hlim]; rfl))]
      exact e1
    rw [exs_ret hF, e3]
    exact ⟨_, _, rfl⟩
end Mine.Internal
end
section
set_option maxRecDepth 100000
set_option backward.match.sparseCases false
namespace Mine.Internal
open PySem PyProof.Rows
noncomputable abbrev bB : List Stmt := fB "_byteswap"
noncomputable abbrev bC : Cx := ⟨fS "_byteswap", false⟩
noncomputable abbrev bF : Stmt := nth bB 1
noncomputable abbrev bG : Stmt := nth (forB bF) 0
noncomputable abbrev bS : Stmt := nth (forB bG) 0
theorem b_body : bB = [nth bB 0, bF, nth bB 2] ∧ forB bF = [bG] ∧ forB bG = [bS] := ⟨by kernel_rfl, by kernel_rfl, by kernel_rfl⟩
theorem b_kinds : (asgP (nth bB 0)).isSome = true ∧ (forP' bF).isSome = true ∧ (forP' bG).isSome = true ∧ (setP bS).isSome = true ∧ (retP (nth bB 2)).isSome = true ∧ oneN (forT bF) = some (Str.ofString "i") ∧ oneN (forT bG) = some (Str.ofString "j") ∧ (rngP (forI bF)).isSome = true ∧ (rngP (forI bG)).isSome = true :=
  ⟨by kernel_rfl, by kernel_rfl, by kernel_rfl, by kernel_rfl, by kernel_rfl, by kernel_rfl, by kernel_rfl, by kernel_rfl, by kernel_rfl⟩
noncomputable abbrev bρ0 (x : List UInt8) (w : Int) : Rho := [("data", .bytes x), ("width", .int w), ("swapped_data", .ref 0)]
noncomputable abbrev bρ1 (x : List UInt8) (w i : Int) : Rho := [("data", .bytes x), ("width", .int w), ("swapped_data", .ref 0), ("i", .int i)]
noncomputable abbrev bρ2 (x : List UInt8) (w i j : Int) : Rho := [("data", .bytes x), ("width", .int w), ("swapped_data", .ref 0), ("i", .int i), ("j", .int j)]
section
variable {x : List UInt8} {w i j a : Int} {σ : Sto}
theorem b_u1 : upd (bρ0 x w) (Str.ofString "i") (.int a) = bρ1 x w a := by kernel_rfl
theorem b_u1' : upd (bρ2 x w i j) (Str.ofString "i") (.int a) = bρ2 x w a j := by kernel_rfl
theorem b_u2 : upd (bρ1 x w i) (Str.ofString "j") (.int a) = bρ2 x w i a := by kernel_rfl
theorem b_u2' : upd (bρ2 x w i j) (Str.ofString "j") (.int a) = bρ2 x w i a := by kernel_rfl
theorem b_v : (recN TB 7).ev bC (bρ2 x w i j) σ (stV bS) = (itemAt (.bytes x) (i + j) σ).map (fun r => (r, σ)) := by kernel_rfl
theorem b_o : (recN TB 7).ev bC (bρ2 x w i j) σ (stO bS) = some (.ref 0, σ) := by kernel_rfl
theorem b_i : (recN TB 7).ev bC (bρ2 x w i j) σ (stI bS) = some (.int (i + w - 1 - j), σ) := by kernel_rfl
theorem b_ra : rgA (forI bG) = [(rgA (forI bG)).headD default] := by kernel_rfl
theorem b_rw : evs (recN TB 8) bC (bρ1 x w i) σ (rgA (forI bG)) = some ([.int w], σ) ∧ evs (recN TB 8) bC (bρ2 x w i j) σ (rgA (forI bG)) = some ([.int w], σ) := ⟨by kernel_rfl, by kernel_rfl⟩
end
theorem rangeSize_up {n w : Nat} (hw : 0 < w) : Builtin.Range.rangeSize 0 (n : Int) (w : Int) = (((n + w - 1) / w : Nat) : Int) := by
  unfold Builtin.Range.rangeSize
  rw [if_pos (by omega)]
  by_cases hn : n = 0
  · subst hn
    rw [if_neg (by omega)]
    have : (0 + w - 1) / w = 0 := Nat.div_eq_of_lt (by omega)
    rw [this]; rfl
  · rw [if_pos (by omega)]
    have e1 : ((n : Int) - 0 - 1) = ((n - 1 : Nat) : Int) := by omega
    refine e1.symm ▸ ?_
    have e2 : n + w - 1 = (n - 1) + w := by omega
    rw [e2, Nat.add_div_right _ hw]
    push_cast
    rfl
theorem rngFits {z : Int} (h0 : -100000 ≤ z) (h1 : z ≤ 100000) : Builtin.Range.rangeFitsLong z = true := by
  unfold Builtin.Range.rangeFitsLong
  simp
  omega
theorem range_small {n w : Nat} (hw : 0 < w) (hw' : w < 1000) (hn : n < 1000) : Builtin.Range.small 0 (n : Int) (w : Int) = true := by
  unfold Builtin.Range.small
  have hq : (n + w - 1) / w ≤ n + w - 1 := Nat.div_le_self ..
  rw [rangeSize_up hw]
  generalize (n + w - 1) / w = q at hq ⊢
  rw [rngFits (by omega) (by omega), rngFits (by omega) (by omega), rngFits (by omega) (by omega), rngFits (by omega) (by omega), if_pos (by omega), rngFits (by omega) (by omega)]
  simp
theorem rangeOf_three {n w : Nat} (hw : 0 < w) (hw' : w < 1000) (hn : n < 1000) : rangeOf [0, (n : Int), (w : Int)] = some (.rng 0 (w : Int) ((n + w - 1) / w)) := by
  refine (?_ : (if 0 < (w : Int) ∧ Builtin.Range.small 0 (n : Int) (w : Int) then some (Src.rng 0 (w : Int) (Builtin.Range.rangeSize 0 (n : Int) (w : Int)).toNat) else none) = _)
  rw [if_pos ⟨by omega, range_small hw hw' hn⟩, rangeSize_up hw]
  rfl
theorem rangeOf_one {n : Nat} (hn : n < 1000) : rangeOf [(n : Int)] = some (.rng 0 1 n) := by
  have h : Builtin.Range.small 0 (n : Int) 1 = true := range_small (w := 1) (by omega) (by omega) hn
  have hs := rangeSize_up (n := n) (w := 1) (by omega)
  refine (?_ : (if Builtin.Range.small 0 (n : Int) 1 then some (Src.rng 0 1 (Builtin.Range.rangeSize 0 (n : Int) 1).toNat) else none) = _)
  have e : Builtin.Range.rangeSize 0 (n : Int) 1 = (n : Int) := by
    have := hs
    simp at this
    simpa using this
  rw [if_pos h, e]
  rfl
theorem bsw_succ (w k : Nat) (x : List UInt8) : bsw w (k + 1) x = (x.take w).reverse ++ bsw w k (x.drop w) := rfl
theorem bsw_snoc (w : Nat) : ∀ (k : Nat) (x : List UInt8), bsw w (k + 1) x = bsw w k x ++ ((x.drop (k * w)).take w).reverse
  | 0, x => by simp [bsw_succ, show ∀ x, bsw w 0 x = [] from fun _ => rfl]
  | k + 1, x => by
    have ih := bsw_snoc w k (x.drop w)
    have e : w + k * w = (k + 1) * w := by rw [Nat.succ_mul]; omega
    rw [bsw_succ, ih, bsw_succ, List.drop_drop, List.append_assoc, e]
theorem bsw_length (w : Nat) : ∀ (k : Nat) (x : List UInt8), k * w ≤ x.length → (bsw w k x).length = k * w
  | 0, x, _ => (Nat.zero_mul w).symm
  | k + 1, x, h => by
    rw [Nat.succ_mul] at h
    rw [bsw_succ, List.length_append, List.length_reverse, List.length_take, bsw_length w k (x.drop w) (by rw [List.length_drop]; omega), Nat.succ_mul]
    omega
noncomputable def fill (x : List UInt8) (w i j : Nat) : List UInt8 := bsw w i x ++ (List.replicate (w - j) 0 ++ ((x.drop (i * w)).take j).reverse) ++ List.replicate (x.length - i * w - w) 0
theorem fill_set {x : List UInt8} {w i j : Nat} {c : UInt8} (hi : i * w + w ≤ x.length) (hj : j < w) (hc : x[i * w + j]? = some c) : (fill x w i j).set (i * w + w - 1 - j) c = fill x w i (j + 1) := by
  have hl : (bsw w i x).length = i * w := bsw_length w i x (by omega)
  have hz : (x.drop (i * w)).take (j + 1) = (x.drop (i * w)).take j ++ [c] := by
    rw [List.take_add_one, List.getElem?_drop, hc]; rfl
  obtain ⟨m, hm⟩ : ∃ m, w - j = m + 1 := ⟨w - j - 1, by omega⟩
  have hm' : w - (j + 1) = m := by omega
  unfold fill
  rw [hz, List.reverse_append, hm, hm', List.append_assoc, List.set_append, hl, if_neg (by omega), List.append_assoc, List.set_append, List.length_replicate, if_pos (by omega)]
  have e1 : i * w + w - 1 - j - i * w = m := by omega
  rw [e1, List.replicate_succ', List.set_append, List.length_replicate, if_neg (by omega), Nat.sub_self]
  simp
theorem fill_next {x : List UInt8} {w i : Nat} (hi : (i + 1) * w ≤ x.length) : fill x w i w = bsw w (i + 1) x ++ List.replicate (x.length - (i + 1) * w) 0 := by
  unfold fill
  rw [bsw_snoc, Nat.sub_self, List.replicate_zero, List.nil_append, Nat.succ_mul, Nat.sub_sub]
theorem fill_start {x : List UInt8} {w i : Nat} (hi : (i + 1) * w ≤ x.length) : bsw w i x ++ List.replicate (x.length - i * w) 0 = fill x w i 0 := by
  rw [Nat.succ_mul] at hi
  unfold fill
  rw [List.take_zero, List.reverse_nil, List.append_nil, List.append_assoc, List.replicate_append_replicate]
  congr 2
  omega
theorem fill_length {x : List UInt8} {w i j : Nat} (hi : i * w + w ≤ x.length) (hj : j ≤ w) : (fill x w i j).length = x.length := by
  unfold fill
  rw [List.length_append, List.length_append, List.length_append, bsw_length w i x (by omega), List.length_replicate, List.length_replicate, List.length_reverse, List.length_take, List.length_drop]
  omega
theorem item_bytes {x : List UInt8} {k : Nat} {c : UInt8} {σ : Sto} (h : x[k]? = some c) (hl : x.length ≤ lim) : itemAt (.bytes x) (k : Int) σ = some (.int c.toNat) := by
  refine (?_ : (if 0 ≤ (k : Int) ∧ x.length ≤ lim then (x[(k : Int).toNat]?).map fun c => PV.int c.toNat else none) = _)
  rw [if_pos ⟨by omega, hl⟩, Int.toNat_natCast, h]
  rfl
theorem setBA_ok {y : List UInt8} {k : Nat} {c : UInt8} {r : List PO} (hk : k < y.length) (hl : y.length ≤ lim) : setBA (.ba y :: r) (.ref 0) (k : Int) (.int c.toNat) = some (.ba (y.set k c) :: r) := by
  refine (?_ : (if 0 ≤ (k : Int) ∧ (k : Int) < y.length ∧ 0 ≤ (c.toNat : Int) ∧ (c.toNat : Int) < 256 ∧ y.length ≤ lim then some ((PO.ba y :: r).set 0 (.ba (y.set (k : Int).toNat (UInt8.ofNat (c.toNat : Int).toNat)))) else none) = _)
  rw [if_pos ⟨by omega, by omega, by omega, by have := c.toNat_lt; omega, hl⟩]
  simp
theorem b_inner_turn {x : List UInt8} {w i j : Nat} (hx : x.length < 1000) (hi : i * w + w ≤ x.length) (hj : j < w) :
    exs (recN TB 8) bC (bρ2 x w ((i * w : Nat) : Int) j) [.ba (fill x w i j)] (forB bG) = some (.next, bρ2 x w ((i * w : Nat) : Int) j, [.ba (fill x w i (j + 1))]) := by
  have hlim : x.length ≤ lim := by unfold lim; omega
  have hlt : i * w + j < x.length := by omega
  have hc : x[i * w + j]? = some x[i * w + j] := List.getElem?_eq_getElem hlt
  rw [b_body.2.2, exs_one]
  have hv : (recN TB 7).ev bC (bρ2 x w ((i * w : Nat) : Int) j) [.ba (fill x w i j)] (stV bS) = some (.int (x[i * w + j]).toNat, [.ba (fill x w i j)]) := by
    refine b_v.symm ▸ ?_
    have e : ((i * w : Nat) : Int) + (j : Int) = ((i * w + j : Nat) : Int) := by push_cast; rfl
    rw [e, item_bytes hc hlim]
    rfl
  have hk : ((i * w : Nat) : Int) + (w : Int) - 1 - (j : Int) = ((i * w + w - 1 - j : Nat) : Int) := by omega
  refine ex_set b_kinds.2.2.2.1 hv b_o b_i ?_
  rw [hk, setBA_ok (by rw [fill_length hi (by omega)]; omega) (by rw [fill_length hi (by omega)]; exact hlim), fill_set hi hj hc]
theorem b_inner {x : List UInt8} {w i : Nat} (hx : x.length < 1000) (hi : i * w + w ≤ x.length) : ∀ (m j : Nat) (ρ : Rho) (K : Nat), m + j = w → m < K → ((∃ j', ρ = bρ2 x w ((i * w : Nat) : Int) j') ∨ ρ = bρ1 x w ((i * w : Nat) : Int)) →
    ∃ ρ', forS (fun v ρ σ => exs (recN TB 8) bC (upd ρ (Str.ofString "j") v) σ (forB bG)) (.rng 0 1 w) K j ρ [.ba (fill x w i j)] = some (.next, ρ', [.ba (fill x w i w)]) ∧ ((∃ j', ρ' = bρ2 x w ((i * w : Nat) : Int) j') ∨ (m = 0 ∧ ρ' = ρ))
  | 0, j, ρ, K, hm, hK, hρ => by
    obtain ⟨K', rfl⟩ : ∃ K', K = K' + 1 := ⟨K - 1, by omega⟩
    have : j = w := by omega
    subst this
    exact ⟨ρ, forS_end (nx_rng_end (by omega)), .inr ⟨rfl, rfl⟩⟩
  | m + 1, j, ρ, K, hm, hK, hρ => by
    obtain ⟨K', rfl⟩ : ∃ K', K = K' + 1 := ⟨K - 1, by omega⟩
    have hup : upd ρ (Str.ofString "j") (.int (0 + (j : Int) * 1)) = bρ2 x w ((i * w : Nat) : Int) j := by
      have e : (0 + (j : Int) * 1) = (j : Int) := by omega
      refine e.symm ▸ ?_
      rcases hρ with ⟨j', rfl⟩ | rfl
      · exact b_u2'
      · exact b_u2
    have turn := b_inner_turn (j := j) hx hi (by omega)
    rw [← hup] at turn
    have h1 := forS_turn (step := fun v ρ σ => exs (recN TB 8) bC (upd ρ (Str.ofString "j") v) σ (forB bG)) (S := .rng 0 1 w) (k := K') (nx_rng (by omega)) turn
    rw [hup] at h1
    refine elEA (b_inner hx hi m (j + 1) (bρ2 x w ((i * w : Nat) : Int) j) K' (by omega) (by omega) (.inl ⟨_, rfl⟩)) fun ρ' h2 h3 => ?_
    refine ⟨ρ', h1.trans h2, .inl ?_⟩
    rcases h3 with h | ⟨_, h⟩
    · exact h
    · exact ⟨_, h⟩
section
variable {x y : List UInt8} {w i j a : Int} {σ : Sto}
theorem b_len : (recN TB 9).ev bC [(Str.ofString "data", .bytes x), (Str.ofString "width", .int w)] [] (c1A (asE (nth bB 0))) = bcall (Str.ofString "len") [.bytes x] [] := by kernel_rfl
theorem b_mk : (cl1P (asE (nth bB 0))).isSome = true ∧ c1F (asE (nth bB 0)) = Str.ofString "bytearray" ∧ asN (nth bB 0) = Str.ofString "swapped_data" := ⟨by kernel_rfl, by kernel_rfl, by kernel_rfl⟩
theorem b_es : (recN TB 8).es bC [(Str.ofString "data", .bytes x), (Str.ofString "width", .int w)] [] (c1A (asE (nth bB 0))) = bcall (Str.ofString "len") [.bytes x] [] := by kernel_rfl
theorem b_u0 : upd [(Str.ofString "data", PV.bytes x), (Str.ofString "width", .int w)] (Str.ofString "swapped_data") (.ref 0) = bρ0 x w := by kernel_rfl
theorem b_ret {o : PO} : (recN TB 9).es bC (bρ2 x w i j) [o] (retE (nth bB 2)) = bcall (Str.ofString "bytes") [.ref 0] [o] ∧ (recN TB 9).es bC (bρ0 x w) [o] (retE (nth bB 2)) = bcall (Str.ofString "bytes") [.ref 0] [o] := ⟨by kernel_rfl, by kernel_rfl⟩
theorem b_src : rgA (forI bF) = [(rgA (forI bF)).getD 0 default, (rgA (forI bF)).getD 1 default, (rgA (forI bF)).getD 2 default] := by kernel_rfl
theorem b_src0 : (recN TB 9).ev bC (bρ0 x w) σ ((rgA (forI bF)).getD 0 default) = some (.int 0, σ) ∧ (recN TB 9).ev bC (bρ0 x w) σ ((rgA (forI bF)).getD 1 default) = bcall (Str.ofString "len") [.bytes x] σ ∧ (recN TB 9).ev bC (bρ0 x w) σ ((rgA (forI bF)).getD 2 default) = some (.int w, σ) := ⟨by kernel_rfl, by kernel_rfl, by kernel_rfl⟩
theorem b_star : isStar ((rgA (forI bF)).getD 0 default) = false ∧ isStar ((rgA (forI bF)).getD 1 default) = false ∧ isStar ((rgA (forI bF)).getD 2 default) = false := ⟨by kernel_rfl, by kernel_rfl, by kernel_rfl⟩
end
theorem len_bytes {x : List UInt8} {σ : Sto} (h : x.length ≤ lim) : bcall (Str.ofString "len") [.bytes x] σ = some (.int x.length, σ) := by
  show ((if x.length ≤ lim then some (x.length : Int) else none).map fun i => (PV.int i, σ)) = _
  rw [if_pos h]; rfl
theorem bytes_ba {y : List UInt8} {r : List PO} (h : y.length ≤ lim) : bcall (Str.ofString "bytes") [.ref 0] (.ba y :: r) = some (.bytes y, .ba y :: r) := by
  show ((if y.length ≤ lim then some y else none).map fun x => (PV.bytes x, PO.ba y :: r)) = _
  rw [if_pos h]; rfl
noncomputable def half (x : List UInt8) (w i : Nat) : List UInt8 := bsw w i x ++ List.replicate (x.length - i * w) 0
theorem half_length {x : List UInt8} {w i : Nat} (h : i * w ≤ x.length) : (half x w i).length = x.length := by
  unfold half; rw [List.length_append, bsw_length w i x h, List.length_replicate]; omega
theorem small_one {a : Int} (h0 : -1000 < a) (h1 : a < 1000) : smallAll [a] = true := by simp [smallAll, h0, h1]
theorem b_outer_turn {x : List UInt8} {w i : Nat} {ρ : Rho} (hx : x.length < 1000) (hw : 0 < w) (hw' : w < 1000) (hi : (i + 1) * w ≤ x.length) (hρ : ρ = bρ0 x w ∨ ∃ a b, ρ = bρ2 x w a b) :
    ∃ b, exs (recN TB 9) bC (upd ρ (Str.ofString "i") (.int ((i * w : Nat) : Int))) [.ba (half x w i)] (forB bF) = some (.next, bρ2 x w ((i * w : Nat) : Int) b, [.ba (half x w (i + 1))]) := by
  have hiw : i * w + w ≤ x.length := by rw [Nat.succ_mul] at hi; exact hi
  have hρ' : (∃ j', upd ρ (Str.ofString "i") (.int ((i * w : Nat) : Int)) = bρ2 x w ((i * w : Nat) : Int) j') ∨ upd ρ (Str.ofString "i") (.int ((i * w : Nat) : Int)) = bρ1 x w ((i * w : Nat) : Int) := by
    rcases hρ with rfl | ⟨a, b, rfl⟩
    · exact .inr b_u1
    · exact .inl ⟨b, b_u1'⟩
  rw [b_body.2.1, exs_one]
  have hev : evs (recN TB 8) bC (upd ρ (Str.ofString "i") (.int ((i * w : Nat) : Int))) [.ba (half x w i)] (rgA (forI bG)) = some ([.int w], [.ba (half x w i)]) := by
    rcases hρ' with ⟨j', h⟩ | h
    · rw [h]; exact (b_rw (x := x) (w := w) (i := ((i * w : Nat) : Int)) (j := j')).2
    · rw [h]; exact (b_rw (x := x) (w := w) (i := ((i * w : Nat) : Int)) (j := 0)).1
  rw [ex_forS (sr := .rng 0 1 w) b_kinds.2.2.1 b_kinds.2.2.2.2.2.2.1 (by kernel_rfl) trivial (src_rng b_kinds.2.2.2.2.2.2.2.2 (by kernel_rfl) hev rfl (small_one (by omega) (by omega)) (rangeOf_one hw'))]
  have e0 : half x w i = fill x w i 0 := fill_start hi
  rw [e0]
  refine elEA (b_inner hx hiw w 0 _ 2000 (by omega) (by omega) hρ') fun ρ' h1 h2 => ?_
  rw [h1, fill_next hi]
  rcases h2 with ⟨j', rfl⟩ | ⟨h, _⟩
  · exact ⟨j', rfl⟩
  · omega
theorem b_outer {x : List UInt8} {w Q : Nat} (hx : x.length < 1000) (hw : 0 < w) (hw' : w < 1000) : ∀ (m i : Nat) (ρ : Rho) (K : Nat), m + i ≤ Q → (m + i) * w ≤ x.length → (ρ = bρ0 x w ∨ ∃ a b, ρ = bρ2 x w a b) →
    ∃ ρ', forS (fun v ρ σ => exs (recN TB 9) bC (upd ρ (Str.ofString "i") v) σ (forB bF)) (.rng 0 w Q) (K + m) i ρ [.ba (half x w i)] = forS (fun v ρ σ => exs (recN TB 9) bC (upd ρ (Str.ofString "i") v) σ (forB bF)) (.rng 0 w Q) K (m + i) ρ' [.ba (half x w (m + i))] ∧ (ρ' = bρ0 x w ∨ ∃ a b, ρ' = bρ2 x w a b)
  | 0, i, ρ, K, hm, hi, hρ => ⟨ρ, by rw [Nat.zero_add]; rfl, hρ⟩
  | m + 1, i, ρ, K, hm, hi, hρ => by
    have hi1 : (i + 1) * w ≤ x.length := Nat.le_trans (Nat.mul_le_mul_right w (by omega)) hi
    obtain ⟨b, turn⟩ := b_outer_turn hx hw hw' hi1 hρ
    have e : (0 + (i : Int) * (w : Int)) = ((i * w : Nat) : Int) := by push_cast; omega
    have h1 := forS_turn (step := fun v ρ σ => exs (recN TB 9) bC (upd ρ (Str.ofString "i") v) σ (forB bF)) (S := .rng 0 w Q) (k := K + m) (ρ := ρ) (σ := [.ba (half x w i)]) (nx_rng (a := 0) (c := (w : Int)) (n := Q) (i := i) (by omega)) (by rw [e]; exact turn)
    obtain ⟨ρ', h2, h3⟩ := b_outer (Q := Q) hx hw hw' m (i + 1) (bρ2 x w ((i * w : Nat) : Int) b) K (by omega) (by rw [show m + (i + 1) = m + 1 + i from by omega]; exact hi) (.inr ⟨_, _, rfl⟩)
    refine ⟨ρ', ?_, h3⟩
    rw [show K + (m + 1) = K + m + 1 from by omega, h1, h2, show m + (i + 1) = m + 1 + i from by omega]
theorem b_start {x : List UInt8} {w : Int} (hx : x.length < 1000) : (recN TB 10).ex bC [(Str.ofString "data", .bytes x), (Str.ofString "width", .int w)] [] (nth bB 0) = some (.next, bρ0 x w, [.ba (half x 1 0)]) := by
  have hl : (recN TB 8).es bC [(Str.ofString "data", .bytes x), (Str.ofString "width", .int w)] [] (c1A (asE (nth bB 0))) = some (.int x.length, []) := b_es.trans (len_bytes (by unfold lim; omega))
  have hes : (recN TB 9).es bC [(Str.ofString "data", .bytes x), (Str.ofString "width", .int w)] [] (asE (nth bB 0)) = some (.ref 0, [.ba (half x 1 0)]) := by
    rw [es_sp1 b_mk.1 (g := baCall) (by rw [b_mk.2.1]; rfl) (by rw [b_mk.2.1]; decide) (by rw [b_mk.2.1]; kernel_rfl) hl]
    show (if 0 ≤ (x.length : Int) ∧ (x.length : Int) ≤ 10000 then some (mk [] (.ba (List.replicate (x.length : Int).toNat 0))) else none) = _
    rw [if_pos (by omega)]
    unfold half
    simp [mk, show ∀ w x, bsw w 0 x = [] from fun _ _ => rfl]
  rw [ex_asg b_kinds.1 (by kernel_rfl) hes, b_mk.2.2, b_u0]
theorem half_zero {x : List UInt8} {w w' : Nat} : half x w 0 = half x w' 0 := by simp [half, show ∀ w x, bsw w 0 x = [] from fun _ _ => rfl]
theorem b_args {x : List UInt8} {w : Int} {σ : Sto} (hx : x.length < 1000) : evs (recN TB 9) bC (bρ0 x w) σ (rgA (forI bF)) = some ([.int 0, .int x.length, .int w], σ) := by
  refine b_src.symm ▸ ?_
  exact evs_cons b_star.1 b_src0.1 (evs_cons b_star.2.1 (b_src0.2.1.trans (len_bytes (by unfold lim; omega))) (evs_cons b_star.2.2 b_src0.2.2 evs_nil))
theorem swap_run {x : List UInt8} {w : Nat} (hx : x.length < 1000) (hw : 0 < w) (hw' : w < 1000) (hm : x.length % w = 0) : ∃ ρ' σ', exs (recN TB 10) bC [(Str.ofString "data", .bytes x), (Str.ofString "width", .int w)] [] bB = some (.ret (.bytes (swap x w)), ρ', σ') := by
  rw [b_body.1, exs_next (b_start hx), half_zero (w' := w)]
  have hq : x.length / w * w = x.length := by rw [Nat.mul_comm]; exact Nat.mul_div_cancel' (Nat.dvd_of_mod_eq_zero hm)
  have hQ : (x.length + w - 1) / w = x.length / w := by
    have : x.length + w - 1 = (w - 1) + x.length / w * w := by omega
    rw [this, Nat.add_mul_div_right _ _ hw, Nat.div_eq_of_lt (by omega)]; omega
  have hq2 : x.length / w ≤ x.length := Nat.div_le_self ..
  obtain ⟨ρ', h1, h2⟩ := b_outer (Q := x.length / w) hx hw hw' (x.length / w) 0 (bρ0 x w) (2000 - x.length / w) (by omega) (by rw [Nat.add_zero, hq]; exact Nat.le_refl _) (.inl rfl)
  have hF : (recN TB 10).ex bC (bρ0 x w) [.ba (half x w 0)] bF = some (.next, ρ', [.ba (half x w (x.length / w))]) := by
    rw [ex_forS (sr := .rng 0 w (x.length / w)) b_kinds.2.1 b_kinds.2.2.2.2.2.1 (by kernel_rfl) trivial (src_rng b_kinds.2.2.2.2.2.2.2.1 (by kernel_rfl) (b_args hx) rfl (by simp [smallAll]; omega) (by rw [rangeOf_three hw hw' hx, hQ]))]
    rw [show 2000 = 2000 - x.length / w + x.length / w from by omega, h1, Nat.add_zero]
    obtain ⟨K, hK⟩ : ∃ K, 2000 - x.length / w = K + 1 := ⟨2000 - x.length / w - 1, by omega⟩
    refine hK.symm ▸ ?_
    exact forS_end (nx_rng_end (by omega))
  rw [exs_next hF]
  have hhalf : half x w (x.length / w) = swap x w := by
    unfold half swap
    rw [hq, Nat.sub_self, List.replicate_zero, List.append_nil]
  have hl : (half x w (x.length / w)).length ≤ lim := by rw [half_length (by omega)]; unfold lim; omega
  rw [hhalf] at hl ⊢
  rcases h2 with rfl | ⟨a, b, rfl⟩
  · rw [exs_ret (ex_ret b_kinds.2.2.2.2.1 ((b_ret (i := 0) (j := 0)).2.trans (bytes_ba hl)))]; exact ⟨_, _, rfl⟩
  · rw [exs_ret (ex_ret b_kinds.2.2.2.2.1 (b_ret.1.trans (bytes_ba hl)))]; exact ⟨_, _, rfl⟩
end Mine.Internal
end
section
set_option maxRecDepth 100000
set_option backward.match.sparseCases false
namespace Mine.Internal
open PySem PyProof.Rows
structure FnRec (h₀ : Heap) (mg : Str → Option Value) (f : Str) (ps : List Str) (a : Addr) (o : Obj) (fd : FuncData) : Prop where
  name : mg f = some (.ref a)
  dfn : FnDef h₀ a o fd (fB f)
  sc : fd.scope = fS f
  bind : ∀ vs : List Value, vs.length = ps.length → bindArgs fd ⟨vs, []⟩ = pure (ps.zip vs)
noncomputable def prim : PV → Prop
  | .ref _ => False
  | .xl _ => False
  | _ => True
theorem VR.prim {h₀ : Heap} {as as' : List Addr} {v : Value} {p : PV} (hp : prim p) (h : VR h₀ as v p) : VR h₀ as' v p := by
  cases p with
  | ref n => exact hp.elim
  | xl n => exact hp.elim
  | _ => exact h
noncomputable def bindR (ps : List Str) (qs : List PV) : Rho := ps.zip qs
section
variable {P : Ctx → Prop} {prog : Program} {w : World} {h₀ : Heap} {mg mb : Str → Option Value} {k : Nat} {R : Rec} {T : Tab}
variable {A : Around} {s : Shared} {as : List Addr} {σ σ' : Sto} {ρ ρ' : Rho} {t : Bool}
theorem lookup_zip : ∀ {ps : List Str} {qs : List PV} {vs : List Value} {as : List Addr}, Paired (VR h₀ as) vs qs → ∀ {x : Str} {q : PV}, (ps.zip qs).lookup x = some q → x ∈ ps ∧ ∃ v, (ps.zip vs).lookup x = some v ∧ VR h₀ as v q
  | [], _, _, _, _, x, q, h => by cases h
  | p :: ps, _, _, _, .nil, x, q, h => by cases h
  | p :: ps, q' :: qs, v :: vs, as, .cons hv hr, x, q, h => by
    rw [List.zip_cons_cons, List.lookup_cons] at h
    rw [List.zip_cons_cons, List.lookup_cons]
    by_cases e : x = p
    · subst e
      simp only [beq_self_eq_true] at h ⊢
      cases h
      exact ⟨List.mem_cons_self .., v, rfl, hv⟩
    · have : (x == p) = false := by simpa using e
      rw [this] at h ⊢
      obtain ⟨h1, h2⟩ := lookup_zip hr h
      exact ⟨List.mem_cons_of_mem _ h1, h2⟩
theorem lookup_rev {l : List (Str × Value)} (hn : (l.map (·.1)).Nodup) {x : Str} {v : Value} (h : l.lookup x = some v) : l.reverse.lookup x = some v := by
  have hm : (x, v) ∈ l := by
    clear hn
    induction l with
    | nil => cases h
    | cons q r ih =>
      obtain ⟨y, u⟩ := q
      rw [List.lookup_cons] at h
      by_cases e : x = y
      · subst e; simp only [beq_self_eq_true] at h; cases h; exact List.mem_cons_self ..
      · have : (x == y) = false := by simpa using e
        rw [this] at h; exact List.mem_cons_of_mem _ (ih h)
  have hm' : (x, v) ∈ l.reverse := List.mem_reverse.mpr hm
  have hn' : (l.reverse.map (·.1)).Nodup := by rw [List.map_reverse]; exact List.pairwise_reverse.mpr (hn.imp fun h => Ne.symm h)
  clear h hm hn
  generalize l.reverse = m at hm' hn'
  induction m with
  | nil => cases hm'
  | cons q r ih =>
    obtain ⟨y, u⟩ := q
    rw [List.map_cons, List.nodup_cons] at hn'
    rw [List.lookup_cons]
    rcases List.mem_cons.mp hm' with e | e
    · cases e; simp
    · have : x ≠ y := fun q => hn'.1 (q ▸ List.mem_map.mpr ⟨_, e, rfl⟩)
      have hb : (x == y) = false := by simpa using this
      rw [hb]; exact ih e hn'.2
theorem rec_sound (L : Pl P) {f : Str} {ps : List Str} {a : Addr} {o : Obj} {fd : FuncData} (D : FnRec h₀ mg f ps a o fd) (hgen : (fS f).isGenerator = false) (hps : ∀ x ∈ ps, (fS f).names.lookup x = some .local) (hnd : ps.Nodup) (X : Xs P prog w h₀ k R) (hA : AOk (k + 1) A) (I : Inv h₀ s.heap as σ) {vs : List Value} {qs : List PV} {p : PV}
    (hq : qs.length = ps.length) (hv : Paired (VR h₀ as) vs qs) (h : exs R ⟨fS f, false⟩ (ps.zip qs) σ (fB f) = some (.ret p, ρ', σ')) :
    wpP P (model prog w) A (call (.ref a) vs) (EP h₀ s as p σ') (fun _ _ => False) s := by
  have hvl : vs.length = ps.length := (paired_length hv).trans hq
  refine fn_sound L D.dfn (by rw [D.sc]; exact hgen) X hA I (D.bind vs hvl) (fun x hx => ?_) (fun x q hx => ?_) (by rw [D.sc]; exact h)
  · have : x.1 ∈ ps := by
      have := List.mem_map_of_mem (f := Prod.fst) hx
      rw [List.map_fst_zip (by omega)] at this
      exact this
    rw [D.sc]; exact hps _ this
  · refine elAEA (lookup_zip hv hx) fun h1 v h2 h3 => ?_
    refine ⟨by rw [D.sc]; exact hps x h1, v, lookup_rev ?_ h2, h3⟩
    rw [List.map_fst_zip (by omega)]; exact hnd
theorem rec_prim (L : Pl P) {f : Str} {ps : List Str} {a : Addr} {o : Obj} {fd : FuncData} (D : FnRec h₀ mg f ps a o fd) (hgen : (fS f).isGenerator = false) (hps : ∀ x ∈ ps, (fS f).names.lookup x = some .local) (hnd : ps.Nodup) (X : Xs P prog w h₀ k R) (hA : AOk (k + 1) A) (I : Inv h₀ s.heap as σ) {vs : List Value} {qs : List PV} {p : PV}
    (hq : qs.length = ps.length) (hv : Paired (VR h₀ as) vs qs) (hqs : ∀ q ∈ qs, prim q) (hp : prim p) (h : exs R ⟨fS f, false⟩ (ps.zip qs) [] (fB f) = some (.ret p, ρ', σ')) :
    wpP P (model prog w) A (call (.ref a) vs) (EP h₀ s as p σ) (fun _ _ => False) s := by
  have hv' : Paired (VR h₀ []) vs qs := by
    clear h hq
    induction hv with
    | nil => exact .nil
    | cons hh ht ih => exact .cons (hh.prim (hqs _ (List.mem_cons_self ..))) (ih fun q hq => hqs q (List.mem_cons_of_mem _ hq))
  refine wpP_mono (rec_sound L D hgen hps hnd X hA (inv_nil I.base) hq hv' h) (fun v s' h' => ?_) fun _ _ q => q
  refine elEAA h' fun as' g I' hv'' => ?_
  try clear h'
  have ka := grow_all g fun b hb => nomatch hb
  exact ⟨as, .keeps ka g.os g.gens, I.keeps ka, hv''.prim hp⟩
theorem AOk.up {j k : Nat} {A : Around} (h : AOk k A) (hj : j ≤ k) : AOk j A := h.le hj
theorem FnOk.le {j : Nat} {f : Str} {g : Nat1} (h : FnOk P prog w h₀ mg j f g) (hj : j ≤ k) : FnOk P prog w h₀ mg k f g := by
  refine elEEEAAA h fun a o fd h1 h2 h3 h4 => ?_
  try clear h
  exact ⟨a, o, fd, h1, h2, h3, fun A s as σ vs ps p σ' hA => h4 A s as σ vs ps p σ' (hA.le hj)⟩
theorem SpOk.le {j : Nat} {f : Str} {g : Nat1} (h : SpOk P prog w h₀ mg mb j f g) (hj : j ≤ k) : SpOk P prog w h₀ mg mb k f g := by
  refine elEAA h fun v h1 h2 h4 => ?_
  try clear h
  exact ⟨v, h1, h2, fun A s as σ vs ps p σ' hA => h4 A s as σ vs ps p σ' (hA.le hj)⟩
theorem XcOk.le {j : Nat} {f : Str} {g : List PV → Option Str} (h : XcOk P prog w h₀ mg j f g) (hj : j ≤ k) : XcOk P prog w h₀ mg k f g := by
  refine elEEEAAA h fun a o fd h1 h2 h3 h4 => ?_
  try clear h
  exact ⟨a, o, fd, h1, h2, h3, fun A env s as σ vs ps cls hA => h4 A env s as σ vs ps cls (hA.le hj)⟩
theorem c_strip {a : Addr} {o : Obj} {fd : FuncData} (D : FnRec h₀ mg (Str.ofString "_strip_quoted_realnames") [Str.ofString "addr"] a o fd) (X : Xs (fun _ => True) prog w h₀ k (recN T0 10)) : FnOk (fun _ => True) prog w h₀ mg (k + 1) "_strip_quoted_realnames" fStrip := by
  refine ⟨a, o, fd, D.name, D.dfn.obj, D.dfn.dat, fun A s as σ vs ps p σ' hA I hv h => ?_⟩
  refine elEAA (fStrip_inv h) fun x eq119x1 hx e => ?_
  subst eq119x1
  cases e
  refine elEE (strip_run hx) fun ρ' σ₁ hr => ?_
  exact rec_prim pl_true D (by kernel_rfl) (by intro y hy; rw [List.mem_singleton.mp hy]; kernel_rfl) (by simp) X hA I rfl hv (by intro q hq; rw [List.mem_singleton.mp hq]; trivial) trivial hr
theorem c_check {a : Addr} {o : Obj} {fd : FuncData} (D : FnRec h₀ mg (Str.ofString "_check_parenthesis") [Str.ofString "addr"] a o fd) (X : Xs (fun _ => True) prog w h₀ k (recN T1 10)) : FnOk (fun _ => True) prog w h₀ mg (k + 1) "_check_parenthesis" fCheck := by
  refine ⟨a, o, fd, D.name, D.dfn.obj, D.dfn.dat, fun A s as σ vs ps p σ' hA I hv h => ?_⟩
  refine elEAA (fCheck_inv h) fun x eq125x2 hx e => ?_
  subst eq125x2
  cases e
  refine elEE (check_run hx) fun ρ' σ₁ hr => ?_
  exact rec_prim pl_true D (by kernel_rfl) (by intro y hy; rw [List.mem_singleton.mp hy]; kernel_rfl) (by simp) X hA I rfl hv (by intro q hq; rw [List.mem_singleton.mp hq]; trivial) trivial hr
theorem c_swap {a : Addr} {o : Obj} {fd : FuncData} (D : FnRec h₀ mg (Str.ofString "_byteswap") [Str.ofString "data", Str.ofString "width"] a o fd) (X : Xs Clean prog w h₀ k (recN TB 10)) : SpOk Clean prog w h₀ mg mb (k + 1) "_byteswap" fSwap := by
  refine ⟨.ref a, .inl D.name, .inr ⟨a, o, fd, rfl, D.dfn.obj, D.dfn.dat⟩, fun A s as σ vs ps p σ' hA I hv h => ?_⟩
  refine elEEAA (fSwap_inv h) fun x w' eq131x3 pt131x4 e => ?_
  subst eq131x3
  obtain ⟨h1, h2, h3, h4⟩ := pt131x4
  cases e
  obtain ⟨n, rfl⟩ : ∃ n : Nat, w' = (n : Int) := ⟨w'.toNat, by omega⟩
  refine elEE (swap_run (x := x) (w := n) h3 (by omega) (by omega) (by simpa using h4)) fun ρ' σ₁ hr => ?_
  exact rec_prim pl_clean D (by kernel_rfl) (by intro y hy; simp only [List.mem_cons, List.not_mem_nil, or_false] at hy; rcases hy with rfl | rfl <;> kernel_rfl) (by decide) X hA I rfl hv (by intro q hq; simp only [List.mem_cons, List.not_mem_nil, or_false] at hq; rcases hq with rfl | rfl <;> trivial) trivial hr
end
end Mine.Internal
end
section
set_option maxRecDepth 100000
set_option backward.match.sparseCases false
namespace Mine.Internal
open PySem PyProof.Rows
noncomputable def flR : Fl → Option PV
  | .ret v => some v
  | _ => none
noncomputable def retOf (r : Option (Fl × Rho × Sto)) : Option PV := r.bind fun t => flR t.1
theorem retOf_some {r : Option (Fl × Rho × Sto)} {v : PV} (h : retOf r = some v) : ∃ ρ' σ', r = some (.ret v, ρ', σ') := by
  refine bindE h fun t ht zz => ?_
  clear h
  rename _ => h
  obtain ⟨f, ρ', σ'⟩ := t
  cases f with
  | ret u => cases h; exact ⟨_, _, ht⟩
  | _ => cases h
noncomputable abbrev wRun (s k : Int) : Option PV := retOf (exs (recN TG 10) ⟨fS "_law_word", false⟩ [("sign", .int s), ("kind", .int k)] [] (fB "_law_word"))
theorem w_all : [(40, 0), (40, 1), (40, 2), (40, 3), (40, 4), (40, 5), (40, 6), (40, 7), (41, 0), (41, 1), (41, 2), (41, 3), (41, 4), (41, 5), (41, 6), (41, 7)].map (fun q : Nat × Nat => wRun q.1 q.2) =
    [(40, 0), (40, 1), (40, 2), (40, 3), (40, 4), (40, 5), (40, 6), (40, 7), (41, 0), (41, 1), (41, 2), (41, 3), (41, 4), (41, 5), (41, 6), (41, 7)].map (fun q : Nat × Nat => some (.bytes ((wordOf q.1 q.2).map UInt8.ofNat))) := by kernel_rfl
theorem word_run {s k : Nat} (hs : s = 40 ∨ s = 41) (hk : k < 8) : wRun s k = some (.bytes ((wordOf s k).map UInt8.ofNat)) := by
  have h := w_all
  simp only [List.map_cons, List.map_nil, List.cons.injEq, and_true] at h
  obtain ⟨h0, h1, h2, h3, h4, h5, h6, h7, g0, g1, g2, g3, g4, g5, g6, g7⟩ := h
  rcases hs with rfl | rfl
  · match k, hk with
    | 0, _ => exact h0
    | 1, _ => exact h1
    | 2, _ => exact h2
    | 3, _ => exact h3
    | 4, _ => exact h4
    | 5, _ => exact h5
    | 6, _ => exact h6
    | 7, _ => exact h7
  · match k, hk with
    | 0, _ => exact g0
    | 1, _ => exact g1
    | 2, _ => exact g2
    | 3, _ => exact g3
    | 4, _ => exact g4
    | 5, _ => exact g5
    | 6, _ => exact g6
    | 7, _ => exact g7
noncomputable abbrev aB : List Stmt := fB "_law_about"
noncomputable abbrev aC : Cx := ⟨fS "_law_about", false⟩
noncomputable abbrev aρ (x : List UInt8) : Rho := [("words", .bytes x)]
noncomputable abbrev aE : Expr := retE (nth aB 1)
theorem a_kinds : aB = [nth aB 0, nth aB 1] ∧ (ifP (nth aB 0)).isSome = true ∧ (retP (nth aB 1)).isSome = true ∧ ifO (nth aB 0) = [] ∧ (cl2P aE).isSome = true ∧ c2F aE = Str.ofString "_byteswap" ∧ (cl2P (c2A aE)).isSome = true ∧ c2F (c2A aE) = Str.ofString "_byteswap" :=
  ⟨by kernel_rfl, by kernel_rfl, by kernel_rfl, by kernel_rfl, by kernel_rfl, by kernel_rfl, by kernel_rfl, by kernel_rfl⟩
section
variable {x : List UInt8} {σ : Sto}
theorem a_t : (recN TA 9).tr aC (aρ x) σ (ifT (nth aB 0)) = some (x == [], σ) := by kernel_rfl
theorem a_r : exs (recN TA 9) aC (aρ x) σ (ifB (nth aB 0)) = some (.ret (.bytes x), aρ x, σ) := by kernel_rfl
theorem a_in : (recN TA 7).es aC (aρ x) σ (c2A (c2A aE)) = some (.bytes x, σ) := by kernel_rfl
theorem a_ln : (recN TA 7).es aC (aρ x) σ (c2B (c2A aE)) = bcall (Str.ofString "len") [.bytes x] σ := by kernel_rfl
theorem a_5 : (recN TA 8).es aC (aρ x) σ (c2B aE) = some (.int 5, σ) := by kernel_rfl
end
theorem swap_length {x : List UInt8} {w : Nat} (hm : x.length % w = 0) : (swap x w).length = x.length := by
  have hq : x.length / w * w = x.length := by rw [Nat.mul_comm]; exact Nat.mul_div_cancel' (Nat.dvd_of_mod_eq_zero hm)
  unfold swap
  rw [bsw_length _ _ _ (by omega), hq]
theorem fSwap_ok {x : List UInt8} {w : Nat} {σ : Sto} (h1 : 0 < w) (h2 : w < 1000) (h3 : x.length < 1000) (h4 : x.length % w = 0) : fSwap [.bytes x, .int (w : Int)] σ = some (.bytes (swap x w), σ) := by
  refine (?_ : (if 0 < (w : Int) ∧ (w : Int) < 1000 ∧ x.length < 1000 ∧ x.length % (w : Int).toNat = 0 then some (PV.bytes (swap x (w : Int).toNat), σ) else none) = _)
  rw [if_pos ⟨by omega, by omega, h3, by simpa using h4⟩]
  simp
theorem about_run {x : List UInt8} (hx : x.length < 1000) (hm : x.length % 5 = 0) : ∃ ρ' σ', exs (recN TA 10) aC (aρ x) [] aB = some (.ret (.bytes (about x)), ρ', σ') := by
  rw [a_kinds.1]
  have h0 : (recN TA 10).ex aC (aρ x) [] (nth aB 0) = exs (recN TA 9) aC (aρ x) [] (if (x == []) = true then ifB (nth aB 0) else ifO (nth aB 0)) := ex_ifs a_kinds.2.1 a_t
  unfold about
  by_cases hn : x = []
  · rw [if_pos (by simpa using hn)] at h0
    rw [exs_ret (h0.trans a_r), if_pos hn, hn]
    exact ⟨_, _, rfl⟩
  · rw [if_neg (by simpa using hn), a_kinds.2.2.2.1] at h0
    have h0' : (recN TA 10).ex aC (aρ x) [] (nth aB 0) = some (.next, aρ x, []) := h0
    rw [exs_next h0', if_neg hn]
    have hl : 0 < x.length := by
      rcases Nat.eq_zero_or_pos x.length with h | h
      · exact absurd (List.length_eq_zero_iff.mp h) hn
      · exact h
    have e1 : (recN TA 8).es aC (aρ x) [] (c2A aE) = some (.bytes (swap x x.length), []) := by
      rw [es_sp2 (g := fSwap) a_kinds.2.2.2.2.2.2.1 (by rw [a_kinds.2.2.2.2.2.2.2]; rfl) (by rw [a_kinds.2.2.2.2.2.2.2]; decide) (by rw [a_kinds.2.2.2.2.2.2.2]; kernel_rfl) a_in (a_ln.trans (len_bytes (by unfold lim; omega)))]
      exact fSwap_ok hl hx hx (Nat.mod_self _)
    have hsl := swap_length (x := x) (w := x.length) (Nat.mod_self _)
    have e2 : (recN TA 9).es aC (aρ x) [] aE = some (.bytes (swap (swap x x.length) 5), []) := by
      rw [es_sp2 (g := fSwap) a_kinds.2.2.2.2.1 (by rw [a_kinds.2.2.2.2.2.1]; rfl) (by rw [a_kinds.2.2.2.2.2.1]; decide) (by rw [a_kinds.2.2.2.2.2.1]; kernel_rfl) e1 a_5]
      exact fSwap_ok (w := 5) (by omega) (by omega) (by omega) (by omega)
    rw [exs_ret (ex_ret a_kinds.2.2.1 e2)]
    exact ⟨_, _, rfl⟩
noncomputable abbrev pB : List Stmt := fB "_pre_parse_validation"
noncomputable abbrev pC : Cx := ⟨fS "_pre_parse_validation", false⟩
noncomputable abbrev pF : Stmt := nth pB 1
noncomputable abbrev p0 : Stmt := nth (forB pF) 0
noncomputable abbrev pa : Stmt := nth (ifB p0) 0
noncomputable abbrev pp : Stmt := nth (forB pF) 1
theorem p_kinds : pB = [nth pB 0, pF, nth pB 2] ∧ (forP' pF).isSome = true ∧ forB pF = [p0, pp] ∧ (ifP p0).isSome = true ∧ ifB p0 = [pa] ∧ ifO p0 = [] ∧ (appP pp).isSome = true ∧ oneN (forT pF) = some (Str.ofString "v") :=
  ⟨by kernel_rfl, by kernel_rfl, by kernel_rfl, by kernel_rfl, by kernel_rfl, by kernel_rfl, by kernel_rfl, by kernel_rfl⟩
noncomputable abbrev pρ (x : List Nat) : Rho := [("email_header_fields", .ref 0), ("accepted_values", .ref 1), ("v", .str x)]
noncomputable abbrev pρ0 : Rho := [("email_header_fields", .ref 0), ("accepted_values", .ref 1)]
noncomputable def ngE (e : Expr) : Expr := match (view e).ng with | some x => x | none => default
theorem tr_not {T : Tab} {n : Nat} {c : Cx} {ρ : Rho} {σ σ₁ : Sto} {e : Expr} {b : Bool} (h : ((view e).ng).isSome = true) (hx : (recN T n).tr c ρ σ (ngE e) = some (b, σ₁)) : (recN T (n + 1)).tr c ρ σ e = some (!b, σ₁) := by
  obtain ⟨x, hq⟩ := some_of h
  unfold ngE at hx
  rw [hq] at hx
  refine (tr_of (ng_ok hq)).trans ?_
  show ((recN T n).tr c ρ σ x).map (fun p => (!p.1, p.2)) = _
  rw [hx]; rfl
theorem p_not : ((view (ifT p0)).ng).isSome = true ∧ (view (ngE (ifT p0))).plain = true := ⟨by kernel_rfl, by kernel_rfl⟩
section
variable {x y : List Nat} {σ : Sto}
theorem p_call : (recN T2 7).ev pC (pρ x) σ (ngE (ifT p0)) = fCheck [.str x] σ := by kernel_rfl
theorem p_set : (recN T2 8).ex pC (pρ x) σ pa = some (.next, pρ noVal, σ) := by kernel_rfl
theorem p_ao : (recN T2 7).ev pC (pρ x) σ (appO pp) = some (.ref 1, σ) ∧ (recN T2 7).ev pC (pρ x) σ (appA pp) = some (.str x, σ) := ⟨by kernel_rfl, by kernel_rfl⟩
theorem p_u : upd pρ0 (Str.ofString "v") (.str x) = pρ x ∧ upd (pρ y) (Str.ofString "v") (.str x) = pρ x := ⟨by kernel_rfl, by kernel_rfl⟩
theorem p_s0 {o : PO} : (recN T2 10).ex pC [(Str.ofString "email_header_fields", .ref 0)] [o] (nth pB 0) = some (.next, pρ0, [o, .list []]) := by kernel_rfl
theorem p_src {vs : List PV} {o : PO} : src T2 (recN T2 9) pC pρ0 [.list vs, o] (forI pF) = some (.lst 0, [.list vs, o]) := by kernel_rfl
theorem p_ret : (recN T2 10).ex pC (pρ x) σ (nth pB 2) = some (.ret (.ref 1), pρ x, σ) ∧ (recN T2 10).ex pC pρ0 σ (nth pB 2) = some (.ret (.ref 1), pρ0, σ) := ⟨by kernel_rfl, by kernel_rfl⟩
end
noncomputable def kept (x : List Nat) : List Nat := if check x then x else noVal
theorem pre_loop {xs : List (List Nat)} (hl : ∀ x ∈ xs, x.length ≤ 10000) (hn : xs.length ≤ 50) : ∀ (m i : Nat) (ρ : Rho) (K : Nat), m + i = xs.length → m < K → (ρ = pρ0 ∨ ∃ x, ρ = pρ x) →
    ∃ ρ', forS (fun v ρ σ => exs (recN T2 9) pC (upd ρ (Str.ofString "v") v) σ (forB pF)) (.lst 0) K i ρ [.list (xs.map .str), .list (((xs.take i).map kept).map .str)] = some (.next, ρ', [.list (xs.map .str), .list ((xs.map kept).map .str)]) ∧ (ρ' = pρ0 ∨ ∃ x, ρ' = pρ x)
  | 0, i, ρ, K, hm, hK, hρ => by
    obtain ⟨K', rfl⟩ : ∃ K', K = K' + 1 := ⟨K - 1, by omega⟩
    have ht : xs.take i = xs := List.take_of_length_le (by omega)
    refine ht.symm ▸ ?_
    refine ⟨ρ, forS_end ?_, hρ⟩
    refine (?_ : some ((xs.map PV.str)[i]?) = some none)
    rw [List.getElem?_eq_none (by simp; omega)]
  | m + 1, i, ρ, K, hm, hK, hρ => by
    obtain ⟨K', rfl⟩ : ∃ K', K = K' + 1 := ⟨K - 1, by omega⟩
    have hi : i < xs.length := by omega
    have hx : xs[i]? = some xs[i] := List.getElem?_eq_getElem hi
    have hup : upd ρ (Str.ofString "v") (.str xs[i]) = pρ xs[i] := by
      rcases hρ with rfl | ⟨y, rfl⟩
      · exact (p_u (y := [])).1
      · exact p_u.2
    have hlx : (xs[i]).length ≤ 10000 := hl _ (List.getElem_mem hi)
    have turn : ∀ σ₁, σ₁ = [PO.list (xs.map .str), .list (((xs.take i).map kept).map .str)] → exs (recN T2 9) pC (upd ρ (Str.ofString "v") (.str xs[i])) σ₁ (forB pF) = some (.next, pρ (kept xs[i]), [.list (xs.map .str), .list (((xs.take (i + 1)).map kept).map .str)]) := by
      rintro σ₁ rfl
      rw [hup, p_kinds.2.2.1]
      have hc : (recN T2 8).tr pC (pρ xs[i]) [.list (xs.map .str), .list (((xs.take i).map kept).map .str)] (ngE (ifT p0)) = some (check xs[i], [.list (xs.map .str), .list (((xs.take i).map kept).map .str)]) := by
        refine tr_plain (v := .bool (check xs[i])) p_not.2 (p_call.trans ?_) rfl
        refine (?_ : (if (xs[i]).length ≤ 10000 then some (PV.bool (check xs[i]), _) else none) = _)
        rw [if_pos hlx]
      have h0 : (recN T2 9).ex pC (pρ xs[i]) [.list (xs.map .str), .list (((xs.take i).map kept).map .str)] p0 = some (.next, pρ (kept xs[i]), [.list (xs.map .str), .list (((xs.take i).map kept).map .str)]) := by
        rw [show (9 : Nat) = 8 + 1 from rfl, ex_ifs p_kinds.2.2.2.1 (tr_not p_not.1 (show (recN T2 7).tr pC _ _ _ = _ from tr_plain p_not.2 ((show (recN T2 6).ev pC (pρ xs[i]) _ (ngE (ifT p0)) = fCheck [.str xs[i]] _ by kernel_rfl).trans (show (if (xs[i]).length ≤ 10000 then some (PV.bool (check xs[i]), _) else none) = _ from if_pos hlx)) rfl))]
        unfold kept
        cases check xs[i] with
        | true => rw [Bool.not_true, if_neg Bool.false_ne_true, p_kinds.2.2.2.2.2.1, if_pos rfl]; rfl
        | false => rw [Bool.not_false, if_pos rfl, p_kinds.2.2.2.2.1, exs_one, p_set, if_neg Bool.false_ne_true]
      rw [exs_next h0, exs_one, ex_app p_kinds.2.2.2.2.2.2.1 p_ao.1 p_ao.2 ⟨_, rfl⟩ rfl (by simp; unfold lim; omega)]
      have e : xs.take (i + 1) = xs.take i ++ [xs[i]] := by rw [List.take_add_one, hx]; rfl
      rw [e, List.map_append, List.map_append]
      rfl
    have h1 := forS_turn (step := fun v ρ σ => exs (recN T2 9) pC (upd ρ (Str.ofString "v") v) σ (forB pF)) (S := .lst 0) (k := K') (ρ := ρ) (σ := [.list (xs.map .str), .list (((xs.take i).map kept).map .str)]) (i := i) (v := .str xs[i]) (show some ((xs.map PV.str)[i]?) = _ by rw [List.getElem?_map, hx]; rfl) (turn _ rfl)
    refine elEA (pre_loop hl hn m (i + 1) (pρ (kept xs[i])) K' (by omega) (by omega) (.inr ⟨_, rfl⟩)) fun ρ' h2 h3 => ?_
    exact ⟨ρ', h1.trans h2, h3⟩
theorem pre_run {xs : List (List Nat)} (hl : ∀ x ∈ xs, x.length ≤ 10000) (hn : xs.length ≤ 50) : ∃ ρ', exs (recN T2 10) pC [(Str.ofString "email_header_fields", .ref 0)] [.list (xs.map .str)] pB = some (.ret (.ref 1), ρ', [.list (xs.map .str), .list ((xs.map kept).map .str)]) := by
  rw [p_kinds.1, exs_next p_s0]
  refine elEA (pre_loop hl hn xs.length 0 pρ0 2000 (by omega) (by omega) (.inl rfl)) fun ρ' h1 h2 => ?_
  have hF : (recN T2 10).ex pC pρ0 [.list (xs.map .str), .list []] pF = some (.next, ρ', [.list (xs.map .str), .list ((xs.map kept).map .str)]) := by
    rw [ex_forS (sr := .lst 0) p_kinds.2.1 p_kinds.2.2.2.2.2.2.2 (by kernel_rfl) trivial p_src]
    exact h1
  rw [exs_next hF]
  rcases h2 with rfl | ⟨x, rfl⟩
  · rw [exs_ret (p_ret (x := [])).2]; exact ⟨_, rfl⟩
  · rw [exs_ret p_ret.1]; exact ⟨_, rfl⟩
end Mine.Internal
end
section
set_option maxRecDepth 100000
set_option backward.match.sparseCases false
namespace Mine.Internal
open PySem PyProof.Rows PySem.Spec
open Builtin
section
variable {prog : Program} {w : World} {A : Around} {E : Value → Shared → Prop} {s : Shared}
theorem seqIndex_out {i : Int} {n : Nat} (h0 : 0 ≤ i) (h1 : (n : Int) ≤ i) : seqIndex? i n = none := by
  unfold seqIndex?
  simp only
  split <;> (try split) <;> first | rfl | omega | (simp_all; done) | (simp_all; omega)
theorem set_ba_out {a : Addr} {o : Obj} {x : Array UInt8} {i c : Int} {t u : Tok} {Q : Value → Shared → Prop} (hh : A.handled = none) (ho : s.heap.get? a = some o) (hc : o.cls = .type "bytearray") (hd : o.data = .bytearray x 0) (hz : x.size ≤ sizeLine)
    (h0 : 0 ≤ i) (h1 : (x.size : Int) ≤ i) (h2 : i < 100000) (c0 : 0 ≤ c) (c1 : c < 256)
    (hE : ∀ h' tk e, Heap.NewExc s.heap h' e "IndexError" → E (.ref e) { s with heap := h', toks := tk }) :
    wpAny (model prog w) A (call (.builtin "bytearray.__setitem__") [.ref a, .int i t, .int c u]) Q E s := by
  have hT : s.TypeIs (.ref a) "bytearray" := ⟨o, ho, hc⟩
  refine wpAny_call_entry ba_slot_set hT ba_entry_set ?_ (ba_args_set _ _ _)
  unfold Builtin.«bytearray.__setitem__»
  try dsimp only
  refine bm_if_false rfl ?_
  refine wpAny_bind ?_
  skip
  refine wpAny_bind (wpAny_specialOf (T := "int") (typeIs_int _ _ _) F.slot_int_index.lookup ?_)
  refine bm_if_false rfl ?_
  refine wpAny_bind (wpAny_of_eq (a := i) rfl ?_)
  refine bm_if_false (by simp [Bytes.fitsIndex]; omega) ?_
  refine wpAny_pure ?_
  skip
  refine wpAny_bind ?_
  skip
  refine wpAny_bind (wpAny_of_eq (a := c) rfl ?_)
  refine bm_if_false (by simp; omega) ?_
  refine wpAny_pure ?_
  refine wpAny_bind (payload_ba ho hd ?_)
  rw [seqIndex_out h0 h1]
  skip
  refine wpAny_bind ?_
  show wpAny _ _ (do rule "bytearray.subscript.out-of-range"; raiseErrorWords "IndexError" "bytearray index out of range") _ _ _
  exact wpAny_bind (wpAny_rule (wpAny_raiseErrorWords plainExc_IndexError hh hE))
theorem setItem_out {a : Addr} {o : Obj} {x : Array UInt8} {i c : Int} {tk u : Tok} {Q : Unit → Shared → Prop} (hh : A.handled = none) (ho : s.heap.get? a = some o) (hc : o.cls = .type "bytearray") (hd : o.data = .bytearray x 0) (hz : x.size ≤ sizeLine)
    (h0 : 0 ≤ i) (h1 : (x.size : Int) ≤ i) (h2 : i < 100000) (c0 : 0 ≤ c) (c1 : c < 256)
    (hE : ∀ h' tk e, Heap.NewExc s.heap h' e "IndexError" → E (.ref e) { s with heap := h', toks := tk }) :
    wpAny (model prog w) A (setItem (.ref a) (.int i tk) (.int c u)) Q E s := by
  have hT : s.TypeIs (.ref a) "bytearray" := ⟨o, ho, hc⟩
  unfold setItem
  try with_reducible refine wpAny_holding ?_
  first | refine wpAny_bind (wpAny_pure ?_) | skip
  refine wpAny_bind (wpAny_sequenceKey hT (by decide) ?_)
  exact wpAny_bind (wpAny_callSpecial?_slot (name := Str.ofString "__setitem__") hT ba_slot_set (set_ba_out hh ho hc hd hz h0 h1 h2 c0 c1 hE))
theorem range_new_zero (a b : Int) (t u v : Tok) :
    MeetsIn prog w (Builtin.«range.__new__» ⟨[.type "range", .int a t, .int b u, .int 0 v], []⟩) (raisesNew "ValueError") :=
  .of_wp fun A R s h => by
    have hsub := F.called_range.sub
    obtain ⟨hh, hE⟩ := h
    obtain ⟨hp, g, d, tk, os⟩ := s
    wp_walk
    exact wpAny_raiseErrorWords plainExc_ValueError hh hE
theorem call_range_zero {a b : Int} {t u v : Tok} {Q : Value → Shared → Prop} (hh : A.handled = none)
    (hE : ∀ h' tk e, Heap.NewExc s.heap h' e "ValueError" → E (.ref e) { s with heap := h', toks := tk }) : wpAny (model prog w) A (call (.type "range") [.int a t, .int b u, .int 0 v]) Q E s :=
  callType_newIn F.called_range (by decide) (F.typeCall_range_3 _ _ _) (F.newCall_range_3 _ _ _) (fun obj => F.initArgs_range_3 obj _ _ _) F.entry_range_new
    (range_new_zero a b t u v) ⟨hh, fun h' tk e x => hE h' tk e x⟩
end
end Mine.Internal
end
section
set_option maxRecDepth 100000
set_option backward.match.sparseCases false
namespace Mine.Internal
open PySem PyProof.Rows
open PySem.W (hideAll of_hideAll hideAll_get hideAll_none)
section
variable {P : Ctx → Prop} {prog : Program} {w : World} {h₀ : Heap} {mg mb : Str → Option Value} {k : Nat} {R : Rec} {T : Tab}
variable {A : Around} {s : Shared} {as : List Addr} {σ σ' : Sto} {ρ ρ' : Rho} {t : Bool}
structure RB (h₀ : Heap) (lenv : Env) (s : Shared) (as : List Addr) (σ : Sto) (base : Heap) (s' : Shared) : Prop where
  os : s'.os = s.os
  gens : GK s.gens s'.gens
  keep : ∀ b o, b ≠ lenv.locals → b ∉ as → s.heap.get? b = some o → base.get? b = some o
  ns : ∀ m, s.heap.Ns lenv.locals m → s'.heap.Ns lenv.locals m
  inv : Inv h₀ base as σ
noncomputable def HeldP (h₀ : Heap) (env lenv : Env) (s : Shared) (as : List Addr) (σ : Sto) (X : String) (e : Value) (s' : Shared) : Prop :=
  ∃ a a0 base, e = .ref a ∧ Heap.HeldW base [env, lenv] a (.type X) a0 env.locals s'.heap ∧ RB h₀ lenv s as σ base s'
theorem RB.step {lenv : Env} {base : Heap} {s' s'' : Shared} (r : RB h₀ lenv s as σ base s') (hs : s'.heap.UpToSlots s''.heap) (ho : s''.os = s'.os) (hg : GK s'.gens s''.gens) : RB h₀ lenv s as σ base s'' :=
  ⟨ho.trans r.os, r.gens.trans hg, r.keep, fun m hm => hs.ns (r.ns m hm), r.inv⟩
structure Fp (env : Env) (h : Heap) : Prop where
  kind : env.scope.kind = .function
  frame : env.frame = some env.locals
  ns : ∃ m, h.Ns env.locals m
theorem funFrames {base h : Heap} {env lenv : Env} (f1 : Fp env h) (f2 : Fp lenv h) (h1 : base.get? env.locals = none) (h2 : base.get? lenv.locals = none) : h.FunFrames base [env, lenv] := by
  have one : ∀ {e : Env}, Fp e h → base.get? e.locals = none → e.scope.kind ≠ .module ∧ ∃ L o, e.frame = some L ∧ base.get? L = none ∧ h.get? L = some o ∧ ∀ vs, o.data ≠ .fields vs := fun {e} f hb => by
    refine ⟨by rw [f.kind]; decide, ?_⟩
    obtain ⟨m, o, es, ep, ho, hd, _⟩ := f.ns
    exact ⟨_, o, f.frame, hb, ho, fun vs q => by rw [hd] at q; cases q⟩
  exact ⟨(one f1 h1).1, (one f1 h1).2, (one f2 h2).1, (one f2 h2).2, trivial⟩
theorem rb_start {env lenv : Env} {sr s' : Shared} {X : String} {e : Addr} (I : Inv h₀ s.heap as σ) (hdead : s.heap.get? env.locals = none) (hl : lenv.locals ∉ as) (h0 : h₀.get? lenv.locals = none)
    (hk : ∀ b o, s.heap.get? b = some o → sr.heap.get? b = some o) (ho : sr.os = s.os) (hg : GK s.gens sr.gens) (hx : Heap.NewExc sr.heap s'.heap e X) (ho' : s'.os = sr.os) (hg' : s'.gens = sr.gens) :
    RB h₀ lenv s as σ (hideAll sr.heap [env.locals, lenv.locals]) s' ∧ (hideAll sr.heap [env.locals, lenv.locals]).StaysIn s'.heap ∧ (hideAll sr.heap [env.locals, lenv.locals]).get? e = none := by
  have hb : ∀ b o, b ≠ lenv.locals → s.heap.get? b = some o → (hideAll sr.heap [env.locals, lenv.locals]).get? b = some o := fun b o hbl e => by
    refine hideAll_get _ (hk b o e) fun hm => ?_
    simp only [List.mem_cons, List.not_mem_nil, or_false] at hm
    rcases hm with rfl | rfl
    · rw [hdead] at e; cases e
    · exact hbl rfl
  refine ⟨⟨ho'.trans ho, hg' ▸ hg, fun b o h1 _ e => hb b o h1 e, fun m hm => hm.at' fun o e => hx.keeps _ _ (hk _ o e), ?_⟩, fun b o e => hx.keeps b o (of_hideAll _ e), ?_⟩
  · refine ⟨fun b o e => hb b o (fun q => by rw [q, h0] at e; cases e) (I.base b o e), I.new, I.nd, I.len, fun n a po ha hp => (I.obj n a po ha hp).mono ⟨[], by simp⟩ fun o e => hb a o (fun q => hl (q ▸ List.mem_of_getElem? ha)) e⟩
  · cases q : (hideAll sr.heap [env.locals, lenv.locals]).get? e with
    | none => rfl
    | some o => have := of_hideAll _ q; rw [hx.new] at this; cases this
theorem note_first {M : Model} {env lenv : Env} {sr s' : Shared} {X : String} {e : Addr} (hfr : A.frames = some [env, lenv]) (I : Inv h₀ s.heap as σ) (hdead : s.heap.get? env.locals = none) (hl : lenv.locals ∉ as) (h0 : h₀.get? lenv.locals = none)
    (f1 : Fp env sr.heap) (f2 : Fp lenv s.heap) (hk : ∀ b o, s.heap.get? b = some o → sr.heap.get? b = some o) (ho : sr.os = s.os) (hg : GK s.gens sr.gens) (hx : Heap.NewExc sr.heap s'.heap e X) (ho' : s'.os = sr.os) (hg' : s'.gens = sr.gens) :
    wpAny M A (noteFrame (.ref e) env) (fun _ s'' => HeldP h₀ env lenv s as σ X (.ref e) s'') (fun _ _ => False) s' := by
  refine elAA (rb_start (env := env) (lenv := lenv) I hdead hl h0 hk ho hg hx ho' hg') fun rb st hen => ?_
  have f1' : Fp env s'.heap := ⟨f1.kind, f1.frame, let ⟨m, hm⟩ := f1.ns; ⟨m, hm.keeps hx.keeps⟩⟩
  have f2' : Fp lenv s'.heap := ⟨f2.kind, f2.frame, let ⟨m, hm⟩ := f2.ns; ⟨m, hm.keeps fun b o e => hx.keeps b o (hk b o e)⟩⟩
  have ff := funFrames (base := hideAll sr.heap [env.locals, lenv.locals]) f1' f2' (hideAll_none _ (by simp)) (hideAll_none _ (by simp))
  refine elEEAA (hx.there) fun ob t he hc hd => ?_
  unfold noteFrame
  simp only [f1.frame]
  refine wpAny_bind (wpAny_field he hd (x := .none) rfl ?_)
  rw [if_neg (by decide)]
  refine wpAny_entryW (a0 := t) hfr ff f1.frame he st hen hd (by simp) rfl fun h' hN => ?_
  refine elAAA hN fun k1 k2 k3 k4 => ?_
  try clear hN
  exact ⟨e, t, _, rfl, ⟨k1, hen, k2, hc ▸ k3⟩, rb.step k4 rfl (.refl _)⟩
theorem flight_own {M : Model} {env lenv : Env} {X : String} {e : Value} {s' : Shared} (hf : env.frame = some env.locals) (h : HeldP h₀ env lenv s as σ X e s') :
    wpAny M A (do if (← field e 1) == .none then unsupported "frame.own-activation:exception-without-traceback"
                  setFlight e env.frame) (fun _ s'' => HeldP h₀ env lenv s as σ X e s'') (fun _ _ => False) s' := by
  refine elEEEAA h fun a a0 base eq74x1 pt74x2 rb => ?_
  try clear h
  subst eq74x1
  obtain ⟨f1, f2, f3, oe, vs, T, oT, ts, he, hcls, hd, h1, hnT, hTe, hT, hdT, h3⟩ := pt74x2
  have hsz3 : 3 < ts.size := (Array.getElem?_eq_some_iff.mp h3).1
  refine wpAny_bind (wpAny_field he hd h1 ?_)
  rw [if_neg (show ¬ ((Value.ref T == Value.none) = true) from by simp)]
  refine hf.symm ▸ ?_
  skip
  refine wpAny_bind (wpAny_field he hd h1 ?_)
  rw [if_pos (show (Value.ref T != Value.none) = true from by simp)]
  have other : ∀ b, b ≠ T → (s'.heap.update T (Obj.mapFields (·.setIfInBounds 3 ((some env.locals : Option Addr).elim Value.none fun f => rawInt f)))).get? b = s'.heap.get? b :=
    fun b hb => Heap.get?_update_other _ _ (Ne.symm hb)
  have noRecord : ∀ b o, s'.heap.get? b = some o → (∀ vs, o.data ≠ .fields vs) → b ≠ T := fun b o hb hnf q => by
    rw [q, hT] at hb; injection hb with hb; subst hb; exact hnf ts hdT
  refine wpAny_setField hT hdT hsz3 ⟨a, a0, base, rfl, ⟨fun b o hbo => (other b fun q => by rw [q, hnT] at hbo; cases hbo).trans (f1 b o hbo), f2,
    f3.of_keeps fun b o hb hnf => ⟨o, (other b (noRecord b o hb hnf)).trans hb, rfl⟩, ?_⟩, rb.step (fun b o hb hnf => ⟨o.slots, (other b (noRecord b o hb hnf)).trans hb⟩) rfl (.refl _)⟩
  exact ⟨oe, vs, T, _, _, (other a (Ne.symm hTe)).trans he, hcls, hd, h1, hnT, hTe, Heap.get?_update_self _ hT (Obj.isFreed_of_fields (Obj.data_mapFields hdT _)), Obj.data_mapFields hdT _, by simp [hsz3]⟩
theorem note_again {M : Model} {env lenv : Env} {X : String} {e : Value} {s' : Shared} (hf : env.frame = some env.locals) (h : HeldP h₀ env lenv s as σ X e s') :
    wpAny M A (noteFrame e env >>= fun _ => theTreesLotGoes e) (fun _ s'' => HeldP h₀ env lenv s as σ X e s'') (fun _ _ => False) s' := by
  refine elEEEAA h fun a a0 base eq93x3 hh rb => ?_
  try clear h
  subst eq93x3
  exact wpAny_bind (wpAny_noteFrame_againW hf hh.2.2.2 (wpAny_theTreesLotGoes ⟨a, a0, base, rfl, hh, rb⟩))
theorem leave_held {M : Model} {env lenv : Env} {cls : Str} {e : Value} {s' : Shared} (hf : env.frame = some env.locals) (h : HeldP h₀ env lenv s as σ (clsName cls) e s') :
    wpAny M A (leaving env e) (fun _ s'' => RzOut h₀ lenv s as σ cls e s'') (fun _ _ => False) s' := by
  refine elEEEAA h fun a a0 base eq99x4 hh rb => ?_
  try clear h
  subst eq99x4
  skip
  refine wpAny_bind (wpAny_noteFrame_againW hf hh.2.2.2 ?_)
  refine wpAny_landsW hh fun h' hfl hs => ?_
  refine elAAA hfl fun k1 k2 pt103x5 k4 => ?_
  try clear hfl
  obtain ⟨_, _, k3⟩ := pt103x5
  exact ⟨a, a0, base, rfl, ⟨k1, k2, k3, k4⟩, rb.os, rb.gens, rb.keep, fun m hm => hs.ns (rb.ns m hm), rb.inv⟩
theorem leave_first {M : Model} {env lenv : Env} {sr s' : Shared} {cls : Str} {e : Addr} (hfr : A.frames = some [env, lenv]) (I : Inv h₀ s.heap as σ) (hdead : s.heap.get? env.locals = none) (hl : lenv.locals ∉ as) (h0 : h₀.get? lenv.locals = none)
    (f1 : Fp env sr.heap) (f2 : Fp lenv s.heap) (hk : ∀ b o, s.heap.get? b = some o → sr.heap.get? b = some o) (ho : sr.os = s.os) (hg : GK s.gens sr.gens) (hx : Heap.NewExc sr.heap s'.heap e (clsName cls)) (ho' : s'.os = sr.os) (hg' : s'.gens = sr.gens) :
    wpAny M A (leaving env (.ref e)) (fun _ s'' => RzOut h₀ lenv s as σ cls (.ref e) s'') (fun _ _ => False) s' := by
  refine elAA (rb_start (env := env) (lenv := lenv) I hdead hl h0 hk ho hg hx ho' hg') fun rb st hen => ?_
  have f1' : Fp env s'.heap := ⟨f1.kind, f1.frame, let ⟨m, hm⟩ := f1.ns; ⟨m, hm.keeps hx.keeps⟩⟩
  have f2' : Fp lenv s'.heap := ⟨f2.kind, f2.frame, let ⟨m, hm⟩ := f2.ns; ⟨m, hm.keeps fun b o e => hx.keeps b o (hk b o e)⟩⟩
  have ff := funFrames (base := hideAll sr.heap [env.locals, lenv.locals]) f1' f2' (hideAll_none _ (by simp)) (hideAll_none _ (by simp))
  refine elEEAA (hx.there) fun ob t he hc hd => ?_
  refine wpAny_leaving_firstW (a0 := t) hfr ff f1.frame he st hen hd rfl rfl fun h' hL => ?_
  refine elAAA hL fun k1 pt114x6 k3 k4 => ?_
  try clear hL
  obtain ⟨_, _, k2⟩ := pt114x6
  exact ⟨e, t, _, rfl, ⟨k1, hen, k2, hc ▸ k3⟩, rb.os, rb.gens, rb.keep, fun m hm => k4 |> fun (q : s'.heap.UpToSlots h') => q.ns (rb.ns m hm), rb.inv⟩
end
end Mine.Internal
end
section
set_option maxRecDepth 100000
set_option backward.match.sparseCases false
namespace Mine.Internal
open PySem PyProof.Rows
section
variable {P : Ctx → Prop} {prog : Program} {w : World} {h₀ : Heap} {mg mb : Str → Option Value} {k : Nat} {R : Rec} {T : Tab}
variable {A : Around} {env : Env} {s : Shared} {as : List Addr} {σ σ' : Sto} {ρ ρ' : Rho} {t : Bool}
theorem fn_raise (L : Pl P) {f : Str} {ps : List Str} {a : Addr} {o : Obj} {fd : FuncData} {E : Value → Shared → Prop} (D : FnRec h₀ mg f ps a o fd) (hgen : (fS f).isGenerator = false) (hps : ∀ x ∈ ps, (fS f).names.lookup x = some .local) (hnd : ps.Nodup) (hA : AOk (k + 1) A) (I : Inv h₀ s.heap as σ) {vs : List Value} {qs : List PV}
    (hq : qs.length = ps.length) (hv : Paired (VR h₀ as) vs qs) (hqs : ∀ q ∈ qs, prim q)
    (h : ∀ (env : Env) (s₂ : Shared), env.scope = fS f → env.cells = [] → env.frame = some env.locals → s.heap.get? env.locals = none → (∀ b o, s.heap.get? b = some o → s₂.heap.get? b = some o) → s₂.os = s.os → s₂.gens = s.gens → FrI h₀ env s₂.heap [] (ps.zip qs) →
      wpP P (model prog w) (A.deeper env) (execs (fB f) env) (fun _ _ => False) (fun e s' => wpP P (model prog w) (A.deeper env) (leaving env e) (fun _ s'' => E e s'') (fun e' s'' => E e' s'') s') s₂) :
    wpP P (model prog w) A (call (.ref a) vs) (fun _ _ => False) E s := by
  have hvl : vs.length = ps.length := (paired_length hv).trans hq
  have hv' : Paired (VR h₀ []) vs qs := by
    clear h hq hvl
    induction hv with
    | nil => exact .nil
    | cons hh ht ih => exact .cons (hh.prim (hqs _ (List.mem_cons_self ..))) (ih fun q hq => hqs q (List.mem_cons_of_mem _ hq))
  refine wpP_call L (callFnP L hA.room (I.base a o D.dfn.obj) D.dfn.dat D.dfn.co (by rw [D.sc]; exact hgen) D.dfn.body ?_ (wpAny_of_eq (D.bind vs hvl) (wpAny_newFunctionEnv D.dfn.noCell (fun x hx => ?_) (fun h' hns hsb => ⟨?_, ?_⟩) D.dfn.kind)))
  · refine elEEEEAAA (D.dfn.code) fun c oc us tq e1 e2 e3 e4 => ?_
    exact ⟨c, oc, us, tq, e1, I.base c oc e2, e3, e4⟩
  · have : x.1 ∈ ps := by
      have := List.mem_map_of_mem (f := Prod.fst) hx
      rw [List.map_fst_zip (by omega)] at this
      exact this
    rw [D.sc]; exact hps _ this
  · have hC : s.heap.get? s.heap.objs.size = none := Heap.get?_none_of_le (Nat.le_refl _)
    refine D.dfn.lim.keeps fun b ob e => ?_
    have hb' : b ≠ s.heap.objs.size := fun q => by have := I.base b ob e; rw [q, hC] at this; cases this
    exact hsb.extBut b ob hb' (Heap.get?_push_of_some _ (I.base b ob e))
  · have hC : s.heap.get? s.heap.objs.size = none := Heap.get?_none_of_le (Nat.le_refl _)
    have fr := I.fresh hC
    have old : ∀ b ob, s.heap.get? b = some ob → h'.get? b = some ob := fun b ob e => hsb.extBut b ob (fun q => by rw [q, hC] at e; cases e) (Heap.get?_push_of_some _ e)
    rw [D.dfn.clo, D.dfn.glb, D.dfn.blt]
    dsimp only [newEnv]
    refine funcP L ?_
    refine wpP_mono (h { scope := fd.scope, locals := s.heap.objs.size, globals := mainGlobals, cells := [], qual := fd.qualname ++ ".<locals>.", func := some a, code := fd.code, frame := some s.heap.objs.size, builtins := builtinsNs } { s with heap := h', toks := s.toks + (ps.zip vs).length } D.sc rfl rfl hC old rfl rfl ?_) (fun _ _ q => q.elim) fun e s' q => wpP_mono q (fun _ _ z => z) fun _ _ z => z
    have hρ : ∀ x q, (ps.zip qs).lookup x = some q → fd.scope.names.lookup x = some .local ∧ ∃ v, (ps.zip vs).reverse.lookup x = some v ∧ VR h₀ [] v q := fun x q hx => by
      refine elAEA (lookup_zip hv' hx) fun h1 v h2 h3 => ?_
      refine ⟨by rw [D.sc]; exact hps x h1, v, lookup_rev ?_ h2, h3⟩
      rw [List.map_fst_zip (by omega)]; exact hnd
    refine ⟨D.dfn.kind, rfl, rfl, ⟨_, hns, fun x q hx _ => (hρ x q hx).2⟩, fun x q hx hk => ?_, fun x hk _ => ?_, fun x q hx => .inl (hρ x q hx).1, fun x hk => ?_, (fun x c hc => nomatch hc), .nil, (fun c hc => nomatch hc), fun b hb' => ?_⟩
    · have := (hρ x q hx).1
      rcases hk with e | e
      · have e' : fd.scope.names.lookup x = some .cell := e
        rw [this] at e'; cases e'
      · have e' : fd.scope.names.lookup x = some .free := e
        rw [this] at e'; cases e'
    · exact D.dfn.noFree _ (lookup_free (show fd.scope.names.lookup x = some .free from hk)) rfl
    · exact absurd rfl (D.dfn.noCell _ (lookup_free (show fd.scope.names.lookup x = some .cell from hk)))
    · rcases List.mem_cons.mp hb' with rfl | z
      · exact ⟨(fun h => nomatch h), fr.2⟩
      · cases z
noncomputable abbrev ownOn (env : Env) (e : Value) : Sem Unit := do
  if (← field e 1) == .none then unsupported "frame.own-activation:exception-without-traceback"
  setFlight e env.frame
theorem forP_execE (L : Pl P) {target iter : Expr} {body : List Stmt} {pos : Pos} {Q : Flow → Shared → Prop} {E : Value → Shared → Prop}
    (h : wpAny (model prog w) A (eval iter env) (fun x s₁ => wpAny (model prog w) A (pyIter x) (fun it s₂ =>
      codeP P (model prog w) A (.forLoop target it body [] env) (fun r s' => match r with | .ok f => Q f s' | .error e => wpP P (model prog w) A (ownOn env e) (fun _ s'' => E e s'') (fun e' s'' => E e' s'') s') s₂) E s₁) E s)
    (hs : ∀ x, foldedSetIterable iter env x = pure x) : wpP P (model prog w) A (exec (.For target iter body [] pos) env) Q E s := by
  rw [exec_For]
  refine wpP_leaf (wpAny_standAt (wpP_leaf (wpAny_mono h (fun x s₁ h₁ => wpP_bind (wpP_of_eq (hs x) (wpP_leaf (wpAny_standAt (wpP_leaf (wpAny_holding (wpAny_mono h₁ (fun it s₂ h₂ => ?_) fun _ _ x => x))))))) fun _ _ x => x)))
  skip
  refine wpP_onRaise (wpP_run L rfl (codeP_mono h₂ fun r s' hr => ?_) (by intro x; cases x))
  cases r with
  | ok f => exact hr
  | error e => exact hr
theorem for_raise (L : Pl P) (B : Bs h₀ mg mb) (S : Sd P prog w h₀ k R) (X : Xs P prog w h₀ k R) (hA : AOk k A) (hO : TopOk t A env) (F : FrI h₀ env s.heap as ρ) (V : Inv h₀ s.heap as σ) {x : Str} {px pos : Pos} {iter : Expr} {body : List Stmt} {sr : Src} {E Ex : Value → Shared → Prop} {q : Nat} {J : Nat → Rho → Sto → Prop} {v : Nat → PV} {σ₁ : Sto}
    (hs : src T R ⟨env.scope, t⟩ ρ σ iter = some (sr, σ₁)) (hg : (∀ ps, sr ≠ .gens ps) ∧ ∀ m n, sr ≠ .zips m n) (hk : kindOk env.scope x = true) (h0 : J 0 ρ σ₁)
    (hn : ∀ i ρ σ, i ≤ q → J i ρ σ → nx sr i σ = some (some (v i)))
    (hturn : ∀ i ρ σ, i < q → J i ρ σ → ∃ ρ' σ', exs R ⟨env.scope, t⟩ (upd ρ x (v i)) σ body = some (.next, ρ', σ') ∧ J (i + 1) ρ' σ')
    (hraise : ∀ s₅ as₅ ρ σ, J q ρ σ → Grow (faddrs env) s as s₅ as₅ → FrI h₀ env s₅.heap as₅ (upd ρ x (v q)) → Inv h₀ s₅.heap as₅ σ → wpP P (model prog w) A (execs body env) (fun _ _ => False) Ex s₅)
    (hnote : ∀ e s', Ex e s' → wpP P (model prog w) A (noteFrame e env >>= fun _ => theTreesLotGoes e) (fun _ s'' => wpP P (model prog w) A (ownOn env e) (fun _ s₃ => E e s₃) (fun e' s₃ => E e' s₃) s'') (fun _ _ => False) s') :
    wpP P (model prog w) A (exec (.For (.Name x px) iter body [] pos) env) (fun _ _ => False) E s := by
  refine forP_execE L (wpAny_mono (src_sound B S hA F V hs hg) (fun xv s₁ h₁ => wpAny_mono h₁ (fun it s₂ h₂ => ?_) fun _ _ q => q.elim) fun _ _ q => q.elim) (fold_plain hs)
  refine elEEAAAAAA h₂ fun I as₂ eq82x1 g₂ V₂ it₂ hI₂ hIs hI0 => ?_
  try clear h₂
  subst eq82x1
  have hIf := live_fad F hIs
  have F₂ := F.grow g₂
  refine opq2 (fun (n : Nat) (s₃ : Shared) => ∃ i as₃ ρ₃ σ₃, n = q - i ∧ i ≤ q ∧ J i ρ₃ σ₃ ∧ Grow (faddrs env) s as s₃ as₃ ∧ Inv h₀ s₃.heap as₃ σ₃ ∧ FrI h₀ env s₃.heap as₃ ρ₃ ∧ ItAt I sr i s₃.heap as₃ ∧ I ∉ as₃) fun IV un mk => ?_
  refine forLoopP L (Ex := Ex) (fun e s' he => wpP_mono (hnote e s' he) (fun _ _ z => z) fun _ _ z => z.elim) (fun _ _ _ => trivial) IV ?_ _ (mk _ _ ⟨0, as₂, ρ, σ₁, rfl, Nat.zero_le _, h0, g₂.wide0, V₂, F₂, it₂, hI₂⟩)
  clear hnote h0 V₂ F₂ it₂ hI₂
  intro n s₃ hI
  refine el4_7 (un _ _ hI) fun i as₃ ρ₃ σ₃ eqn hi hJ g₃ V₃ F₃ it₃ hI₃ => ?_
  clear hI un
  subst eqn
  refine wpAny_mono (next_sound hA.1 it₃ hI₃ V₃ (hn i ρ₃ σ₃ hi hJ)) (fun r s₄ h₄ => ?_) fun _ _ z => z.elim
  refine elAEAA h₄ fun sk u eq89x2 hv it₄ => ?_
  try clear h₄
  subst eq89x2
  have g₄ := g₃.skip hIs sk
  have V₄ := V₃.skip hI0 hI₃ sk
  have F₄ := F₃.skip hIf sk
  refine wpAny_of_eq (show letOwnedTupleGo (.Name x px) (.ref I) u = pure () from rfl) ?_
  refine wpAny_assign_Name (wpAny_mono (store_sound F₄ V₄ (kind_of hk) hv) (fun _ s₅ h₅ => ?_) fun _ _ z => z.elim)
  refine elAA h₅ fun g₅ V₅ F₅ => ?_
  try clear h₅
  have it₅ : ItAt I sr (i + 1) s₅.heap as₃ := it₄.keep (fun o e => g₅.keep I o hIf hI₃ e) ⟨[], by simp⟩
  by_cases hlt : i < q
  · refine elEEA (hturn i ρ₃ σ₃ hlt hJ) fun ρ₆ σ₆ hr hJ' => ?_
    refine wpP_mono (exs_sound X hA hO F₅ V₅ hr) (fun f s₆ h₆ => ?_) fun _ _ z => z.elim
    refine elEAAA h₆ fun as₆ g₆ V₆ F₆ hf => ?_
    try clear h₆
    cases f with
    | next =>
      refine elEA (g₆.pre) fun u hu hfr => ?_
      refine ⟨q - (i + 1), by omega, mk _ _ ⟨i + 1, as₆, ρ₆, σ₆, rfl, hlt, hJ', (g₄.trans g₅).trans g₆, V₆, F₆, it₅.keep (fun o e => g₆.keep I o hIf hI₃ e) ⟨u, hu⟩, ?_⟩⟩
      refine hu.symm ▸ ?_
      intro hm
      rcases List.mem_append.mp hm with z | z
      · exact hI₃ z
      · obtain ⟨o, ho⟩ := it₅.live
        rw [hfr I z] at ho; cases ho
    | _ => exact hf.elim
  · have : i = q := by omega
    subst this
    exact wpP_mono (hraise s₅ as₃ ρ₃ σ₃ hJ (g₄.trans g₅) F₅ V₅) (fun _ _ z => z.elim) fun _ _ z => z
end
end Mine.Internal
end
section
set_option maxRecDepth 100000
set_option backward.match.sparseCases false
namespace Mine.Internal
open PySem PyProof.Rows
theorem oneN_eta {e : Expr} {x : Str} (h : oneN e = some x) : ∃ p, e = .Name x p := tok_of (oneN_ok h)
theorem rng_eta {e : Expr} (h : (rngP e).isSome = true) : ∃ pf pos, e = .Call (.Name (Str.ofString "range") pf) (rgA e) [] pos := by
  obtain ⟨l, hl⟩ := some_of h
  unfold rgA
  rw [hl]
  have k : ∀ v : V, v.rg = some l → v = .call (Str.ofString "range") l := fun v h => by
    cases v with
    | call f args =>
      refine iteE h fun hf zz => ?_
      clear h
      rename _ => h
      cases h
      rw [hf]
    | _ => cases h
  exact (ok_of (k _ hl)).2
theorem set_etaS {s : Stmt} (h : (setP s).isSome = true) : ∃ ps pos, s = .Assign [.Subscript (stO s) (stI s) ps] (stV s) pos ∧ isComp (stV s) = false := by
  refine elAEE (sok_of (set_eta h)) fun hc p q e => ?_
  exact ⟨p, q, e, hc⟩
theorem for_etaS {s : Stmt} (h : (forP' s).isSome = true) : ∃ q, s = .For (forT s) (forI s) (forB s) [] q := sok_of (for_eta h)
section
variable {P : Ctx → Prop} {prog : Program} {w : World} {h₀ : Heap} {mg mb : Str → Option Value} {k : Nat} {R : Rec} {T : Tab}
variable {A : Around} {env : Env} {s : Shared} {as : List Addr} {σ σ' : Sto} {ρ ρ' : Rho} {t : Bool}
noncomputable def NewP (env : Env) (s : Shared) (X : String) (e : Value) (s' : Shared) : Prop :=
  ∃ (a : Addr) (sr : Shared), e = .ref a ∧ Heap.NewExc sr.heap s'.heap a X ∧ (∀ b o, s.heap.get? b = some o → sr.heap.get? b = some o) ∧ sr.os = s.os ∧ GK s.gens sr.gens ∧ s'.os = sr.os ∧ s'.gens = sr.gens ∧ ∃ m, sr.heap.Ns env.locals m
theorem set_raise (S : Sd P prog w h₀ k R) (hA : AOk k A) (F : FrI h₀ env s.heap as ρ) (I : Inv h₀ s.heap as σ) {o i value : Expr} {ps pos : Pos} {c n : Int} {m : Nat} {y : List UInt8} {σ₁ σ₂ σ₃ : Sto} {s₀ : Shared} (hc : isComp value = false)
    (h1 : R.ev ⟨env.scope, t⟩ ρ σ value = some (.int c, σ₁)) (h2 : R.ev ⟨env.scope, t⟩ ρ σ₁ o = some (.ref m, σ₂)) (h3 : R.ev ⟨env.scope, t⟩ ρ σ₂ i = some (.int n, σ₃)) (h4 : σ₃[m]? = some (.ba y)) (hy : y.length ≤ lim) (hn0 : 0 ≤ n) (hn1 : (y.length : Int) ≤ n) (hn2 : n < 100000) (c0 : 0 ≤ c) (c1 : c < 256)
    (hk : ∀ b o, s₀.heap.get? b = some o → s.heap.get? b = some o) (has : ∀ b ∈ as, s₀.heap.get? b = none) (ho : s.os = s₀.os) (hg : GK s₀.gens s.gens) :
    wpP P (model prog w) A (exec (.Assign [.Subscript o i ps] value pos) env) (fun _ _ => False) (NewP env s₀ "IndexError") s := by
  refine wpP_any (wpAny_Assign_Subscript (wpAny_mono (S.ev hA F I h1) (fun vv s₁ e₁ => ?_) fun _ _ x => x.elim) (swaps_no hc))
  refine elEAAE e₁ fun as₁ g₁ I₁ u₁ eq39x1 => ?_
  try clear e₁
  subst eq39x1
  refine wpAny_mono (S.ev hA (F.grow g₁) I₁ h2) (fun vo s₂ e₂ => ?_) fun _ _ x => x.elim
  refine elEAAEA e₂ fun as₂ g₂ I₂ a eq41x2 ha => ?_
  try clear e₂
  subst eq41x2
  refine wpAny_mono (S.ev hA ((F.grow g₁).grow g₂) I₂ h3) (fun vi s₃ e₃ => ?_) fun _ _ x => x.elim
  refine elEAAE e₃ fun as₃ g₃ I₃ u₃ eq43x3 => ?_
  try clear e₃
  subst eq43x3
  refine elEA (g₃.pre) fun tt htt _ => ?_
  have ha₃ : as₃[m]? = some a := by rw [htt, List.getElem?_append_left (List.getElem?_eq_some_iff.mp ha).1]; exact ha
  refine elEAA (I₃.obj m a _ ha₃ h4) fun ob hob hcl hd => ?_
  have gg := (g₁.trans g₂).trans g₃
  have F₃ := F.grow gg
  refine setItem_out hA.1 hob hcl hd (by simp; unfold lim at hy; unfold sizeLine; omega) hn0 (by simpa using hn1) hn2 c0 c1 fun h' tk e hx => ?_
  refine ⟨e, s₃, rfl, hx, fun b ob hb => gg.keep b ob (fun q => nomatch q) (fun hm => by rw [has b hm] at hb; cases hb) (hk b ob hb), gg.os.trans ho, hg.trans gg.gens, rfl, rfl, let ⟨mm, hmm, _⟩ := F₃.ns; ⟨mm, hmm⟩⟩
theorem note_new {lenv : Env} {X : String} {e : Value} {s' : Shared} (hfr : A.frames = some [env, lenv]) (I : Inv h₀ s.heap as σ) (hdead : s.heap.get? env.locals = none) (hl : lenv.locals ∉ as) (h0 : h₀.get? lenv.locals = none)
    (hfe : env.frame = some env.locals) (hke : env.scope.kind = .function) (f2 : Fp lenv s.heap) (h : NewP env s X e s') :
    wpAny (model prog w) A (noteFrame e env) (fun _ s'' => HeldP h₀ env lenv s as σ X e s'') (fun _ _ => False) s' := by
  refine elEEAAAAAAA h fun a sr eq55x4 hx hk ho hg ho' hg' hns => ?_
  try clear h
  subst eq55x4
  exact note_first hfr I hdead hl h0 ⟨hke, hfe, hns⟩ f2 hk ho hg hx ho' hg'
theorem quot_lt {l n : Nat} (hn : 0 < n) (hm : l % n ≠ 0) : l / n < (l + n - 1) / n := by
  rw [Nat.lt_iff_add_one_le, Nat.le_div_iff_mul_le hn, Nat.add_mul, Nat.one_mul, Nat.mul_comm]
  have h := Nat.div_add_mod l n
  generalize n * (l / n) = q at h ⊢
  generalize l % n = r at h hm
  omega
theorem zero_mul_cast {i n : Nat} : (0 + (i : Int) * (n : Int)) = ((i * n : Nat) : Int) := (Int.zero_add _).trans (Int.natCast_mul i n).symm
theorem c_xswap {a : Addr} {o : Obj} {fd : FuncData} (B : Bs h₀ mg mb) (D : FnRec h₀ mg (Str.ofString "_byteswap") [Str.ofString "data", Str.ofString "width"] a o fd)
    (SX : ∀ n, Sd Clean prog w h₀ k (recN TB n) ∧ Xs Clean prog w h₀ k (recN TB n)) : XcOk Clean prog w h₀ mg (k + 1) "_byteswap" xSwap := by
  refine ⟨a, o, fd, D.name, D.dfn.obj, D.dfn.dat, fun A lenv s as σ vs ps cls hA hfr hfl hkind hns hoff h0 I hv hg => ?_⟩
  have f2 : Fp lenv s.heap := ⟨hkind, hfl, hns⟩
  have main : ∀ (x : List UInt8) (w' : Int), x.length < 1000 → ps = [.bytes x, .int w'] → ((w' = 0 ∧ cls = "ValueError") ∨ (∃ n : Nat, w' = (n : Int) ∧ 0 < n ∧ n < 1000 ∧ x.length % n ≠ 0 ∧ cls = "IndexError")) →
      wpP Clean (model prog w) A (call (.ref a) vs) (fun _ _ => False) (RzOut h₀ lenv s as σ cls) s := by
    intro x w' hx hps hcase
    subst hps
    refine fn_raise pl_clean D (by kernel_rfl) (by intro y hy; simp only [List.mem_cons, List.not_mem_nil, or_false] at hy; rcases hy with rfl | rfl <;> kernel_rfl) (by decide) hA I rfl hv (by intro q hq; simp only [List.mem_cons, List.not_mem_nil, or_false] at hq; rcases hq with rfl | rfl <;> trivial) fun env s₂ hsc hcl hfe hdead hk₂ ho₂ hg₂ F₂ => ?_
    have hA' : AOk k (A.deeper env) := hA.deeper
    have hfr' : (A.deeper env).frames = some [env, lenv] := Around.frames_deeper hfr
    have hke : env.scope.kind = .function := F₂.fn
    have hsx : (⟨env.scope, false⟩ : Cx) = bC := by rw [hsc]
    have hfd : faddrs env = [env.locals] := by unfold faddrs; rw [hcl]; rfl
    have V₂ : Inv h₀ s₂.heap [] [] := inv_nil fun b ob e => hk₂ b ob (I.base b ob e)
    rw [show fB (Str.ofString "_byteswap") = [nth bB 0, bF, nth bB 2] from b_body.1, execs_cons]
    refine wpP_bind (wpP_mono ((SX 10).2 hA' topF F₂ V₂ (by rw [hsx]; exact b_start hx)) (fun f s₃ h₃ => ?_) fun _ _ z => z.elim)
    refine elEAAA h₃ fun as₃ g₃ V₃ F₃ hf => ?_
    try clear h₃
    cases f with
    | next =>
      have keep₃ : ∀ {s₅ : Shared} {as₅ : List Addr}, Grow (faddrs env) s₃ as₃ s₅ as₅ → (∀ b ob, s.heap.get? b = some ob → s₅.heap.get? b = some ob) ∧ (∀ b ∈ as₅, s.heap.get? b = none) ∧ s₅.os = s.os ∧ GK s.gens s₅.gens := by
        intro s₅ as₅ g₅
        have gg := g₃.trans g₅
        refine ⟨fun b ob e => gg.keep b ob (by rw [hfd, List.mem_singleton]; intro q; rw [q, hdead] at e; cases e) (fun q => nomatch q) (hk₂ b ob e), fun b hb => ?_, gg.os.trans ho₂, ?_⟩
        · refine elEA (gg.pre) fun tt htt hfr => ?_
          rw [htt, List.nil_append] at hb
          cases e : s.heap.get? b with
          | none => rfl
          | some ob => have := hfr b hb; rw [hk₂ b ob e] at this; cases this
        · have := gg.gens; rw [hg₂] at this; exact this
      have exF : ∃ i p, bF = .For (.Name (Str.ofString "i") p) (forI bF) (forB bF) [] i := by
        obtain ⟨p, hp⟩ := oneN_eta b_kinds.2.2.2.2.2.1
        obtain ⟨q, hq⟩ := for_etaS b_kinds.2.1
        exact ⟨q, p, hq.trans (by rw [hp])⟩
      refine elEE exF fun iF pF hbF => ?_
      try clear exF
      rw [execs_cons]
      refine wpP_bind ?_
      rcases hcase with ⟨rfl, rfl⟩ | ⟨n, rfl, hn, hn', hmod, rfl⟩
      · -- the step of the range is nought
        refine hbF.symm ▸ ?_
        refine wpP_mono (Q := fun _ _ => False) (E := NewP env s "ValueError") (forP_execE pl_clean ?_ ?_) (fun _ _ z => z.elim) fun e s' he => ?_
        · refine elEE (rng_eta b_kinds.2.2.2.2.2.2.2.1) fun pf pos hr => ?_
          refine hr.symm ▸ ?_
          have hev := b_args (x := x) (w := 0) (σ := [PO.ba (half x 1 0)]) hx
          rw [← hsx] at hev
          refine wpP_to_any (callNameP (wpAny_mono (global_sound (E := fun _ _ => False) B F₃ V₃ (by decide) (by rw [hsc]; kernel_rfl) (.inr B.range) (callWithP_val rfl (plainArgs (evs_length hev)) (wpP_any (wpAny_mono (evs_sound (SX 9).1 hA' F₃ V₃ hev) (fun us s₄ h₄ => ?_) fun _ _ z => z.elim)))) (fun _ _ z => z) fun _ _ z => z.elim))
          refine elEAA h₄ fun as₄ g₄ V₄ hu => ?_
          try clear h₄
          cases hu with
          | cons u1 r1 => cases r1 with
            | cons u2 r2 => cases r2 with
              | cons u3 r3 =>
                cases r3
                apply exE u1; intro t1; clear u1
                apply exE u2; intro t2; clear u2
                apply exE u3; intro t3; clear u3
                have kk := keep₃ g₄.wide0
                refine wpP_any (call_range_zero hA'.1 fun h' tk e hx' => ⟨e, s₄, rfl, hx', kk.1, kk.2.2.1, kk.2.2.2, rfl, rfl, let ⟨m, hm, _⟩ := (F₃.grow g₄).ns; ⟨m, hm⟩⟩)
        · refine elEE (rng_eta b_kinds.2.2.2.2.2.2.2.1) fun pf pos hr => ?_
          rw [hr]; intro _; rfl
        · refine elEEAAAAAAA he fun a' sr eq117x5 hx' hk' ho' hg' ho'' hg'' hns' => ?_
          try clear he
          subst eq117x5
          exact wpP_any (wpAny_mono (leave_first (cls := "ValueError") hfr' I hdead hoff h0 ⟨hke, hfe, hns'⟩ f2 hk' ho' hg' hx' ho'' hg'') (fun _ _ z => z) fun _ _ z => z.elim)
      · -- the last block is short: the first store behind the end
        have hq1 : x.length / n * n ≤ x.length := Nat.div_mul_le_self ..
        have hq2 : x.length / n * n + x.length % n = x.length := by rw [Nat.mul_comm]; exact Nat.div_add_mod ..
        have hq3 : x.length % n < n := Nat.mod_lt _ hn
        have hQ : x.length / n < (x.length + n - 1) / n := quot_lt hn hmod
        refine hbF.symm ▸ ?_
        refine wpP_mono (Q := fun _ _ => False) (E := HeldP h₀ env lenv s as σ "IndexError") ?_ (fun _ _ z => z.elim) fun e s' he => wpP_any (wpAny_mono (leave_held (cls := "IndexError") hfe he) (fun _ _ z => z) fun _ _ z => z.elim)
        have hsrcF : src TB (recN TB 9) ⟨env.scope, false⟩ (bρ0 x n) [.ba (half x 1 0)] (forI bF) = some (.rng 0 n ((x.length + n - 1) / n), [.ba (half x 1 0)]) := by
          refine hsx.symm ▸ ?_
          exact src_rng b_kinds.2.2.2.2.2.2.2.1 (by kernel_rfl) (b_args hx) rfl (by simp [smallAll]; omega) (rangeOf_three hn hn' hx)
        refine for_raise (Ex := HeldP h₀ env lenv s as σ "IndexError") (q := x.length / n) (v := fun i => .int (0 + (i : Int) * (n : Int))) (J := fun i ρ σ => σ = [.ba (half x n i)] ∧ (ρ = bρ0 x n ∨ ∃ a b, ρ = bρ2 x n a b)) pl_clean B (SX 9).1 (SX 9).2 hA' topF F₃ V₃ hsrcF ⟨(fun _ q => by cases q), (fun _ _ q => by cases q)⟩ (by rw [hsc]; kernel_rfl)
          ⟨by rw [half_zero (w := n) (w' := 1)], .inl rfl⟩ (fun i ρ σ hi _ => nx_rng (Nat.lt_of_le_of_lt hi hQ)) (fun i ρ σ hi hJ => ?_) (fun s₅ as₅ ρ σ' hJ g₅ F₅ V₅ => ?_) (fun e s' he => wpP_any (wpAny_mono (note_again hfe he) (fun _ s'' h' => wpP_any (wpAny_mono (flight_own hfe h') (fun _ _ z => z) fun _ _ z => z.elim)) fun _ _ z => z))
        · obtain ⟨rfl, hρ⟩ := hJ
          have hi1 : (i + 1) * n ≤ x.length := Nat.le_trans (Nat.mul_le_mul_right n hi) hq1
          obtain ⟨b, turn⟩ := b_outer_turn hx hn hn' hi1 hρ
          have e : (0 + (i : Int) * (n : Int)) = ((i * n : Nat) : Int) := zero_mul_cast
          rw [e, hsx]
          exact ⟨_, _, turn, rfl, .inr ⟨_, _, rfl⟩⟩
        · obtain ⟨rfl, hρ⟩ := hJ
          have e : (0 + ((x.length / n : Nat) : Int) * (n : Int)) = ((x.length / n * n : Nat) : Int) := zero_mul_cast
          rw [e] at F₅
          have hρ' : (∃ j', upd ρ (Str.ofString "i") (.int ((x.length / n * n : Nat) : Int)) = bρ2 x n ((x.length / n * n : Nat) : Int) j') ∨ upd ρ (Str.ofString "i") (.int ((x.length / n * n : Nat) : Int)) = bρ1 x n ((x.length / n * n : Nat) : Int) := by
            rcases hρ with rfl | ⟨a, b, rfl⟩
            · exact .inr b_u1
            · exact .inl ⟨b, b_u1'⟩
          have exG : ∃ i p, bG = .For (.Name (Str.ofString "j") p) (forI bG) (forB bG) [] i := by
            obtain ⟨p, hp⟩ := oneN_eta b_kinds.2.2.2.2.2.2.1
            obtain ⟨q, hq⟩ := for_etaS b_kinds.2.2.1
            exact ⟨q, p, hq.trans (by rw [hp])⟩
          refine elEE exG fun iG pG hbG => ?_
          try clear exG
          rw [b_body.2.1, execs_cons]
          refine wpP_bind (wpP_mono (Q := fun _ _ => False) (E := HeldP h₀ env lenv s as σ "IndexError") ?_ (fun _ _ z => z.elim) fun _ _ z => z)
          refine hbG.symm ▸ ?_
          have hev : evs (recN TB 8) bC (upd ρ (Str.ofString "i") (.int ((x.length / n * n : Nat) : Int))) [.ba (half x n (x.length / n))] (rgA (forI bG)) = some ([.int n], [.ba (half x n (x.length / n))]) := by
            rcases hρ' with ⟨j', h⟩ | h
            · rw [h]; exact (b_rw (x := x) (w := n) (i := ((x.length / n * n : Nat) : Int)) (j := j')).2
            · rw [h]; exact (b_rw (x := x) (w := n) (i := ((x.length / n * n : Nat) : Int)) (j := 0)).1
          have hsrcG : src TB (recN TB 8) ⟨env.scope, false⟩ (upd ρ (Str.ofString "i") (.int ((x.length / n * n : Nat) : Int))) [.ba (half x n (x.length / n))] (forI bG) = some (.rng 0 1 n, [.ba (half x n (x.length / n))]) := by
            refine hsx.symm ▸ ?_
            exact src_rng b_kinds.2.2.2.2.2.2.2.2 (by kernel_rfl) hev rfl (small_one (by omega) (by omega)) (rangeOf_one hn')
          refine for_raise (Ex := NewP env s "IndexError") (q := 0) (v := fun i => .int (0 + (i : Int) * 1)) (J := fun i ρ' σ' => i = 0 ∧ σ' = [.ba (half x n (x.length / n))] ∧ ρ' = upd ρ (Str.ofString "i") (.int ((x.length / n * n : Nat) : Int))) pl_clean B (SX 8).1 (SX 8).2 hA' topF F₅ V₅ hsrcG ⟨(fun _ q => by cases q), (fun _ _ q => by cases q)⟩ (by rw [hsc]; kernel_rfl)
            ⟨rfl, rfl, rfl⟩ (fun i ρ σ hi _ => nx_rng (Nat.lt_of_le_of_lt hi hn)) (fun i ρ σ hi _ => absurd hi (Nat.not_lt_zero _)) (fun s₆ as₆ ρ₆ σ₆ hJ g₆ F₆ V₆ => ?_) (fun e s' he => ?_)
          · refine elAA hJ fun _ eq165x6 eq165x7 => ?_
            try clear hJ
            subst eq165x6
            subst eq165x7
            have hup : upd (upd ρ (Str.ofString "i") (.int ((x.length / n * n : Nat) : Int))) (Str.ofString "j") (.int (0 + ((0 : Nat) : Int) * 1)) = bρ2 x n ((x.length / n * n : Nat) : Int) 0 := by
              have e : (0 + ((0 : Nat) : Int) * 1) = 0 := by omega
              refine e.symm ▸ ?_
              rcases hρ' with ⟨j', h⟩ | h
              · rw [h]; exact b_u2'
              · rw [h]; exact b_u2
            rw [hup] at F₆
            refine elEEA (set_etaS b_kinds.2.2.2.1) fun ps' pos' hS hSc => ?_
            rw [b_body.2.2, execs_cons]
            refine wpP_bind (wpP_mono (Q := fun _ _ => False) (E := NewP env s "IndexError") ?_ (fun _ _ z => z.elim) fun _ _ z => z)
            refine hS.symm ▸ ?_
            have kk := keep₃ (g₅.trans g₆)
            have hlt : x.length / n * n < x.length := by omega
            have hv' : (recN TB 7).ev ⟨env.scope, false⟩ (bρ2 x n ((x.length / n * n : Nat) : Int) 0) [.ba (half x n (x.length / n))] (stV bS) = some (.int (x[x.length / n * n]).toNat, [.ba (half x n (x.length / n))]) := by
              rw [hsx, b_v]
              have e : ((x.length / n * n : Nat) : Int) + 0 = ((x.length / n * n : Nat) : Int) := by omega
              rw [e, item_bytes (List.getElem?_eq_getElem hlt) (by unfold lim; omega)]
              rfl
            have hhl : (half x n (x.length / n)).length = x.length := half_length hq1
            exact set_raise (t := false) (SX 7).1 hA' F₆ V₆ hSc hv' (by rw [hsx]; exact b_o) (by rw [hsx]; exact b_i) rfl (by rw [hhl]; exact Nat.le_of_lt (Nat.lt_trans hx (by decide))) (by omega) (by rw [hhl]; omega) (by omega) (by omega) (by have := (x[x.length / n * n]).toNat_lt; omega) kk.1 kk.2.1 kk.2.2.1 kk.2.2.2
          · refine wpP_any (wpAny_bind (wpAny_mono (note_new hfr' I hdead hoff h0 hfe hke f2 he) (fun _ s'' h' => wpAny_theTreesLotGoes ?_) fun _ _ z => z))
            exact wpP_any (wpAny_mono (flight_own hfe h') (fun _ _ z => z) fun _ _ z => z.elim)
    | _ => exact hf.elim
  obtain ⟨x, w', rfl, hx, ⟨h0, rfl⟩ | ⟨hc, rfl⟩⟩ := xSwap_inv hg
  · exact main x w' hx rfl (.inl ⟨h0, rfl⟩)
  · exact main x w' hx rfl (.inr ⟨w'.toNat, by omega, by omega, by omega, hc.2.2, rfl⟩)
end
end Mine.Internal
end
section
set_option maxRecDepth 100000
set_option backward.match.sparseCases false
namespace Mine.Internal
open PySem PyProof.Rows
section
variable {P : Ctx → Prop} {prog : Program} {w : World} {h₀ : Heap} {mg mb : Str → Option Value} {k : Nat} {R : Rec} {T : Tab}
variable {A : Around} {env : Env} {s : Shared} {as : List Addr} {σ σ' : Sto} {ρ ρ' : Rho} {t : Bool}
theorem c_word {a : Addr} {o : Obj} {fd : FuncData} (D : FnRec h₀ mg (Str.ofString "_law_word") [Str.ofString "sign", Str.ofString "kind"] a o fd) (X : Xs (fun _ => True) prog w h₀ k (recN TG 10)) : FnOk (fun _ => True) prog w h₀ mg (k + 1) "_law_word" fWord := by
  refine ⟨a, o, fd, D.name, D.dfn.obj, D.dfn.dat, fun A s as σ vs ps p σ' hA I hv h => ?_⟩
  refine elEEAA (fWord_inv h) fun z kk eq13x1 pt13x2 e => ?_
  subst eq13x1
  obtain ⟨hz, h1, h2⟩ := pt13x2
  cases e
  · · skip
      obtain ⟨n, rfl⟩ : ∃ n : Nat, z = (n : Int) := ⟨z.toNat, by omega⟩
      obtain ⟨j, rfl⟩ : ∃ n : Nat, kk = (n : Int) := ⟨kk.toNat, by omega⟩
      refine elEE (retOf_some (word_run (s := n) (k := j) (by omega) (by omega))) fun ρ' σ₁ hr => ?_
      exact rec_prim pl_true D (by kernel_rfl) (by intro y hy; simp only [List.mem_cons, List.not_mem_nil, or_false] at hy; rcases hy with rfl | rfl <;> kernel_rfl) (by decide) X hA I rfl hv (by intro q hq; simp only [List.mem_cons, List.not_mem_nil, or_false] at hq; rcases hq with rfl | rfl <;> trivial) trivial hr
theorem c_about {a : Addr} {o : Obj} {fd : FuncData} (D : FnRec h₀ mg (Str.ofString "_law_about") [Str.ofString "words"] a o fd) (X : Xs Clean prog w h₀ k (recN TA 10)) : SpOk Clean prog w h₀ mg mb (k + 1) "_law_about" fAbout := by
  refine ⟨.ref a, .inl D.name, .inr ⟨a, o, fd, rfl, D.dfn.obj, D.dfn.dat⟩, fun A s as σ vs ps p σ' hA I hv h => ?_⟩
  refine elEAA (fAbout_inv h) fun x eq22x3 hc e => ?_
  subst eq22x3
  cases e
  · · skip
      refine elEE (about_run hc.1 hc.2) fun ρ' σ₁ hr => ?_
      exact rec_prim pl_clean D (by kernel_rfl) (by intro y hy; rw [List.mem_singleton.mp hy]; kernel_rfl) (by simp) X hA I rfl hv (by intro q hq; rw [List.mem_singleton.mp hq]; trivial) trivial hr
theorem strs_vr {as as' : List Addr} : ∀ {its : List Value} {xs : List (List Nat)}, Paired (VR h₀ as) its (xs.map .str) → Paired (VR h₀ as') its (xs.map .str)
  | _, [], .nil => .nil
  | _, _ :: _, .cons h r => .cons h (strs_vr r)
theorem c_pre {a : Addr} {o : Obj} {fd : FuncData} (D : FnRec h₀ mg (Str.ofString "_pre_parse_validation") [Str.ofString "email_header_fields"] a o fd) (X : Xs (fun _ => True) prog w h₀ k (recN T2 10)) : FnOk (fun _ => True) prog w h₀ mg (k + 1) "_pre_parse_validation" fPre := by
  refine ⟨a, o, fd, D.name, D.dfn.obj, D.dfn.dat, fun A s as σ vs ps p σ' hA I hv h => ?_⟩
  refine bindE h fun v hv1 h => bindE h fun us hl h => bindE h fun xs hu h => iteE h fun hc hlast => ?_
  refine elEA (listAt_ref hl) fun n eq35x4 _ => ?_
  subst eq35x4
  cases one1_some hv1
  · · · · skip
          obtain ⟨h1, h2⟩ := hc
          have h2' : ∀ x ∈ xs, x.length ≤ 10000 := fun x hx => by simpa using List.all_eq_true.mp h2 x hx
          have hus : us = xs.map .str := pvStrs_map hu
          subst hus
          obtain ⟨ρ', hr⟩ := pre_run h2' h1
          have hk : (fun x : List Nat => PV.str (if check x then x else noVal)) = fun x => PV.str (kept x) := rfl
          rw [hk] at h
          apply spE hlast; clear hlast
          cases hv with
          | cons hv1 r =>
            cases r
            refine elEA hv1 fun l eq49x5 hl' => ?_
            try clear hv1
            subst eq49x5
            refine elEA (I.list hl hl') fun its hpl hpr => ?_
            have hlm : l ∈ as := List.mem_of_getElem? hl'
            have I₁ : Inv h₀ s.heap [l] [.list (xs.map .str)] := by
              refine ⟨I.base, fun b hb => by rw [List.mem_singleton.mp hb]; exact I.new l hlm, by simp, rfl, fun m b po hb hp => ?_⟩
              have hm : m = 0 := by
                have := (List.getElem?_eq_some_iff.mp hb).1
                simpa using this
              subst hm
              simp only [List.getElem?_cons_zero, Option.some.injEq] at hb hp
              subst hb hp
              exact ⟨its, hpl, strs_vr hpr⟩
            refine wpP_mono (rec_sound pl_true D (by kernel_rfl) (by intro y hy; rw [List.mem_singleton.mp hy]; kernel_rfl) (by simp) X hA I₁ rfl (qs := [.ref 0]) (.cons (show VR h₀ [l] (.ref l) (.ref 0) from ⟨l, rfl, rfl⟩) .nil) hr) (fun v s' h' => ?_) fun _ _ q => q
            refine elEAAEA h' fun as' g I' b eq62x6 hb => ?_
            try clear h'
            subst eq62x6
            refine elEA (g.pre) fun t ht hfr => ?_
            have htl : t.length = 1 := by have := I'.len; rw [ht] at this; simpa using this
            obtain ⟨b', rfl⟩ : ∃ b', t = [b'] := by
              match t, htl with
              | [b'], _ => exact ⟨b', rfl⟩
            subst ht
            have : b' = b := by simpa using hb
            subst this
            have hbd : s.heap.get? b' = none := hfr b' (List.mem_singleton.mpr rfl)
            refine elEA (I'.obj 0 l _ rfl rfl) fun its' hpl' hpr' => ?_
            refine elEA (I'.obj 1 b' _ rfl rfl) fun its₂ hpl₂ hpr₂ => ?_
            have V : Inv h₀ s'.heap as σ := by
              refine ⟨I'.base, I.new, I.nd, I.len, fun m c po hc hp => ?_⟩
              by_cases hcl : c = l
              · subst hcl
                have hmn : m = n := by
                  obtain ⟨e1, e2⟩ := List.getElem?_eq_some_iff.mp hc
                  obtain ⟨e3, e4⟩ := List.getElem?_eq_some_iff.mp hl'
                  have pw := List.pairwise_iff_getElem.mp I.nd
                  rcases Nat.lt_trichotomy m n with q | q | q
                  · exact absurd (e2.trans e4.symm) (pw m n e1 e3 q)
                  · exact q
                  · exact absurd (e4.trans e2.symm) (pw n m e3 e1 q)
                subst hmn
                have hpo : po = .list (xs.map .str) := by
                  have := listAt_eq hl
                  rw [hp] at this
                  exact Option.some.inj this
                subst hpo
                exact ⟨its', hpl', strs_vr hpr'⟩
              · exact (I.obj m c po hc hp).mono ⟨[], by simp⟩ fun ob e => g.keep c ob (fun q => nomatch q) (by simpa using hcl) e
            have fr := I.fresh hbd
            refine ⟨as ++ [b'], ⟨⟨[b'], rfl, fun c hc => by rw [List.mem_singleton.mp hc]; exact hbd⟩, fun c ob _ hc e => g.keep c ob (fun q => nomatch q) (by rw [List.mem_singleton]; exact fun q => hc (q ▸ hlm)) e, g.live, g.os, g.gens⟩, V.add fr.1 fr.2 ⟨its₂, hpl₂, (by have := strs_vr (xs := xs.map kept) (as' := as) hpr₂; rw [List.map_map] at this; exact this)⟩, b', rfl, ?_⟩
            rw [← I.len]; simp
noncomputable def ifQ : Stmt → Pos
  | .If _ _ _ q => q
  | _ => default
noncomputable def forQ : Stmt → Pos
  | .For _ _ _ _ q => q
  | _ => default
noncomputable def yP : Stmt → Option (Expr × Pos × Pos)
  | .Expr (.Yield (some e) p) q => some (e, p, q)
  | _ => none
noncomputable def yE (s : Stmt) : Expr := match yP s with | some (e, _) => e | none => default
noncomputable def y1P (s : Stmt) : Pos := match yP s with | some (_, p, _) => p | none => default
noncomputable def y2P (s : Stmt) : Pos := match yP s with | some (_, _, q) => q | none => default
noncomputable abbrev gB : List Stmt := fB "_iter_escaped_chars"
noncomputable abbrev gF : Stmt := nth gB 2
noncomputable abbrev g0 : Stmt := nth (forB gF) 0
noncomputable abbrev g1 : Stmt := nth (ifO g0) 0
noncomputable abbrev g3 : Stmt := nth gB 3
theorem gen_text : GTx (fS "_iter_escaped_chars") gB :=
  ⟨⟨ifT g0, ifT g1, ifT g3, yE (nth (ifB g0) 0), yE (nth (ifO g1) 0), yE (nth (ifB g3) 0), nth (ifB g0) 1, nth (ifB g1) 0, nth gB 0, nth gB 1, ⟨5, 8, 5, 11⟩, ⟨5, 13, 5, 15⟩, ⟨5, 8, 5, 15⟩,
    y1P (nth (ifB g0) 0), y2P (nth (ifB g0) 0), y1P (nth (ifO g1) 0), y2P (nth (ifO g1) 0), ifQ g1, ifQ g0, y1P (nth (ifB g3) 0), y2P (nth (ifB g3) 0), ifQ g3, ⟨5, 19, 5, 28⟩, ⟨5, 29, 5, 33⟩, ⟨5, 19, 5, 34⟩, forQ gF, 0,
    by kernel_rfl, ⟨fun x p e c => by kernel_rfl, fun x p e c => by kernel_rfl, fun x p e => by kernel_rfl, fun x p e c => by kernel_rfl, fun x p e c => by kernel_rfl, fun x p e => by kernel_rfl, fun x p e c => by kernel_rfl, fun x p e c => by kernel_rfl⟩, fun x => by kernel_rfl, fun x => by kernel_rfl⟩,
    by kernel_rfl, by kernel_rfl, by kernel_rfl, by kernel_rfl⟩
theorem c_gen {a : Addr} {o : Obj} {fd : FuncData} (B : Bs h₀ mg mb) (D : FnRec h₀ mg (Str.ofString "_iter_escaped_chars") [Str.ofString "addr"] a o fd) (S : Sd (fun _ => True) prog w h₀ k gR) (X : Xs (fun _ => True) prog w h₀ k gR) : GenC prog w h₀ mg k := by
  refine ⟨D.dfn.lim, a, o, fd, D.name, D.dfn.obj, D.dfn.dat, fun A s as σ v x hA I hv => ?_⟩
  exact gen_made D.dfn (by rw [D.sc]; kernel_rfl) (by rw [D.sc]; exact gen_text) B S X hA I hv (by rw [D.sc]; kernel_rfl) fun v => D.bind [v] rfl
structure Defs (h₀ : Heap) (mg mb : Str → Option Value) : Prop where
  bs : Bs h₀ mg mb
  gen : ∃ a o fd, FnRec h₀ mg (Str.ofString "_iter_escaped_chars") [Str.ofString "addr"] a o fd
  strip : ∃ a o fd, FnRec h₀ mg (Str.ofString "_strip_quoted_realnames") [Str.ofString "addr"] a o fd
  check : ∃ a o fd, FnRec h₀ mg (Str.ofString "_check_parenthesis") [Str.ofString "addr"] a o fd
  pre : ∃ a o fd, FnRec h₀ mg (Str.ofString "_pre_parse_validation") [Str.ofString "email_header_fields"] a o fd
  swap : ∃ a o fd, FnRec h₀ mg (Str.ofString "_byteswap") [Str.ofString "data", Str.ofString "width"] a o fd
  word : ∃ a o fd, FnRec h₀ mg (Str.ofString "_law_word") [Str.ofString "sign", Str.ofString "kind"] a o fd
  about : ∃ a o fd, FnRec h₀ mg (Str.ofString "_law_about") [Str.ofString "words"] a o fd
theorem c_ba (B : Bs h₀ mg mb) : SpOk Clean prog w h₀ mg mb k "bytearray" baCall := by
  refine ⟨.type "bytearray", .inr B.ba, .inl rfl, fun A s as σ vs ps p σ' hA I hv h => ?_⟩
  unfold baCall at h
  split at h
  · rename_i i
    split at h
    · rename_i hc
      apply spE h; clear h
      cases hv with
      | cons hv1 r =>
        cases r
        apply exE hv1; intro t; clear hv1
        refine ba_make hc.1 hc.2 fun o' h' hcl hd hg hk => ?_
        have hn : s.heap.get? s.heap.objs.size = none := Heap.get?_none_of_le (Nat.le_refl _)
        have fr := I.fresh hn
        have I' : Inv h₀ h' as σ := I.keeps hk
        refine ⟨as ++ [s.heap.objs.size], ⟨⟨[s.heap.objs.size], rfl, fun c hc => by rw [List.mem_singleton.mp hc]; exact hn⟩, fun c ob _ _ e => hk c ob e, fun c ob e => ⟨ob, hk c ob e⟩, rfl, .refl _⟩, I'.add fr.1 fr.2 ⟨o', hg, hcl, by rw [hd]; simp⟩, _, rfl, ?_⟩
        rw [← I.len]; simp
    · cases h
  · cases h
theorem tab_empty (hT : T = TG) : TabOk P prog w h₀ mg mb k T := by
  subst hT
  constructor
  · intro f g h; cases h
  · intro f g h; cases h
  · intro f g h; cases h
  · rfl
  · intro h; cases h
theorem law_tab (DD : Defs h₀ mg mb) : TabOk Clean prog w h₀ mg mb 6 T3 := by
  have B := DD.bs
  refine elEEE (DD.gen) fun _ _ _ Dg => ?_
  refine elEEE (DD.strip) fun _ _ _ Ds => ?_
  refine elEEE (DD.check) fun _ _ _ Dc => ?_
  refine elEEE (DD.pre) fun _ _ _ Dp => ?_
  refine elEEE (DD.swap) fun _ _ _ Db => ?_
  refine elEEE (DD.word) fun _ _ _ Dw => ?_
  refine elEEE (DD.about) fun _ _ _ Da => ?_
  have hG := all_sound (P := fun _ => True) (prog := prog) (w := w) (k := 0) pl_true B (tab_empty (T := TG) rfl)
  have gc : GenC prog w h₀ mg 0 := c_gen B Dg (hG 6).1 (hG 6).2
  have cw := c_word Dw (hG 10).2
  have t0 : TabOk (fun _ => True) prog w h₀ mg mb 2 T0 := by
    constructor
    · intro f g h; cases h
    · intro f g h; cases h
    · intro f g h; cases h
    · rfl
    · exact fun _ => ⟨0, by omega, gc⟩
  have cs := c_strip Ds (all_sound pl_true B t0 10).2
  have t1 : TabOk (fun _ => True) prog w h₀ mg mb 3 T1 := by
    constructor
    · intro f g h
      unfold T1 at h
      dsimp only at h
      split at h
      · rename_i hf
        cases h; subst hf; exact cs
      · cases h
    · intro f g h; cases h
    · intro f g h; cases h
    · rfl
    · exact fun _ => ⟨0, by omega, gc⟩
  have cc := c_check Dc (all_sound pl_true B t1 10).2
  have t2 : TabOk (fun _ => True) prog w h₀ mg mb 4 T2 := by
    constructor
    · intro f g h
      unfold T2 at h
      dsimp only at h
      split at h
      · rename_i hf
        cases h; subst hf; exact cc
      · cases h
    · intro f g h; cases h
    · intro f g h; cases h
    · rfl
    · intro h; cases h
  have cp := c_pre Dp (all_sound pl_true B t2 10).2
  have tb : TabOk Clean prog w h₀ mg mb 0 TB := by
    constructor
    · intro f g h; cases h
    · intro f g h
      unfold TB at h
      dsimp only at h
      split at h
      · rename_i hf
        cases h; subst hf; exact c_ba B
      · cases h
    · intro f g h; cases h
    · rfl
    · intro h; cases h
  have hB := all_sound pl_clean B tb
  have cb := c_swap (mb := mb) Db (hB 10).2
  have cx := c_xswap B Db hB
  have ta : TabOk Clean prog w h₀ mg mb 1 TA := by
    constructor
    · intro f g h; cases h
    · intro f g h
      unfold TA at h
      dsimp only at h
      split at h
      · rename_i hf
        cases h; subst hf; exact cb
      · cases h
    · intro f g h; cases h
    · rfl
    · intro h; cases h
  have ca := c_about (mb := mb) Da (all_sound pl_clean B ta 10).2
  constructor
  · intro f g h
    unfold T3 at h
    dsimp only at h
    split at h
    · rename_i hf
      cases h; subst hf; exact cc.le (by omega)
    · split at h
      · rename_i hf
        cases h; subst hf; exact cp.le (by omega)
      · split at h
        · rename_i hf
          cases h; subst hf; exact cw.le (by omega)
        · cases h
  · intro f g h
    unfold T3 at h
    dsimp only at h
    split at h
    · rename_i hf
      cases h; subst hf; exact cb.le (by omega)
    · split at h
      · rename_i hf
        cases h; subst hf; exact ca.le (by omega)
      · cases h
  · intro f g h
    unfold T3 at h
    dsimp only at h
    split at h
    · rename_i hf
      cases h; subst hf; exact cx.le (by omega)
    · cases h
  · rfl
  · intro h; cases h
end
end Mine.Internal
end
section
set_option maxRecDepth 100000
set_option backward.match.sparseCases false
namespace Mine.Internal
open PySem PySem.Spec PySem.Calls PyProof.Rows PySem.W PySem.Challenge
noncomputable def fnStmt (f : Str) : Option Stmt := (pw_pg0065_01.main.body.filter fun s => match s with | .FunctionDef n _ _ _ _ _ _ _ _ _ => n = f | _ => false).head?
noncomputable def fP (f : Str) : Arguments := match fnStmt f with | some (.FunctionDef _ a _ _ _ _ _ _ _ _) => a | _ => default
noncomputable def fQ (f : Str) : Pos := match fnStmt f with | some (.FunctionDef _ _ _ _ _ _ _ _ _ q) => q | _ => default
noncomputable abbrev rc (f : Str) : DefRec := ⟨f, fP f, fB f, fS f, fQ f⟩
theorem def_law : defOf hd.view_39 (Str.ofString "law") = some (rc (Str.ofString "law"), []) := by kernel_rfl
section
variable {R : WRecords} {XP : (Str → Option Value) → Heap → Prop} {w : World} {s₀ : Shared} {mg mb : Str → Option Value} {h : Heap}
theorem rec_of (G : Ground hd.view_39 [] R XP w s₀ mg mb h) {f : Str} {ps : List Str} (hf : (recsOf hd.view_39).find? (fun e => e.name == f) = some (rc f)) (hk : (fS f).kind = .function) (hc : (fS f).names.all (fun x => decide (x.2 ≠ .cell) && decide (x.2 ≠ .free)) = true) (hco : (fS f).isCoroutine = false)
    (hb : ∀ (pm code doc : Value) (vs : List Value), vs.length = ps.length → bindArgs (docDef f (fP f) (fB f) (fS f) pm code doc) ⟨vs, []⟩ = pure (ps.zip vs)) : ∃ a o fd, FnRec h mg f ps a o fd := by
  obtain ⟨a, o, pm, code, doc, h1, h2, h3, h4⟩ := G.T.fn (rc f) (List.mem_of_find?_eq_some hf)
  have hc' := List.all_eq_true.mp hc
  refine ⟨a, o, _, h1, ⟨h2, h3, hk, fun x hx => ?_, fun x hx => ?_, hco, rfl, h4, rfl, rfl, rfl, G.T.nolimit⟩, rfl, fun vs hv => hb pm code doc vs hv⟩
  · have := hc' x hx; simp at this; exact this.1
  · have := hc' x hx; simp at this; exact this.2
theorem one_arg {P : List Value → Prop} (h : ∀ v, P [v]) : ∀ vs : List Value, vs.length = 1 → P vs := fun vs hv => match vs, hv with | [v], _ => h v
theorem two_args {P : List Value → Prop} (h : ∀ u v, P [u, v]) : ∀ vs : List Value, vs.length = 2 → P vs := fun vs hv => match vs, hv with | [u, v], _ => h u v
noncomputable def outside (x : Str) : Bool := !(startupNames.contains x) && !((looseW hd.view_39 []).contains x) && !(((recsOf hd.view_39).map (·.name)).contains x) && !(((litsOf hd.view_39).map (·.1)).contains x) && !(((clssOf hd.view_39 (looseW hd.view_39 [])).map (·.name)).contains x) && decide (x ≠ "__name__")
theorem free_of (G : Ground hd.view_39 [] R XP w s₀ mg mb h) {x : Str} {v : Value} (ho : outside x = true) (hv : bootBuiltins x = some v) : mg x = none ∧ mb x = some v := by
  unfold outside at ho
  simp only [Bool.and_eq_true, Bool.not_eq_true', decide_eq_true_eq] at ho
  obtain ⟨⟨⟨⟨⟨h1, h2⟩, h3⟩, h4⟩, h5⟩, h6⟩ := ho
  have cv : ∀ {l : List Str}, l.contains x = false → x ∉ l := fun {l} e hm => by
    rw [List.contains_iff_mem.mpr hm] at e; cases e
  exact ⟨G.T.free x (cv h1) (cv h2) (cv h3) (cv h4) (cv h5), (G.T.builtins x h6).trans hv⟩
theorem defs_of (G : Ground hd.view_39 [] R XP w s₀ mg mb h) : Defs h mg mb := by
  refine ⟨⟨G.T.g, G.T.b, fun f v hv => ?_, free_of G (by kernel_rfl) (by kernel_rfl), free_of G (by kernel_rfl) (by kernel_rfl), free_of G (by kernel_rfl) (by kernel_rfl), free_of G (by kernel_rfl) (by kernel_rfl), free_of G (by kernel_rfl) (by kernel_rfl), free_of G (by kernel_rfl) (by kernel_rfl), free_of G (by kernel_rfl) (by kernel_rfl)⟩,
    rec_of G (by kernel_rfl) (by kernel_rfl) (by kernel_rfl) (by kernel_rfl) (fun pm code doc => one_arg fun v => by kernel_rfl),
    rec_of G (by kernel_rfl) (by kernel_rfl) (by kernel_rfl) (by kernel_rfl) (fun pm code doc => one_arg fun v => by kernel_rfl),
    rec_of G (by kernel_rfl) (by kernel_rfl) (by kernel_rfl) (by kernel_rfl) (fun pm code doc => one_arg fun v => by kernel_rfl),
    rec_of G (by kernel_rfl) (by kernel_rfl) (by kernel_rfl) (by kernel_rfl) (fun pm code doc => one_arg fun v => by kernel_rfl),
    rec_of G (by kernel_rfl) (by kernel_rfl) (by kernel_rfl) (by kernel_rfl) (fun pm code doc => two_args fun u v => by kernel_rfl),
    rec_of G (by kernel_rfl) (by kernel_rfl) (by kernel_rfl) (by kernel_rfl) (fun pm code doc => two_args fun u v => by kernel_rfl),
    rec_of G (by kernel_rfl) (by kernel_rfl) (by kernel_rfl) (by kernel_rfl) (fun pm code doc => one_arg fun v => by kernel_rfl)⟩
  unfold bval at hv
  by_cases h1 : f = "len"
  · rw [if_pos h1] at hv; cases hv; subst h1; exact free_of G (by kernel_rfl) (by kernel_rfl)
  rw [if_neg h1] at hv
  by_cases h2 : f = "chr"
  · rw [if_pos h2] at hv; cases hv; subst h2; exact free_of G (by kernel_rfl) (by kernel_rfl)
  rw [if_neg h2] at hv
  by_cases h3 : f = "min"
  · rw [if_pos h3] at hv; cases hv; subst h3; exact free_of G (by kernel_rfl) (by kernel_rfl)
  rw [if_neg h3] at hv
  by_cases h4 : f = "max"
  · rw [if_pos h4] at hv; cases hv; subst h4; exact free_of G (by kernel_rfl) (by kernel_rfl)
  rw [if_neg h4] at hv
  by_cases h5 : f = "sum"
  · rw [if_pos h5] at hv; cases hv; subst h5; exact free_of G (by kernel_rfl) (by kernel_rfl)
  rw [if_neg h5] at hv
  by_cases h6 : f = "bytes"
  · rw [if_pos h6] at hv; cases hv; subst h6; exact free_of G (by kernel_rfl) (by kernel_rfl)
  rw [if_neg h6] at hv
  cases hv
end
end Mine.Internal
end
section
set_option maxRecDepth 100000
set_option backward.match.sparseCases false
namespace Mine.Internal
open PySem PySem.Spec PySem.Calls PyProof.Rows PySem.W PySem.Challenge
theorem cells_has : ∀ (names : List (Str × NameKind)) (n : Nat) (acc : List (Str × Addr)) (x : Str), ((x, NameKind.cell) ∈ names ∨ (acc.lookup x).isSome = true) → ((cellsFrom n names acc).lookup x).isSome = true
  | [], n, acc, x, h => by
    rcases h with h | h
    · cases h
    · exact h
  | (y, kd) :: r, n, acc, x, h => by
    unfold cellsFrom
    split
    · refine cells_has r (n + 1) _ x ?_
      rcases h with h | h
      · rcases List.mem_cons.mp h with e | e
        · cases e; exact .inr (by simp)
        · exact .inl e
      · refine .inr ?_
        rw [List.lookup_cons]
        split
        · rfl
        · exact h
    · rename_i hk
      refine cells_has r n acc x ?_
      rcases h with h | h
      · rcases List.mem_cons.mp h with e | e
        · cases e; exact absurd rfl hk
        · exact .inl e
      · exact .inr h
theorem cells_names : ∀ (names : List (Str × NameKind)) (n : Nat) (acc : List (Str × Addr)), (names.map (·.1)).Nodup → (acc.map (·.1)).Nodup → (∀ x ∈ acc.map (·.1), x ∉ names.map (·.1)) → ((cellsFrom n names acc).map (·.1)).Nodup
  | [], n, acc, _, ha, _ => ha
  | (y, kd) :: r, n, acc, hn, ha, hd => by
    rw [List.map_cons, List.nodup_cons] at hn
    have hd' : ∀ x ∈ acc.map (·.1), x ∉ r.map (·.1) := fun x hx q => hd x hx (by rw [List.map_cons]; exact List.mem_cons_of_mem _ q)
    have hnew : y ∉ acc.map (·.1) := fun q => hd y q (by rw [List.map_cons]; exact List.mem_cons_self ..)
    unfold cellsFrom
    split
    · refine cells_names r (n + 1) _ hn.2 ?_ ?_
      · rw [List.map_cons, List.nodup_cons]; exact ⟨hnew, ha⟩
      · intro x hx
        rw [List.map_cons] at hx
        rcases List.mem_cons.mp hx with rfl | q
        · exact hn.1
        · exact hd' x q
    · exact cells_names r n acc hn.2 ha hd'
section
variable {prog : Program} {w : World} {h₀ : Heap} {mg mb : Str → Option Value} {s : Shared}
theorem law_sound {a : Addr} {o : Obj} {pm cd doc : Value} {ns : List Int} {v : Value} {ρ' : Rho} {σ' : Sto} {n : Nat} (DD : Defs s.heap mg mb) (hlim : s.heap.NoLimit) (ho : s.heap.get? a = some o) (hd : o.data = .func (docDef (Str.ofString "law") (fP (Str.ofString "law")) (fB (Str.ofString "law")) (fS (Str.ofString "law")) pm cd doc))
    (hcd : s.heap.CodeRec cd (Str.ofString "law")) (hv : VR s.heap [] v (.xl ns)) (h : exs (recN T3 n) ⟨fS (Str.ofString "law"), true⟩ [(Str.ofString "script", .xl ns)] [] (fB (Str.ofString "law")) = some (.ret (.bool true), ρ', σ')) :
    wpP Clean (model prog w) callerA (call (.ref a) [v]) (fun r s' => r = .bool true ∧ (∀ b ob, s.heap.get? b = some ob → s'.heap.get? b = some ob) ∧ s'.os = s.os ∧ GK s.gens s'.gens) (fun _ _ => False) s := by
  have hA : AOk 7 callerA := ⟨rfl, by decide +kernel, by decide +kernel⟩
  have SX := all_sound (prog := prog) (w := w) pl_clean DD.bs (law_tab (prog := prog) (w := w) DD) n
  have hnames : ((fS (Str.ofString "law")).names.map (·.1)).Nodup := by decide +kernel
  have hnofree : (fS (Str.ofString "law")).names.all (fun x => decide (x.2 ≠ .free)) = true := by kernel_rfl
  refine wpP_call pl_clean (callFnP pl_clean hA.room ho hd (by kernel_rfl) (by kernel_rfl) rfl hcd (wpAny_of_eq (show bindArgs _ _ = pure [(Str.ofString "script", v)] by kernel_rfl) (wpAny_newFunctionEnv_cells (by kernel_rfl) (fun x hx => ?_) fun env he s' hin => ⟨hlim.keeps hin.toInCall.keep, ?_⟩)))
  · rw [List.mem_singleton.mp hx]; exact .inl (by kernel_rfl)
  · have hsc : env.scope = fS (Str.ofString "law") := by rw [he]; rfl
    have hloc : env.locals = s.heap.objs.size := by rw [he]; rfl
    have hcl : env.cells = cellsFrom (s.heap.objs.size + 1) (fS (Str.ofString "law")).names [] := by rw [he]; rfl
    have hfr : env.frame = some env.locals := by rw [he]; rfl
    have hglb : env.globals = mainGlobals := by rw [he]; rfl
    have hblt : env.builtins = builtinsNs := by rw [he]; rfl
    have hcn : (env.cells.map (·.1)).Nodup := by rw [hcl]; exact cells_names _ _ _ hnames .nil (fun x hx => nomatch hx)
    have hkd : ∀ x, env.kindOf x = (fS (Str.ofString "law")).names.lookup x := fun x => by show env.scope.names.lookup x = _; rw [hsc]
    have F : FrI s.heap env s'.heap [] [(Str.ofString "script", .xl ns)] := by
      refine ⟨by rw [hsc]; kernel_rfl, hglb, hblt, ⟨_, hin.toInCall.ns, fun x p hx hk => ?_⟩, fun x p hx hk => ?_, fun x hk _ => ?_, fun x p hx => ?_, fun x hk => ?_, fun x c hc => ?_, hin.apart, fun c hc => ?_, fun b hb => ?_⟩
      · rw [List.lookup_cons] at hx
        split at hx
        · rename_i hxx
          cases hx
          have : x = Str.ofString "script" := by simpa using hxx
          subst this
          refine ⟨v, ?_, hv⟩
          unfold bindL bindL
          rw [if_pos hk]; simp
        · cases hx
      · have hxx : x = Str.ofString "script" := by
          rw [List.lookup_cons] at hx
          split at hx
          · rename_i q; simpa using q
          · cases hx
        subst hxx
        rw [hkd] at hk
        have : (fS (Str.ofString "law")).names.lookup (Str.ofString "script") = some .local := by kernel_rfl
        rw [this] at hk
        rcases hk with e | e <;> cases e
      · rw [hkd] at hk
        have := List.all_eq_true.mp hnofree _ (lookup_free hk)
        simp at this
      · have hxx : x = Str.ofString "script" := by
          rw [List.lookup_cons] at hx
          split at hx
          · rename_i q; simpa using q
          · cases hx
        subst hxx
        exact .inl ((hkd _).trans (by kernel_rfl))
      · rw [hkd] at hk
        refine hcl.symm ▸ ?_
        exact Option.isSome_iff_exists.mp (cells_has _ _ _ x (.inl (lookup_free hk)))
      · exact ⟨_, hin.cell x c (lookup_of_mem hcn hc)⟩
      · refine elEA (List.mem_map.mp hc) fun pt106x1 hm eq106x2 => ?_
        obtain ⟨x, d⟩ := pt106x1
        subst eq106x2
        exact fun q => Nat.ne_of_gt (hin.above x d hm) q
      · refine ⟨(fun h => nomatch h), Heap.get?_none_of_le ?_⟩
        rcases List.mem_cons.mp hb with rfl | hb
        · exact Nat.le_of_eq hloc.symm
        · refine elEA (List.mem_map.mp hb) fun pt111x3 hm eq111x4 => ?_
          obtain ⟨x, d⟩ := pt111x3
          subst eq111x4
          exact Nat.le_of_lt (hloc ▸ hin.above x d hm)
    have hkeep := hin.toInCall.keep
    refine elEEA (hin.done) fun h'' tk hs' _ => ?_
    refine funcP pl_clean ?_
    have hA' : AOk 6 (callerA.deeper env) := hA.deeper
    have hO : TopOk true (callerA.deeper env) env := fun _ => ⟨rfl, hfr⟩
    rw [← hsc] at h
    refine wpP_mono (exs_sound SX.2 hA' hO F (inv_nil hkeep) h) (fun f s₃ h₃ => ?_) fun _ _ q => q.elim
    refine elEAAA h₃ fun as' g₃ I₃ F₃ hf => ?_
    try clear h₃
    cases f with
    | ret r =>
      have hr : r = .bool true := hf
      subst hr
      refine ⟨rfl, fun b ob e => g₃.keep b ob (fun hm => ?_) (fun q => nomatch q) (hkeep b ob e), ?_, ?_⟩
      · have := (F.offs b hm).2
        rw [this] at e; cases e
      · rw [g₃.os, hs']
      · have := g₃.gens; rw [hs'] at this; exact this
    | _ => exact hf.elim
end
theorem holds_of (run : ∀ ns : List Int, ns.length ≤ 63 → ∃ n ρ' σ', exs (recN T3 n) ⟨fS (Str.ofString "law"), true⟩ [(Str.ofString "script", .xl ns)] [] (fB (Str.ofString "law")) = some (.ret (.bool true), ρ', σ')) : rw_pg0065_01.Holds := by
  refine top (d := rc (Str.ofString "law")) (kwd := []) def_law (by kernel_rfl) (by kernel_rfl) ?_
  intro w s₀ s₁ mg mb G Y a o pm cd doc dV kV ho hdt hcd hD hmg hg args vals as hpre hlay hrd hwl hlo
  have DD := defs_of G
  obtain ⟨a', o', pm', cd', doc', h1, h2, h3, h4⟩ := G.T.fn (rc (Str.ofString "law")) (List.mem_of_find?_eq_some (show (recsOf hd.view_39).find? (fun e => e.name == Str.ofString "law") = some (rc (Str.ofString "law")) by kernel_rfl))
  have haa : a = a' := by
    have : mg (Str.ofString "law") = some (.ref a) := hmg
    rw [h1] at this; cases this; rfl
  subst haa
  wrow_args hpre hlay hrd hwl hlo
  rename_i ns _ _ _ _ _ _ _ la vl _ hL _ _ _ hI _ hcond _
  refine elEEE (run ns (by omega)) fun n ρ' σ' hr => ?_
  have hv : VR s₁.heap [] (.ref la) (.xl ns) := ⟨la, vl.toArray, rfl, hL, hI⟩
  refine wpP_mono (law_sound (prog := rw_pg0065_01.row.prog) (w := w) (a := a) DD G.T.nolimit h2 h3 h4 hv hr) (fun r s' h' => ?_) fun _ _ q => q.elim
  refine elAAA h' fun eq147x5 hk hos hgk => ?_
  try clear h'
  subst eq147x5
  refine ⟨.inl ⟨.bool true, .bool true, [], rfl, fun _ => by rfl, .bool true, by kernel_rfl, fun _ => ⟨.nil, fun _ h => nomatch h⟩⟩, .of_keep hk, hos, hgk.bare (by rw [hg]; exact AllBare.empty)⟩
end Mine.Internal
end
section
set_option maxRecDepth 100000
set_option backward.match.sparseCases false
namespace Mine.Internal
open PySem PyProof.Rows
noncomputable def V.kids : V → List Expr
  | .bin _ l r => [l, r]
  | .bool _ es => es
  | .cmp _ l r => [l, r]
  | .ite t b o => [t, b, o]
  | .not x => [x]
  | .meth _ o args => o :: args
  | .call _ args => args
  | .isi a => [a]
  | .slice v lo hi => [v, lo.getD default, hi.getD default]
  | .rev v => [v]
  | .idxN v _ => [v]
  | .idx v i => [v, i]
  | .list es => es
  | .tup es => es
  | .comp elt tgt iter ifs _ => elt :: tgt :: iter :: ifs
  | _ => []
noncomputable def kd (e : Expr) (i : Nat) : Expr := (view e).kids.getD i default
end Mine.Internal
end
section
set_option maxRecDepth 100000
set_option backward.match.sparseCases false
namespace Mine.Internal
open PySem PyProof.Rows
noncomputable def G (σ₀ σ : Sto) : Prop := ∃ t, σ = σ₀ ++ t
theorem G.rfl' {σ : Sto} : G σ σ := ⟨[], by simp⟩
theorem G.trans {a b c : Sto} (x : G a b) (y : G b c) : G a c := by
  obtain ⟨t, rfl⟩ := x
  obtain ⟨u, rfl⟩ := y
  exact ⟨t ++ u, by simp⟩
theorem G.get {a b : Sto} (x : G a b) {m : Nat} {o : PO} (h : a[m]? = some o) : b[m]? = some o := by
  apply exE x; intro t; clear x
  rw [List.getElem?_append_left (List.getElem?_eq_some_iff.mp h).1]; exact h
theorem G.mk {σ : Sto} (o : PO) : G σ (σ ++ [o]) := ⟨[o], rfl⟩
theorem G.len {a b : Sto} (x : G a b) : a.length ≤ b.length := by
  apply exE x; intro t; clear x
  rw [List.length_append]; exact Nat.le_add_right ..
theorem get_new {σ : Sto} {o : PO} : (σ ++ [o])[σ.length]? = some o := by simp
noncomputable def EvS (n : Nat) (c : Cx) (ρ : Rho) (σ₀ : Sto) (e : Expr) (p : PV) : Prop := ∀ σ, G σ₀ σ → ∃ σ', (recN T3 n).ev c ρ σ e = some (p, σ') ∧ G σ σ'
noncomputable def EvL (n : Nat) (c : Cx) (ρ : Rho) (σ₀ : Sto) (e : Expr) (vs : List PV) : Prop := ∀ σ, G σ₀ σ → ∃ σ' m, (recN T3 n).ev c ρ σ e = some (.ref m, σ') ∧ G σ σ' ∧ σ'[m]? = some (.list vs)
noncomputable def TrS (n : Nat) (c : Cx) (ρ : Rho) (σ₀ : Sto) (e : Expr) (b : Bool) : Prop := ∀ σ, G σ₀ σ → ∃ σ', (recN T3 n).tr c ρ σ e = some (b, σ') ∧ G σ σ'
noncomputable def EsS (n : Nat) (c : Cx) (ρ : Rho) (σ₀ : Sto) (e : Expr) (p : PV) : Prop := ∀ σ, G σ₀ σ → ∃ σ', (recN T3 n).es c ρ σ e = some (p, σ') ∧ G σ σ'
noncomputable def EsLs (n : Nat) (c : Cx) (ρ : Rho) (σ₀ : Sto) (e : Expr) (vs : List PV) : Prop := ∀ σ, G σ₀ σ → ∃ σ' m, (recN T3 n).es c ρ σ e = some (.ref m, σ') ∧ G σ σ' ∧ σ'[m]? = some (.list vs)
section
variable {n : Nat} {c : Cx} {ρ : Rho} {σ₀ : Sto} {e : Expr} {a b p : PV} {xs ys vs : List PV} {x : Str}
theorem listAt_of {σ : Sto} {m : Nat} (h : σ[m]? = some (.list vs)) : listAt σ (.ref m) = some vs := listAt_get h
theorem binop_addL {m k : Nat} {σ : Sto} : binop .Add (.ref m) (.ref k) σ = (listAt σ (.ref m)).bind fun xs => (listAt σ (.ref k)).bind fun ys => if xs.length + ys.length ≤ lim then some (mk σ (.list (xs ++ ys))) else none := rfl
theorem binop_mulL {m : Nat} {k : Int} {σ : Sto} : binop .Mult (.ref m) (.int k) σ = (listAt σ (.ref m)).bind fun vs => (one1 vs).bind fun v => if 0 < k ∧ k ≤ 1000 then some (mk σ (.list (List.replicate k.toNat v))) else none := rfl
theorem cmpop_in {d : Bool} {k : Nat} {σ : Sto} : cmpop .In (.bool d) (.ref k) σ = (listAt σ (.ref k)).bind fun vs => (pvBools vs).map (·.contains d) := rfl
theorem s_nm (h : view e = .name x) (hx : ρ.lookup x = some p) : EvS (n + 1) c ρ σ₀ e p := fun σ _ => ⟨σ, (ev_of h).trans (congrArg (Option.map fun v => (v, σ)) hx), .rfl'⟩
theorem l_nm {m : Nat} (h : view e = .name x) (hx : ρ.lookup x = some (.ref m)) (hm : σ₀[m]? = some (.list vs)) : EvL (n + 1) c ρ σ₀ e vs := fun σ g => ⟨σ, m, (ev_of h).trans (congrArg (Option.map fun v => (v, σ)) hx), .rfl', g.get hm⟩
theorem s_k (h : view e = .const p) : EvS (n + 1) c ρ σ₀ e p := fun σ _ => ⟨σ, ev_of h, .rfl'⟩
theorem s_bin {op : Operator} (h : view e = .bin op (kd e 0) (kd e 1)) (hl : EvS n c ρ σ₀ (kd e 0) a) (hr : EvS n c ρ σ₀ (kd e 1) b) (hb : ∀ σ, binop op a b σ = some (p, σ)) : EvS (n + 1) c ρ σ₀ e p := fun σ g => by
  refine elEA (hl σ g) fun σ₁ e₁ g₁ => ?_
  refine elEA (hr σ₁ (g.trans g₁)) fun σ₂ e₂ g₂ => ?_
  exact ⟨σ₂, (ev_of h).trans ((bnd_of e₁).trans ((bnd_of e₂).trans (hb σ₂))), g₁.trans g₂⟩
theorem l_add (h : view e = .bin .Add (kd e 0) (kd e 1)) (hl : EvL n c ρ σ₀ (kd e 0) xs) (hr : EvL n c ρ σ₀ (kd e 1) ys) (hn : xs.length + ys.length ≤ lim) : EvL (n + 1) c ρ σ₀ e (xs ++ ys) := fun σ g => by
  refine elEEAA (hl σ g) fun σ₁ m e₁ g₁ m₁ => ?_
  refine elEEAA (hr σ₁ (g.trans g₁)) fun σ₂ k e₂ g₂ m₂ => ?_
  exact ⟨σ₂ ++ [.list (xs ++ ys)], σ₂.length, (ev_of h).trans ((bnd_of e₁).trans ((bnd_of e₂).trans (binop_addL.trans ((bind_of (listAt_get (g₂.get m₁))).trans ((bind_of (listAt_get m₂)).trans (if_pos hn)))))), (g₁.trans g₂).trans (.mk _), get_new⟩
theorem l_rep {i : Int} {q : PV} (h : view e = .bin .Mult (kd e 0) (kd e 1)) (hl : EvL n c ρ σ₀ (kd e 0) [q]) (hr : EvS n c ρ σ₀ (kd e 1) (.int i)) (hi : 0 < i ∧ i ≤ 1000) : EvL (n + 1) c ρ σ₀ e (List.replicate i.toNat q) := fun σ g => by
  refine elEEAA (hl σ g) fun σ₁ m e₁ g₁ m₁ => ?_
  refine elEA (hr σ₁ (g.trans g₁)) fun σ₂ e₂ g₂ => ?_
  exact ⟨σ₂ ++ [.list (List.replicate i.toNat q)], σ₂.length, (ev_of h).trans ((bnd_of e₁).trans ((bnd_of e₂).trans (binop_mulL.trans ((bind_of (listAt_get (g₂.get m₁))).trans ((bind_of (show one1 [q] = some q from rfl)).trans (if_pos hi)))))), (g₁.trans g₂).trans (.mk _), get_new⟩
inductive AllS (n : Nat) (c : Cx) (ρ : Rho) (σ₀ : Sto) : List Expr → List PV → Prop
  | nil : AllS n c ρ σ₀ [] []
  | cons {e : Expr} {p : PV} {es : List Expr} {ps : List PV} : isStar e = false → EvS n c ρ σ₀ e p → AllS n c ρ σ₀ es ps → AllS n c ρ σ₀ (e :: es) (p :: ps)
theorem AllS.evs {es : List Expr} {ps : List PV} (h : AllS n c ρ σ₀ es ps) : ∀ σ, G σ₀ σ → ∃ σ', evs (recN T3 n) c ρ σ es = some (ps, σ') ∧ G σ σ' := by
  induction h with
  | nil => exact fun σ g => ⟨σ, rfl, .rfl'⟩
  | cons hs he hr ih =>
    intro σ g
    refine elEA (he σ g) fun σ₁ e₁ g₁ => ?_
    refine elEA (ih σ₁ (g.trans g₁)) fun σ₂ e₂ g₂ => ?_
    exact ⟨σ₂, evs_cons hs e₁ e₂, g₁.trans g₂⟩
theorem l_list {es : List Expr} (h : view e = .list es) (ha : AllS n c ρ σ₀ es vs) (hn : vs.length ≤ 1000) : EvL (n + 1) c ρ σ₀ e vs := fun σ g => by
  refine elEA (ha.evs σ g) fun σ₁ e₁ g₁ => ?_
  exact ⟨σ₁ ++ [.list vs], σ₁.length, (ev_of h).trans ((bnd_of e₁).trans (if_pos hn)), g₁.trans (.mk _), get_new⟩
theorem s_call {f : Str} {args : List Expr} {ps : List PV} (h : view e = .call f args) (hk : c.sc.names.lookup f = some NameKind.globalImplicit) (ha : AllS n c ρ σ₀ args ps) (hc : ∀ σ, (match T3.fn f with | some g => g ps σ | none => bcall f ps σ) = some (p, σ)) : EvS (n + 1) c ρ σ₀ e p := fun σ g => by
  refine elEA (ha.evs σ g) fun σ₁ e₁ g₁ => ?_
  exact ⟨σ₁, (ev_of h).trans ((if_pos hk).trans ((bnd_of e₁).trans (hc σ₁))), g₁⟩
theorem ev_callF {f : Str} {args : List Expr} {g : Nat1} {ps : List PV} {σ σ₁ : Sto} (h : view e = .call f args) (hk : c.sc.names.lookup f = some NameKind.globalImplicit) (hg : T3.fn f = some g) (ha : evs (recN T3 n) c ρ σ args = some (ps, σ₁)) : (recN T3 (n + 1)).ev c ρ σ e = g ps σ₁ := by
  refine (ev_of h).trans ((if_pos hk).trans ((bnd_of ha).trans ?_))
  rw [hg]
theorem s_callL {f : Str} (h : view e = .call f [kd e 0]) (hk : c.sc.names.lookup f = some NameKind.globalImplicit) (hs : isStar (kd e 0) = false) (ha : EvL n c ρ σ₀ (kd e 0) vs) (hf : T3.fn f = none) (hc : ∀ σ m, σ[m]? = some (.list vs) → bcall f [.ref m] σ = some (p, σ)) : EvS (n + 1) c ρ σ₀ e p := fun σ g => by
  refine elEEAA (ha σ g) fun σ₁ m e₁ g₁ h₁ => ?_
  refine ⟨σ₁, (ev_of h).trans ((if_pos hk).trans ((bnd_of (evs_cons hs e₁ evs_nil)).trans ?_)), g₁⟩
  refine hf.symm ▸ ?_
  exact hc σ₁ m h₁
theorem opt_some {j : Int} {x : Expr} {σ σ' : Sto} (h : (recN T3 n).ev c ρ σ x = some (.int j, σ')) : optInt (recN T3 n) c ρ σ (some x) = some (some j, σ') := bnd_of h
theorem slc_list {m : Nat} {lo hi : Option Int} {σ : Sto} (hok : (lo.all (0 ≤ ·) && hi.all (0 ≤ ·)) = true) (hm : σ[m]? = some (.list vs)) (hn : vs.length ≤ lim) : slc (.ref m) lo hi false σ = some (.ref σ.length, σ ++ [.list (cut lo hi vs)]) :=
  (if_pos (by rw [hok]; rfl)).trans ((bind_of (listAt_get hm)).trans (if_pos hn))
theorem slc_byts {y : List UInt8} {lo hi : Option Int} {σ : Sto} (hok : (lo.all (0 ≤ ·) && hi.all (0 ≤ ·)) = true) (hn : y.length ≤ lim) : slc (.bytes y) lo hi false σ = some (.bytes (cut lo hi y), σ) :=
  (if_pos (by rw [hok]; rfl)).trans (if_pos hn)
theorem l_slice {e v : Expr} {lo hi : Option Expr} {i j : Option Int} (h : view e = .slice v lo hi) (hv : EvL n c ρ σ₀ v vs) (h1 : ∀ σ, G σ₀ σ → ∃ σ', optInt (recN T3 n) c ρ σ lo = some (i, σ') ∧ G σ σ') (h2 : ∀ σ, G σ₀ σ → ∃ σ', optInt (recN T3 n) c ρ σ hi = some (j, σ') ∧ G σ σ')
    (hok : (i.all (0 ≤ ·) && j.all (0 ≤ ·)) = true) (hn : vs.length ≤ lim) : EvL (n + 1) c ρ σ₀ e (cut i j vs) := fun σ g => by
  refine elEEAA (hv σ g) fun σ₁ m e₁ g₁ m₁ => ?_
  refine elEA (h1 σ₁ (g.trans g₁)) fun σ₂ e₂ g₂ => ?_
  refine elEA (h2 σ₂ ((g.trans g₁).trans g₂)) fun σ₃ e₃ g₃ => ?_
  exact ⟨_, σ₃.length, (ev_of h).trans ((bnd_of e₁).trans ((bnd_of e₂).trans ((bnd_of e₃).trans (slc_list hok (g₃.get (g₂.get m₁)) hn)))), ((g₁.trans g₂).trans g₃).trans (.mk _), get_new⟩
theorem s_slice {y : List UInt8} {e v : Expr} {lo hi : Option Expr} {i j : Option Int} (h : view e = .slice v lo hi) (hv : EvS n c ρ σ₀ v (.bytes y)) (h1 : ∀ σ, G σ₀ σ → ∃ σ', optInt (recN T3 n) c ρ σ lo = some (i, σ') ∧ G σ σ') (h2 : ∀ σ, G σ₀ σ → ∃ σ', optInt (recN T3 n) c ρ σ hi = some (j, σ') ∧ G σ σ')
    (hok : (i.all (0 ≤ ·) && j.all (0 ≤ ·)) = true) (hn : y.length ≤ lim) : EvS (n + 1) c ρ σ₀ e (.bytes (cut i j y)) := fun σ g => by
  refine elEA (hv σ g) fun σ₁ e₁ g₁ => ?_
  refine elEA (h1 σ₁ (g.trans g₁)) fun σ₂ e₂ g₂ => ?_
  refine elEA (h2 σ₂ ((g.trans g₁).trans g₂)) fun σ₃ e₃ g₃ => ?_
  exact ⟨σ₃, (ev_of h).trans ((bnd_of e₁).trans ((bnd_of e₂).trans ((bnd_of e₃).trans (slc_byts hok hn)))), (g₁.trans g₂).trans g₃⟩
theorem o_none : ∀ σ, G σ₀ σ → ∃ σ', optInt (recN T3 n) c ρ σ none = some (none, σ') ∧ G σ σ' := fun σ _ => ⟨σ, rfl, .rfl'⟩
theorem o_some {j : Int} {x : Expr} (h : EvS n c ρ σ₀ x (.int j)) : ∀ σ, G σ₀ σ → ∃ σ', optInt (recN T3 n) c ρ σ (some x) = some (some j, σ') ∧ G σ σ' := fun σ g => by
  refine elEA (h σ g) fun σ₁ e₁ g₁ => ?_
  exact ⟨σ₁, opt_some e₁, g₁⟩
theorem ok_hi {j : Int} (h0 : 0 ≤ j) : ((none : Option Int).all (0 ≤ ·) && (some j).all (0 ≤ ·)) = true := decide_eq_true h0
theorem ok_lo {j : Int} (h0 : 0 ≤ j) : ((some j).all (0 ≤ ·) && (none : Option Int).all (0 ≤ ·)) = true := (Bool.and_true _).trans (decide_eq_true h0)
theorem ok_lh {i j : Int} (h0 : 0 ≤ i) (h1 : 0 ≤ j) : ((some i).all (0 ≤ ·) && (some j).all (0 ≤ ·)) = true := Bool.and_eq_true_iff.mpr ⟨decide_eq_true h0, decide_eq_true h1⟩
theorem l_sl_hi {j : Int} {lo hi : Option Expr} (h : view e = .slice (kd e 0) lo hi) (hlo : lo = none) (hhi : hi = some (kd e 2)) (hv : EvL n c ρ σ₀ (kd e 0) vs) (hj : EvS n c ρ σ₀ (kd e 2) (.int j)) (h0 : 0 ≤ j) (hn : vs.length ≤ lim) : EvL (n + 1) c ρ σ₀ e (vs.take j.toNat) := by
  subst hlo hhi
  exact l_slice h hv o_none (o_some hj) (ok_hi h0) hn
theorem l_sl_lo {i : Int} {lo hi : Option Expr} (h : view e = .slice (kd e 0) lo hi) (hlo : lo = some (kd e 1)) (hhi : hi = none) (hv : EvL n c ρ σ₀ (kd e 0) vs) (hj : EvS n c ρ σ₀ (kd e 1) (.int i)) (h0 : 0 ≤ i) (hn : vs.length ≤ lim) : EvL (n + 1) c ρ σ₀ e (vs.drop i.toNat) := by
  subst hlo hhi
  exact l_slice h hv (o_some hj) o_none (ok_lo h0) hn
theorem l_sl {i j : Int} {lo hi : Option Expr} (h : view e = .slice (kd e 0) lo hi) (hlo : lo = some (kd e 1)) (hhi : hi = some (kd e 2)) (hv : EvL n c ρ σ₀ (kd e 0) vs) (hi' : EvS n c ρ σ₀ (kd e 1) (.int i)) (hj : EvS n c ρ σ₀ (kd e 2) (.int j)) (h0 : 0 ≤ i) (h1 : 0 ≤ j) (hn : vs.length ≤ lim) : EvL (n + 1) c ρ σ₀ e ((vs.take j.toNat).drop i.toNat) := by
  subst hlo hhi
  exact l_slice h hv (o_some hi') (o_some hj) (ok_lh h0 h1) hn
theorem s_sl_hi {y : List UInt8} {j : Int} {lo hi : Option Expr} (h : view e = .slice (kd e 0) lo hi) (hlo : lo = none) (hhi : hi = some (kd e 2)) (hv : EvS n c ρ σ₀ (kd e 0) (.bytes y)) (hj : EvS n c ρ σ₀ (kd e 2) (.int j)) (h0 : 0 ≤ j) (hn : y.length ≤ lim) : EvS (n + 1) c ρ σ₀ e (.bytes (y.take j.toNat)) := by
  subst hlo hhi
  exact s_slice h hv o_none (o_some hj) (ok_hi h0) hn
theorem s_sl_lo {y : List UInt8} {i : Int} {lo hi : Option Expr} (h : view e = .slice (kd e 0) lo hi) (hlo : lo = some (kd e 1)) (hhi : hi = none) (hv : EvS n c ρ σ₀ (kd e 0) (.bytes y)) (hj : EvS n c ρ σ₀ (kd e 1) (.int i)) (h0 : 0 ≤ i) (hn : y.length ≤ lim) : EvS (n + 1) c ρ σ₀ e (.bytes (y.drop i.toNat)) := by
  subst hlo hhi
  exact s_slice h hv (o_some hj) o_none (ok_lo h0) hn
theorem s_sl {y : List UInt8} {i j : Int} {lo hi : Option Expr} (h : view e = .slice (kd e 0) lo hi) (hlo : lo = some (kd e 1)) (hhi : hi = some (kd e 2)) (hv : EvS n c ρ σ₀ (kd e 0) (.bytes y)) (hi' : EvS n c ρ σ₀ (kd e 1) (.int i)) (hj : EvS n c ρ σ₀ (kd e 2) (.int j)) (h0 : 0 ≤ i) (h1 : 0 ≤ j) (hn : y.length ≤ lim) : EvS (n + 1) c ρ σ₀ e (.bytes ((y.take j.toNat).drop i.toNat)) := by
  subst hlo hhi
  exact s_slice h hv (o_some hi') (o_some hj) (ok_lh h0 h1) hn
theorem l_rev (h : view e = .rev (kd e 0)) (hv : EvL n c ρ σ₀ (kd e 0) vs) (hn : vs.length ≤ lim) : EvL (n + 1) c ρ σ₀ e vs.reverse := fun σ g => by
  refine elEEAA (hv σ g) fun σ₁ m e₁ g₁ m₁ => ?_
  exact ⟨σ₁ ++ [.list vs.reverse], σ₁.length, (ev_of h).trans ((bnd_of e₁).trans ((if_pos rfl).trans ((bind_of (listAt_get m₁)).trans (if_pos hn)))), g₁.trans (.mk _), get_new⟩
theorem s_rev {y : List UInt8} (h : view e = .rev (kd e 0)) (hv : EvS n c ρ σ₀ (kd e 0) (.bytes y)) (hn : y.length ≤ lim) : EvS (n + 1) c ρ σ₀ e (.bytes y.reverse) := fun σ g => by
  refine elEA (hv σ g) fun σ₁ e₁ g₁ => ?_
  exact ⟨σ₁, (ev_of h).trans ((bnd_of e₁).trans ((if_pos rfl).trans (if_pos hn))), g₁⟩
theorem s_idx {k : Int} (h : view e = .idx (kd e 0) (kd e 1)) (hv : EvL n c ρ σ₀ (kd e 0) vs) (hi : EvS n c ρ σ₀ (kd e 1) (.int k)) (h0 : 0 ≤ k) (hn : vs.length ≤ lim) (hp : vs[k.toNat]? = some p) : EvS (n + 1) c ρ σ₀ e p := fun σ g => by
  refine elEEAA (hv σ g) fun σ₁ m e₁ g₁ m₁ => ?_
  refine elEA (hi σ₁ (g.trans g₁)) fun σ₂ e₂ g₂ => ?_
  have hq : itemAt (.ref m) k σ₂ = some p := (bind_of (listAt_get (g₂.get m₁))).trans ((if_pos hn).trans ((if_pos h0).trans hp))
  exact ⟨σ₂, (ev_of h).trans ((bnd_of e₁).trans ((bnd_of e₂).trans (congrArg (Option.map fun r => (r, σ₂)) hq))), g₁.trans g₂⟩
theorem s_idxN {j : Int} (h : view e = .idxN (kd e 0) j) (hv : EvL n c ρ σ₀ (kd e 0) vs) (hn : vs.length ≤ lim) (hj : 0 < j) (hj' : j ≤ vs.length) (hp : vs[(vs.length - j).toNat]? = some p) : EvS (n + 1) c ρ σ₀ e p := fun σ g => by
  refine elEEAA (hv σ g) fun σ₁ m e₁ g₁ m₁ => ?_
  have hq : itemAt (.ref m) (-j) σ₁ = some p := (bind_of (listAt_get m₁)).trans ((if_pos hn).trans ((if_neg (by omega)).trans ((if_pos (by omega)).trans hp)))
  exact ⟨σ₁, (ev_of h).trans ((bnd_of e₁).trans (congrArg (Option.map fun r => (r, σ₁)) hq)), g₁⟩
theorem s_cmp {op : CmpOp} {d : Bool} (h : view e = .cmp op (kd e 0) (kd e 1)) (hl : EvS n c ρ σ₀ (kd e 0) a) (hr : EvS n c ρ σ₀ (kd e 1) b) (hc : ∀ σ, cmpop op a b σ = some d) : EvS (n + 1) c ρ σ₀ e (.bool d) := fun σ g => by
  refine elEA (hl σ g) fun σ₁ e₁ g₁ => ?_
  refine elEA (hr σ₁ (g.trans g₁)) fun σ₂ e₂ g₂ => ?_
  exact ⟨σ₂, (ev_of h).trans ((bnd_of e₁).trans ((bnd_of e₂).trans (congrArg (Option.map fun t => (PV.bool t, σ₂)) (hc σ₂)))), g₁.trans g₂⟩
theorem t_cmp {op : CmpOp} {d : Bool} (h : view e = .cmp op (kd e 0) (kd e 1)) (hl : EvS n c ρ σ₀ (kd e 0) a) (hr : EvS n c ρ σ₀ (kd e 1) b) (hc : ∀ σ, cmpop op a b σ = some d) : TrS (n + 1) c ρ σ₀ e d := fun σ g => by
  refine elEA (hl σ g) fun σ₁ e₁ g₁ => ?_
  refine elEA (hr σ₁ (g.trans g₁)) fun σ₂ e₂ g₂ => ?_
  exact ⟨σ₂, (tr_of h).trans ((bnd_of e₁).trans ((bnd_of e₂).trans (congrArg (Option.map fun t => (t, σ₂)) (hc σ₂)))), g₁.trans g₂⟩
theorem s_cmpL {op : CmpOp} {d : Bool} (h : view e = .cmp op (kd e 0) (kd e 1)) (hl : EvL n c ρ σ₀ (kd e 0) xs) (hr : EvL n c ρ σ₀ (kd e 1) ys) (hc : ∀ σ m k, σ[m]? = some (.list xs) → σ[k]? = some (.list ys) → cmpop op (.ref m) (.ref k) σ = some d) : EvS (n + 1) c ρ σ₀ e (.bool d) := fun σ g => by
  refine elEEAA (hl σ g) fun σ₁ m e₁ g₁ m₁ => ?_
  refine elEEAA (hr σ₁ (g.trans g₁)) fun σ₂ k e₂ g₂ m₂ => ?_
  exact ⟨σ₂, (ev_of h).trans ((bnd_of e₁).trans ((bnd_of e₂).trans (congrArg (Option.map fun t => (PV.bool t, σ₂)) (hc σ₂ m k (g₂.get m₁) m₂)))), g₁.trans g₂⟩
theorem t_cmpL {op : CmpOp} {d : Bool} (h : view e = .cmp op (kd e 0) (kd e 1)) (hl : EvL n c ρ σ₀ (kd e 0) xs) (hr : EvL n c ρ σ₀ (kd e 1) ys) (hc : ∀ σ m k, σ[m]? = some (.list xs) → σ[k]? = some (.list ys) → cmpop op (.ref m) (.ref k) σ = some d) : TrS (n + 1) c ρ σ₀ e d := fun σ g => by
  refine elEEAA (hl σ g) fun σ₁ m e₁ g₁ m₁ => ?_
  refine elEEAA (hr σ₁ (g.trans g₁)) fun σ₂ k e₂ g₂ m₂ => ?_
  exact ⟨σ₂, (tr_of h).trans ((bnd_of e₁).trans ((bnd_of e₂).trans (congrArg (Option.map fun t => (t, σ₂)) (hc σ₂ m k (g₂.get m₁) m₂)))), g₁.trans g₂⟩
theorem s_in {d : Bool} (h : view e = .cmp .In (kd e 0) (kd e 1)) (hl : EvS n c ρ σ₀ (kd e 0) (.bool d)) {bs : List Bool} (hr : EvL n c ρ σ₀ (kd e 1) (bs.map .bool)) : EvS (n + 1) c ρ σ₀ e (.bool (bs.contains d)) := fun σ g => by
  refine elEA (hl σ g) fun σ₁ e₁ g₁ => ?_
  refine elEEAA (hr σ₁ (g.trans g₁)) fun σ₂ k e₂ g₂ m₂ => ?_
  have hq : cmpop .In (.bool d) (.ref k) σ₂ = some (bs.contains d) := cmpop_in.trans ((bind_of (listAt_get m₂)).trans (congrArg (Option.map fun l : List Bool => l.contains d) (show pvBools (bs.map .bool) = some bs from optL_of (g := PV.bool) (fun _ => rfl) bs)))
  exact ⟨σ₂, (ev_of h).trans ((bnd_of e₁).trans ((bnd_of e₂).trans (congrArg (Option.map fun t => (PV.bool t, σ₂)) hq))), g₁.trans g₂⟩
theorem and_next {b : Bool} {e' : Expr} {r : List Expr} {σ σ₁ : Sto} (h : (recN T3 n).ev c ρ σ e = some (.bool b, σ₁)) : evBool (recN T3 n) c ρ .And σ (e :: e' :: r) = if b then evBool (recN T3 n) c ρ .And σ₁ (e' :: r) else some (.bool false, σ₁) := by
  refine (bnd_of h).trans ?_
  cases b <;> rfl
theorem s_and3 {u v w : Bool} (h : view e = .bool .And [kd e 0, kd e 1, kd e 2]) (h1 : EvS n c ρ σ₀ (kd e 0) (.bool u)) (h2 : EvS n c ρ σ₀ (kd e 1) (.bool v)) (h3 : EvS n c ρ σ₀ (kd e 2) (.bool w)) : EvS (n + 1) c ρ σ₀ e (.bool (u && (v && w))) := fun σ g => by
  refine elEA (h1 σ g) fun σ₁ e₁ g₁ => ?_
  refine elEA (h2 σ₁ (g.trans g₁)) fun σ₂ e₂ g₂ => ?_
  refine elEA (h3 σ₂ ((g.trans g₁).trans g₂)) fun σ₃ e₃ g₃ => ?_
  cases u with
  | false => exact ⟨σ₁, (ev_of h).trans (and_next e₁), g₁⟩
  | true => cases v with
    | false => exact ⟨σ₂, (ev_of h).trans ((and_next e₁).trans (and_next e₂)), g₁.trans g₂⟩
    | true => exact ⟨σ₃, (ev_of h).trans ((and_next e₁).trans ((and_next e₂).trans e₃)), (g₁.trans g₂).trans g₃⟩
theorem t_not {u : Bool} (h : view e = .not (kd e 0)) (h1 : TrS n c ρ σ₀ (kd e 0) u) : TrS (n + 1) c ρ σ₀ e (!u) := fun σ g => by
  refine elEA (h1 σ g) fun σ₁ e₁ g₁ => ?_
  exact ⟨σ₁, (tr_of h).trans (congrArg (Option.map fun p : Bool × Sto => (!p.1, p.2)) e₁), g₁⟩
theorem s_ite {u : Bool} (h : view e = .ite (kd e 0) (kd e 1) (kd e 2)) (h1 : TrS n c ρ σ₀ (kd e 0) u) (h2 : u = true → EvS n c ρ σ₀ (kd e 1) p) (h3 : u = false → EvS n c ρ σ₀ (kd e 2) p) : EvS (n + 1) c ρ σ₀ e p := fun σ g => by
  refine elEA (h1 σ g) fun σ₁ e₁ g₁ => ?_
  cases u with
  | true =>
    refine elEA (h2 rfl σ₁ (g.trans g₁)) fun σ₂ e₂ g₂ => ?_
    exact ⟨σ₂, (ev_of h).trans ((bnd_of e₁).trans e₂), g₁.trans g₂⟩
  | false =>
    refine elEA (h3 rfl σ₁ (g.trans g₁)) fun σ₂ e₂ g₂ => ?_
    exact ⟨σ₂, (ev_of h).trans ((bnd_of e₁).trans e₂), g₁.trans g₂⟩
noncomputable def plainT (e : Expr) : Bool := (view e).plain
theorem t_ev {u : Bool} (h : plainT e = true) (h1 : EvS n c ρ σ₀ e p) (hu : truth p = some u) : TrS (n + 1) c ρ σ₀ e u := fun σ g => by
  refine elEA (h1 σ g) fun σ₁ e₁ g₁ => ?_
  exact ⟨σ₁, tr_plain h e₁ hu, g₁⟩
theorem mid_at {nm : Str} {m : Nat} {σ : Sto} {vs : List PV} {r : String × String} (hm : σ[m]? = some (.list vs)) (hr : (if nm = "append" then some ("list", "list.append") else if nm = "count" then some ("list", "list.count") else if nm = "index" then some ("list", "list.index") else none) = some r) : mid nm (.ref m) σ = some r := (bind_of (listAt_get hm)).trans hr
theorem s_decode {y : List UInt8} (h : view e = .meth (Str.ofString "decode") (kd e 0) [kd e 1]) (hs : isStar (kd e 1) = false) (ho : EvS n c ρ σ₀ (kd e 0) (.bytes y)) (ha : EvS n c ρ σ₀ (kd e 1) (.str [97, 115, 99, 105, 105])) (hy : asciiOk y = true) (hn : y.length ≤ lim) : EvS (n + 1) c ρ σ₀ e (.str (y.map UInt8.toNat)) := fun σ g => by
  refine elEA (ho σ g) fun σ₁ e₁ g₁ => ?_
  refine elEA (ha σ₁ (g.trans g₁)) fun σ₂ e₂ g₂ => ?_
  have hm : mid (Str.ofString "decode") (.bytes y) σ₁ = some ("bytes", "bytes.decode") := by kernel_rfl
  have hq : mByts (Str.ofString "decode") y (.str [97, 115, 99, 105, 105]) σ₂ = some (.str (y.map UInt8.toNat), σ₂) := by
    unfold mByts
    rw [if_pos rfl]
    exact if_pos ⟨hy, hn, rfl⟩
  exact ⟨σ₂, (ev_of h).trans ((bnd_of e₁).trans ((bind_of hm).trans ((bnd_of (evs_cons hs e₂ evs_nil)).trans hq))), g₁.trans g₂⟩
theorem s_join {ss : List (List UInt8)} (h : view e = .meth (Str.ofString "join") (kd e 0) [kd e 1]) (hs : isStar (kd e 1) = false) (ho : EvS n c ρ σ₀ (kd e 0) (.bytes [])) (ha : EvL n c ρ σ₀ (kd e 1) (ss.map .bytes)) (h1 : (joinB [] ss).length ≤ lim) (h2 : 2 ≤ ss.length) : EvS (n + 1) c ρ σ₀ e (.bytes (joinB [] ss)) := fun σ g => by
  refine elEA (ho σ g) fun σ₁ e₁ g₁ => ?_
  refine elEEAA (ha σ₁ (g.trans g₁)) fun σ₂ k e₂ g₂ m₂ => ?_
  have hm : mid (Str.ofString "join") (.bytes []) σ₁ = some ("bytes", "bytes.join") := by kernel_rfl
  have hq : mByts (Str.ofString "join") [] (.ref k) σ₂ = some (.bytes (joinB [] ss), σ₂) := by
    unfold mByts
    rw [if_neg (by decide), if_pos rfl, if_pos rfl]
    exact (bind_of (listAt_get m₂)).trans ((bind_of (byts_of ss)).trans (if_pos ⟨h1, h2⟩))
  exact ⟨σ₂, (ev_of h).trans ((bnd_of e₁).trans ((bind_of hm).trans ((bnd_of (evs_cons hs e₂ evs_nil)).trans hq))), g₁.trans g₂⟩
theorem s_index {is : List Int} {i : Int} (h : view e = .meth (Str.ofString "index") (kd e 0) [kd e 1]) (hs : isStar (kd e 1) = false) (ho : EvL n c ρ σ₀ (kd e 0) (is.map .int)) (ha : EvS n c ρ σ₀ (kd e 1) (.int i)) (h1 : is.length ≤ lim) (h2 : i ∈ is) : EvS (n + 1) c ρ σ₀ e (.int (is.idxOf i)) := fun σ g => by
  refine elEEAA (ho σ g) fun σ₁ m e₁ g₁ m₁ => ?_
  refine elEA (ha σ₁ (g.trans g₁)) fun σ₂ e₂ g₂ => ?_
  have hq : mList (Str.ofString "index") m (.int i) σ₂ = some (.int (is.idxOf i), σ₂) := by
    unfold mList
    rw [if_neg (by decide), if_neg (by decide), if_pos rfl]
    exact (bind_of ((bind_of (listAt_get (g₂.get m₁))).trans (ints_of is))).trans (if_pos ⟨h1, h2⟩)
  exact ⟨σ₂, (ev_of h).trans ((bnd_of e₁).trans ((bind_of (mid_at (r := ("list", "list.index")) m₁ (by kernel_rfl))).trans ((bnd_of (evs_cons hs e₂ evs_nil)).trans hq))), g₁.trans g₂⟩
theorem s_count {is : List Int} {i : Int} (h : view e = .meth (Str.ofString "count") (kd e 0) [kd e 1]) (hs : isStar (kd e 1) = false) (ho : EvL n c ρ σ₀ (kd e 0) (is.map .int)) (ha : EvS n c ρ σ₀ (kd e 1) (.int i)) (h1 : is.length ≤ lim) : EvS (n + 1) c ρ σ₀ e (.int (is.count i)) := fun σ g => by
  refine elEEAA (ho σ g) fun σ₁ m e₁ g₁ m₁ => ?_
  refine elEA (ha σ₁ (g.trans g₁)) fun σ₂ e₂ g₂ => ?_
  have hq : mList (Str.ofString "count") m (.int i) σ₂ = some (.int (is.count i), σ₂) := by
    unfold mList
    rw [if_neg (by decide), if_pos rfl]
    exact (bind_of ((bind_of (listAt_get (g₂.get m₁))).trans (ints_of is))).trans (if_pos h1)
  exact ⟨σ₂, (ev_of h).trans ((bnd_of e₁).trans ((bind_of (mid_at (r := ("list", "list.count")) m₁ (by kernel_rfl))).trans ((bnd_of (evs_cons hs e₂ evs_nil)).trans hq))), g₁.trans g₂⟩
end
end Mine.Internal
end
section
set_option maxRecDepth 100000
set_option backward.match.sparseCases false
namespace Mine.Internal
open PySem PyProof.Rows
section
variable {n : Nat} {c : Cx} {ρ : Rho} {σ₀ : Sto} {e : Expr} {a b p : PV} {xs ys vs : List PV} {x : Str} {s : Stmt}
noncomputable def V.sp : V → Bool
  | .call f _ => (T3.sp f).isNone
  | .bin .. => false
  | _ => true
noncomputable def spPlain (e : Expr) : Bool := (view e).sp
theorem es_ev {σ : Sto} (h : spPlain e = true) : (recN T3 (n + 1)).es c ρ σ e = (recN T3 n).ev c ρ σ e := by
  have k : ∀ v : V, v.sp = true → esV T3 (recN T3 n) c ρ σ e v = (recN T3 n).ev c ρ σ e := fun v h => by
    cases v with
    | call f args =>
      refine (?_ : (match T3.sp f with | some g => _ | none => _) = _)
      rw [Option.isNone_iff_eq_none.mp h]
    | bin => cases h
    | _ => rfl
  exact k _ h
theorem x_ev (h : spPlain e = true) (he : EvS n c ρ σ₀ e p) : EsS (n + 1) c ρ σ₀ e p := fun σ g => by
  refine elEA (he σ g) fun σ₁ e₁ g₁ => ?_
  exact ⟨σ₁, (es_ev h).trans e₁, g₁⟩
theorem x_evL (h : spPlain e = true) (he : EvL n c ρ σ₀ e vs) : EsLs (n + 1) c ρ σ₀ e vs := fun σ g => by
  refine elEEAA (he σ g) fun σ₁ m e₁ g₁ h₁ => ?_
  exact ⟨σ₁, m, (es_ev h).trans e₁, g₁, h₁⟩
theorem x_bin {op : Operator} (h : view e = .bin op (kd e 0) (kd e 1)) (hl : EsS n c ρ σ₀ (kd e 0) a) (hr : EsS n c ρ σ₀ (kd e 1) b) (hb : ∀ σ, binop op a b σ = some (p, σ)) : EsS (n + 1) c ρ σ₀ e p := fun σ g => by
  refine elEA (hl σ g) fun σ₁ e₁ g₁ => ?_
  refine elEA (hr σ₁ (g.trans g₁)) fun σ₂ e₂ g₂ => ?_
  exact ⟨σ₂, (es_of h).trans ((bnd_of e₁).trans ((bnd_of e₂).trans (hb σ₂))), g₁.trans g₂⟩
inductive AllX (n : Nat) (c : Cx) (ρ : Rho) (σ₀ : Sto) : List Expr → List PV → Prop
  | nil : AllX n c ρ σ₀ [] []
  | cons {e : Expr} {p : PV} {es : List Expr} {ps : List PV} : isStar e = false → EsS n c ρ σ₀ e p → AllX n c ρ σ₀ es ps → AllX n c ρ σ₀ (e :: es) (p :: ps)
theorem AllX.esL {es : List Expr} {ps : List PV} (h : AllX n c ρ σ₀ es ps) : ∀ σ, G σ₀ σ → ∃ σ', esL (recN T3 n) c ρ σ es = some (ps, σ') ∧ G σ σ' := by
  induction h with
  | nil => exact fun σ g => ⟨σ, rfl, .rfl'⟩
  | cons hs he hr ih =>
    intro σ g
    refine elEA (he σ g) fun σ₁ e₁ g₁ => ?_
    refine elEA (ih σ₁ (g.trans g₁)) fun σ₂ e₂ g₂ => ?_
    exact ⟨σ₂, esL_cons hs e₁ e₂, g₁.trans g₂⟩
theorem es_call {f : Str} {args : List Expr} {g : Nat1} {σ : Sto} (h : view e = .call f args) (hk : c.sc.names.lookup f = some NameKind.globalImplicit) (hg : T3.sp f = some g) : (recN T3 (n + 1)).es c ρ σ e = bnd (esL (recN T3 n) c ρ σ args) fun vs σ => g vs σ := by
  refine (es_of h).trans ?_
  refine (?_ : (match T3.sp f with | some g => _ | none => _) = _)
  refine hg.symm ▸ ?_
  exact if_pos hk
theorem x_call {f : Str} {args : List Expr} {ps : List PV} {g : Nat1} (h : view e = .call f args) (hk : c.sc.names.lookup f = some NameKind.globalImplicit) (hg : T3.sp f = some g) (ha : AllX n c ρ σ₀ args ps) (hc : ∀ σ, g ps σ = some (p, σ)) : EsS (n + 1) c ρ σ₀ e p := fun σ gg => by
  refine elEA (ha.esL σ gg) fun σ₁ e₁ g₁ => ?_
  exact ⟨σ₁, (es_call h hk hg).trans ((bnd_of e₁).trans (hc σ₁)), g₁⟩
theorem st_app {m : Nat} (h : (appP s).isSome = true) (ho : view (appO s) = .name x) (hx : ρ.lookup x = some (.ref m)) (he : EvS (n + 1) c ρ σ₀ (appA s) p) (hm : σ₀[m]? = some (.list vs)) (hn : vs.length ≤ lim) : ∀ σ, G σ₀ σ → ∃ σ', (recN T3 (n + 3)).ex c ρ σ s = some (.next, ρ, σ'.set m (.list (vs ++ [p]))) ∧ G σ σ' := fun σ g => by
  refine elEA (he σ g) fun σ₁ e₁ g₁ => ?_
  exact ⟨σ₁, ex_app (n := n + 1) h ((ev_of ho).trans (congrArg (Option.map fun v => (v, σ)) hx)) e₁ ⟨_, g.get hm⟩ ((g.trans g₁).get hm) hn, g₁⟩
theorem forS_inv {step : PV → Rho → Sto → Turn} {S : Src} {J : Nat → Rho → Sto → Prop} {q : Nat} {v : Nat → PV} (hn : ∀ i ρ σ, i < q → J i ρ σ → nx S i σ = some (some (v i))) (hend : ∀ ρ σ, J q ρ σ → nx S q σ = some none)
    (hturn : ∀ i ρ σ, i < q → J i ρ σ → ∃ ρ' σ', step (v i) ρ σ = some (.next, ρ', σ') ∧ J (i + 1) ρ' σ') : ∀ (m i K : Nat) (ρ : Rho) (σ : Sto), m + i = q → m < K → J i ρ σ → ∃ ρ' σ', forS step S K i ρ σ = some (.next, ρ', σ') ∧ J q ρ' σ'
  | 0, i, K, ρ, σ, hm, hK, hJ => by
    obtain ⟨K', rfl⟩ : ∃ K', K = K' + 1 := ⟨K - 1, by omega⟩
    have : i = q := by omega
    subst this
    exact ⟨ρ, σ, forS_end (hend ρ σ hJ), hJ⟩
  | m + 1, i, K, ρ, σ, hm, hK, hJ => by
    obtain ⟨K', rfl⟩ : ∃ K', K = K' + 1 := ⟨K - 1, by omega⟩
    refine elEEA (hturn i ρ σ (by omega) hJ) fun ρ₁ σ₁ h1 hJ₁ => ?_
    refine elEEA (forS_inv hn hend hturn m (i + 1) K' ρ₁ σ₁ (by omega) (by omega) hJ₁) fun ρ' σ' h2 hJ' => ?_
    exact ⟨ρ', σ', (forS_turn (hn i ρ σ (by omega) hJ) h1).trans h2, hJ'⟩
inductive DV where
  | sc (p : PV)
  | ls (vs : List PV)
noncomputable def Fact (ρ : Rho) (σ : Sto) (f : Str × DV) : Prop := match f.2 with
  | .sc p => ρ.lookup f.1 = some p
  | .ls vs => ∃ m, ρ.lookup f.1 = some (.ref m) ∧ σ[m]? = some (.list vs)
noncomputable def Has (ρ : Rho) (σ : Sto) (F : List (Str × DV)) : Prop := ∀ f ∈ F, Fact ρ σ f
theorem Has.grow {σ σ' : Sto} {F : List (Str × DV)} (h : Has ρ σ F) (g : G σ σ') : Has ρ σ' F := fun f hf => by
  have := h f hf
  obtain ⟨y, d⟩ := f
  cases d with
  | sc p => exact this
  | ls vs =>
    refine elEA this fun m h1 h2 => ?_
    try clear this
    exact ⟨m, h1, g.get h2⟩
theorem Has.upd {σ : Sto} {F : List (Str × DV)} {y : Str} {v : PV} (h : Has ρ σ F) (hy : (F.map (·.1)).contains y = false) : Has (upd ρ y v) σ F := fun f hf => by
  have hne : f.1 ≠ y := fun e => by
    have : (F.map (·.1)).contains y = true := List.contains_iff_mem.mpr (e ▸ List.mem_map_of_mem hf)
    rw [hy] at this; cases this
  have := h f hf
  obtain ⟨y, d⟩ := f
  cases d with
  | sc p => exact (lookup_upd ..).trans ((if_neg hne).trans this)
  | ls vs =>
    refine elEA this fun m h1 h2 => ?_
    try clear this
    exact ⟨m, (lookup_upd ..).trans ((if_neg hne).trans h1), h2⟩
theorem Has.add {σ : Sto} {F : List (Str × DV)} {f : Str × DV} (h : Has ρ σ F) (hf : Fact ρ σ f) : Has ρ σ (f :: F) := fun f' h' => by
  rcases List.mem_cons.mp h' with rfl | h'
  · exact hf
  · exact h f' h'
theorem Has.sub {σ : Sto} {F F' : List (Str × DV)} (h : Has ρ σ F) (hs : ∀ f ∈ F', f ∈ F) : Has ρ σ F' := fun f hf => h f (hs f hf)
theorem Has.setS {σ : Sto} {F : List (Str × DV)} {y : Str} {v : PV} (h : Has ρ σ F) (hy : (F.map (·.1)).contains y = false) : Has (Mine.Internal.upd ρ y v) σ ((y, .sc v) :: F) := (h.upd hy).add (show (Mine.Internal.upd ρ y v).lookup y = some v by rw [lookup_upd, if_pos rfl])
theorem Has.setL {σ : Sto} {F : List (Str × DV)} {y : Str} {m : Nat} (h : Has ρ σ F) (hy : (F.map (·.1)).contains y = false) (hm : σ[m]? = some (.list vs)) : Has (Mine.Internal.upd ρ y (.ref m)) σ ((y, .ls vs) :: F) := (h.upd hy).add (show ∃ k, (Mine.Internal.upd ρ y (.ref m)).lookup y = some (.ref k) ∧ σ[k]? = some (.list vs) from ⟨m, by rw [lookup_upd, if_pos rfl], hm⟩)
theorem mem_lookup {F : List (Str × DV)} {y : Str} {d : DV} (h : F.lookup y = some d) : (y, d) ∈ F := by
  induction F with
  | nil => cases h
  | cons q r ih =>
    obtain ⟨z, u⟩ := q
    rw [List.lookup_cons] at h
    by_cases e : y = z
    · subst e
      simp only [beq_self_eq_true] at h
      cases h; exact List.mem_cons_self ..
    · have hb : (y == z) = false := by simpa using e
      rw [hb] at h
      exact List.mem_cons_of_mem _ (ih h)
theorem Has.nmS {σ : Sto} {F : List (Str × DV)} (h : Has ρ σ F) (y : Str) (q : PV) (hl : F.lookup y = some (.sc q)) : ∀ {n : Nat} {e : Expr}, view e = .name y → EvS (n + 1) c ρ σ e q := fun hv => s_nm hv (h _ (mem_lookup hl))
theorem Has.nmL {σ : Sto} {F : List (Str × DV)} (h : Has ρ σ F) (y : Str) (us : List PV) (hl : F.lookup y = some (.ls us)) : ∀ {n : Nat} {e : Expr}, view e = .name y → EvL (n + 1) c ρ σ e us := fun hv => by
  refine elEA (h _ (mem_lookup hl)) fun m h1 h2 => ?_
  exact l_nm hv h1 h2
end
noncomputable abbrev lB : List Stmt := fB "law"
noncomputable abbrev lC : Cx := ⟨fS "law", true⟩
end Mine.Internal
end
section
set_option maxRecDepth 100000
set_option backward.match.sparseCases false
namespace Mine.Internal
open PySem PyProof.Rows
noncomputable abbrev PEnv := List (Str × DV)
structure Pec where
  ev : Cx → PEnv → Expr → Option DV
  tr : Cx → PEnv → Expr → Option Bool
  es : Cx → PEnv → Expr → Option PV
  ex : Cx → PEnv → Stmt → Option PEnv
noncomputable def sc1 (r : Option (PV × Sto)) : Option PV := r.bind fun x => if x.2.isEmpty then some x.1 else none
noncomputable def DV.asS : DV → Option PV
  | .sc p => some p
  | _ => none
noncomputable def DV.asL : DV → Option (List PV)
  | .ls vs => some vs
  | _ => none
noncomputable def pbin (op : Operator) (a b : DV) : Option DV := match a with
  | .sc a => b.asS.bind fun b => (sc1 (binop op a b [])).map .sc
  | .ls xs => b.asL.bind fun ys => if isAdd op = true ∧ xs.length + ys.length ≤ lim then some (.ls (xs ++ ys)) else none
noncomputable def isEqs : CmpOp → Bool
  | .Eq => true
  | .NotEq => true
  | _ => false
noncomputable def pcmp (op : CmpOp) (a b : DV) : Option Bool := match a with
  | .sc a => b.asS.bind fun b => cmpop op a b []
  | .ls xs => b.asL.bind fun ys => if isEqs op = true then cmpL op 0 0 xs ys else none
noncomputable def pmeth (nm : Str) (o a : DV) : Option DV :=
  if nm = Str.ofString "decode" then (o.asS.bind asByt).bind fun y => (a.asS.bind asStr).bind fun e => if asciiOk y = true ∧ y.length ≤ lim ∧ e = [97, 115, 99, 105, 105] then some (.sc (.str (y.map UInt8.toNat))) else none
  else if nm = Str.ofString "index" then (o.asL.bind pvInts).bind fun is => (a.asS.bind asInt).bind fun i => if is.length ≤ lim ∧ i ∈ is then some (.sc (.int (is.idxOf i))) else none
  else none
noncomputable def pcall (f : Str) : DV → Option DV
  | .sc p => (asStr p).bind fun x => if f = Str.ofString "_check_parenthesis" ∧ x.length ≤ 10000 then some (.sc (.bool (check x))) else none
  | .ls vs => if (T3.fn f).isNone then (bcall f [.ref 0] [.list vs]).map fun r => .sc r.1 else none
noncomputable def pslice (lo hi : Option Int) (d : DV) : Option DV :=
  if (lo.all (0 ≤ ·) && hi.all (0 ≤ ·)) = true then match d with
    | .ls vs => if vs.length ≤ lim then some (.ls (cut lo hi vs)) else none
    | .sc p => (asByt p).bind fun y => if y.length ≤ lim then some (.sc (.bytes (cut lo hi y))) else none
  else none
noncomputable def prev : DV → Option DV
  | .ls vs => if vs.length ≤ lim then some (.ls vs.reverse) else none
  | .sc p => (asByt p).bind fun y => if y.length ≤ lim then some (.sc (.bytes y.reverse)) else none
noncomputable def pidx (a b : DV) : Option DV := a.asL.bind fun vs => (b.asS.bind asInt).bind fun k => if 0 ≤ k ∧ vs.length ≤ lim then (vs[k.toNat]?).map .sc else none
noncomputable def pidxN (j : Int) (a : DV) : Option DV := a.asL.bind fun vs => if vs.length ≤ lim ∧ 0 < j ∧ j ≤ vs.length then (vs[(vs.length - j).toNat]?).map .sc else none
noncomputable def scO (o : Option DV) : Option PV := o.bind DV.asS
noncomputable def pevs (ev : Expr → Option DV) : List Expr → Option (List PV)
  | [] => some []
  | e :: r => if isStar e then none else (scO (ev e)).bind fun p => (pevs ev r).map (p :: ·)
noncomputable def pesL (es : Expr → Option PV) : List Expr → Option (List PV)
  | [] => some []
  | e :: r => if isStar e then none else (es e).bind fun p => (pesL es r).map (p :: ·)
noncomputable def pand (ev : Expr → Option DV) : List Expr → Option Bool
  | [] => none
  | [e] => (scO (ev e)).bind asBool
  | e :: e' :: r => ((scO (ev e)).bind asBool).bind fun b => if b then pand ev (e' :: r) else some false
noncomputable def ptb (tr : Expr → Option Bool) (op : BoolOp) : List Expr → Option Bool
  | [] => some (op == .And)
  | e :: r => (tr e).bind fun b => if stops op b then some b else ptb tr op r
noncomputable def popt (ev : Expr → Option DV) : Option Expr → Option (Option Int)
  | none => some none
  | some e => ((scO (ev e)).bind asInt).map some
noncomputable abbrev EvF := Expr → Option DV
noncomputable def vBin (ev : EvF) (op : Operator) (l r : Expr) : Option DV := (ev l).bind fun a => (ev r).bind fun b => pbin op a b
noncomputable def vCmp (ev : EvF) (op : CmpOp) (l r : Expr) : Option Bool := (ev l).bind fun a => (ev r).bind fun b => pcmp op a b
noncomputable def vMeth (ev : EvF) (nm : Str) (o : Expr) (args : List Expr) : Option DV := (one1 args).bind fun a => if isStar a = false then (ev o).bind fun u => (ev a).bind fun v => pmeth nm u v else none
noncomputable def vCall (ev : EvF) (c : Cx) (f : Str) (args : List Expr) : Option DV := (one1 args).bind fun a => if isGl c f = true ∧ isStar a = false then (ev a).bind (pcall f) else none
noncomputable def vIsi (ev : EvF) (c : Cx) (a : Expr) : Option DV := (scO (ev a)).bind fun v => if isByts v = true ∧ isGl c (Str.ofString "isinstance") = true ∧ isGl c (Str.ofString "bytes") = true then some (.sc (.bool true)) else none
noncomputable def vSlice (ev : EvF) (v : Expr) (lo hi : Option Expr) : Option DV := (ev v).bind fun d => (popt ev lo).bind fun lo => (popt ev hi).bind fun hi => pslice lo hi d
noncomputable def vIdx (ev : EvF) (v i : Expr) : Option DV := (ev v).bind fun a => (ev i).bind fun b => pidx a b
noncomputable def vList (ev : EvF) (es : List Expr) : Option DV := (pevs ev es).bind fun vs => if vs.length ≤ 1000 then some (.ls vs) else none
noncomputable def isAnd : BoolOp → Bool
  | .And => true
  | _ => false
noncomputable def pevV (ev : EvF) (tr : Expr → Option Bool) (c : Cx) (F : PEnv) : V → Option DV
  | .name x => F.lookup x
  | .const p => some (.sc p)
  | .bin op l r => vBin ev op l r
  | .bool op es => if isAnd op = true then (pand ev es).map fun b => .sc (.bool b) else none
  | .cmp op l r => (vCmp ev op l r).map fun b => .sc (.bool b)
  | .ite t b o => (tr t).bind fun d => ev (if d then b else o)
  | .meth nm o args => vMeth ev nm o args
  | .call f args => vCall ev c f args
  | .isi a => vIsi ev c a
  | .slice v lo hi => vSlice ev v lo hi
  | .rev v => (ev v).bind prev
  | .idxN v j => (ev v).bind (pidxN j)
  | .idx v i => vIdx ev v i
  | .list es => vList ev es
  | _ => none
noncomputable def pevStep (R : Pec) (c : Cx) (F : PEnv) (e : Expr) : Option DV := pevV (R.ev c F) (R.tr c F) c F (view e)
noncomputable def ptrV (ev : EvF) (tr : Expr → Option Bool) (e : Expr) (v : V) : Option Bool := match v with
  | .not x => (tr x).map (!·)
  | .bool op es => ptb tr op es
  | .cmp op l r => vCmp ev op l r
  | _ => if v.plain = true then (scO (ev e)).bind truth else none
noncomputable def ptrStep (R : Pec) (c : Cx) (F : PEnv) (e : Expr) : Option Bool := ptrV (R.ev c F) (R.tr c F) e (view e)
noncomputable def vXb (es : Expr → Option PV) (op : Operator) (l r : Expr) : Option PV := (es l).bind fun a => (es r).bind fun b => sc1 (binop op a b [])
noncomputable def vXc (es : Expr → Option PV) (c : Cx) (args : List Expr) (f : Str) (g : Nat1) : Option PV := if isGl c f = true then (pesL es args).bind fun ps => sc1 (g ps []) else none
noncomputable def pesV (ev : EvF) (es : Expr → Option PV) (c : Cx) (e : Expr) : V → Option PV
  | .bin op l r => vXb es op l r
  | .call f args => (match T3.sp f with
    | some g => vXc es c args f g
    | none => scO (ev e))
  | _ => scO (ev e)
noncomputable def pesStep (R : Pec) (c : Cx) (F : PEnv) (e : Expr) : Option PV := pesV (R.ev c F) (R.es c F) c e (view e)
theorem asS_ok {d : DV} {p : PV} (h : d.asS = some p) : d = .sc p := by cases d <;> first | (cases h; rfl) | cases h
theorem asL_ok {d : DV} {vs : List PV} (h : d.asL = some vs) : d = .ls vs := by cases d <;> first | (cases h; rfl) | cases h
theorem scO_some {o : Option DV} {p : PV} (h : scO o = some p) : o = some (.sc p) := bindE h fun d h1 h2 => by rw [h1, asS_ok h2]
theorem sc1_some {r : Option (PV × Sto)} {p : PV} (h : sc1 r = some p) : r = some (p, []) := bindE h fun x h1 h2 => iteE h2 fun hx h2 => by
  obtain ⟨q, σ⟩ := x
  have hs : σ = [] := List.isEmpty_iff.mp hx
  cases h2
  rw [h1, hs]
theorem lnil {m : Nat} {α : Type} {k : List PV → Option α} : (listAt [] (.ref m)).bind k = none := rfl
theorem binop_any {op : Operator} {a b p : PV} (h : binop op a b [] = some (p, [])) (σ : Sto) : binop op a b σ = some (p, σ) := by
  cases a with
  | int i => cases b with
    | int j =>
      refine mapE h fun k hk zz => ?_
      clear h
      rename _ => h
      cases h
      exact congrArg (Option.map fun k => (PV.int k, σ)) hk
    | _ => exact noE h
  | str x => cases b with
    | str y =>
      refine iteE h fun hc zz => ?_
      clear h
      rename _ => h
      cases h
      exact if_pos hc
    | _ => exact noE h
  | bytes x => cases b with
    | bytes y =>
      refine iteE h fun hc zz => ?_
      clear h
      rename _ => h
      cases h
      exact if_pos hc
    | _ => exact noE h
  | ref m => cases b with
    | ref n => exact iteE h fun _ h => noE h
    | int k => exact iteE h fun _ h => noE h
    | _ => exact noE h
  | _ => exact noE h
theorem cmpop_any {op : CmpOp} {a b : PV} {d : Bool} (h : cmpop op a b [] = some d) (σ : Sto) : cmpop op a b σ = some d := by
  cases a with
  | ref m => cases b with
    | ref n => exact noE h
    | _ => exact noE h
  | bool c => cases b with
    | ref n => exact iteE h fun _ h => noE h
    | _ => exact h
  | _ => exact h
theorem cmpL_any {op : CmpOp} {m n : Nat} {xs ys : List PV} (h : isEqs op = true) : cmpL op m n xs ys = cmpL op 0 0 xs ys := by
  cases op <;> first | rfl | cases h
theorem bcall_any {f : Str} {vs : List PV} {p : PV} {τ : Sto} (h : bcall f [.ref 0] [.list vs] = some (p, τ)) {σ : Sto} {m : Nat} (hm : σ[m]? = some (.list vs)) : bcall f [.ref m] σ = some (p, σ) := by
  have h1 : listAt σ (.ref m) = some vs := listAt_of hm
  have hi : intsAt σ (.ref m) = pvInts vs := bind_of h1
  have hl : lenV σ (.ref m) = if vs.length ≤ lim then some (vs.length : Int) else none := bind_of h1
  have hb : bytesV σ (.ref m) = bytesP (.list vs) := bind_of hm
  refine (?_ : bcall1 f (.ref m) σ = _)
  replace h : bcall1 f (.ref 0) [.list vs] = some (p, τ) := h
  unfold bcall1 at h ⊢
  rw [hi, hl, hb]
  refine ite2 h (fun c h => ?_) fun c1 h => ite2 h (fun c h => ?_) fun c2 h => ite2 h (fun c h => ?_) fun c3 h => ite2 h (fun c h => ?_) fun c4 h => ite2 h (fun c h => ?_) fun c5 h => iteE h fun c h => ?_
  · rw [if_pos c]
    refine mapE h fun i e zz => ?_
    clear h
    rename _ => h
    cases h
    exact congrArg (Option.map fun i => (PV.int i, σ)) e
  · exact noE h
  · rw [if_neg c1, if_neg c2, if_pos c]
    refine mapE h fun i e zz => ?_
    clear h
    rename _ => h
    cases h
    exact congrArg (Option.map fun i => (PV.int i, σ)) e
  · rw [if_neg c1, if_neg c2, if_neg c3, if_pos c]
    refine mapE h fun i e zz => ?_
    clear h
    rename _ => h
    cases h
    exact congrArg (Option.map fun i => (PV.int i, σ)) e
  · rw [if_neg c1, if_neg c2, if_neg c3, if_neg c4, if_pos c]
    refine bindE h fun i e zz => ?_
    clear h
    refine iteE zz fun hn h => ?_
    clear zz
    apply spE h; clear h
    exact (bind_of e).trans (if_pos hn)
  · rw [if_neg c1, if_neg c2, if_neg c3, if_neg c4, if_neg c5, if_pos c]
    refine mapE h fun i e zz => ?_
    clear h
    rename _ => h
    cases h
    exact congrArg (Option.map fun x => (PV.bytes x, σ)) e
theorem sp_any {f : Str} {g : Nat1} {ps : List PV} {p : PV} (hg : T3.sp f = some g) (h : g ps [] = some (p, [])) (σ : Sto) : g ps σ = some (p, σ) := by
  refine ite2 hg (fun _ hg => ?_) fun _ hg => iteE hg fun _ hg => ?_
  · cases hg
    refine elEEAA (fSwap_inv h) fun x w eq192x1 hc e => ?_
    subst eq192x1
    cases e
    exact if_pos hc
  · cases hg
    refine elEAA (fAbout_inv h) fun x eq196x2 hc e => ?_
    subst eq196x2
    cases e
    exact if_pos hc
end Mine.Internal
end
section
set_option maxRecDepth 100000
set_option backward.match.sparseCases false
namespace Mine.Internal
open PySem PyProof.Rows
noncomputable def EvD (n : Nat) (c : Cx) (ρ : Rho) (σ₀ : Sto) (e : Expr) : DV → Prop
  | .sc p => EvS n c ρ σ₀ e p
  | .ls vs => EvL n c ρ σ₀ e vs
section
variable {n : Nat} {c : Cx} {ρ : Rho} {σ₀ : Sto} {F : PEnv} {R : Pec}
noncomputable def EvOk (n : Nat) (R : Pec) : Prop := ∀ c F e d, R.ev c F e = some d → ∀ ρ σ, Has ρ σ F → EvD n c ρ σ e d
noncomputable def TrOk (n : Nat) (R : Pec) : Prop := ∀ c F e b, R.tr c F e = some b → ∀ ρ σ, Has ρ σ F → TrS n c ρ σ e b
noncomputable def EsOk (n : Nat) (R : Pec) : Prop := ∀ c F e p, R.es c F e = some p → ∀ ρ σ, Has ρ σ F → EsS n c ρ σ e p
theorem pevs_ok (h : EvOk n R) (hF : Has ρ σ₀ F) : ∀ {es : List Expr} {ps : List PV}, pevs (R.ev c F) es = some ps → AllS n c ρ σ₀ es ps
  | [], ps, hp => by cases hp; exact .nil
  | e :: r, ps, hp => iteN hp fun hs hp => bindE hp fun p he hp => mapE hp fun qs hq hp => by
    subst hp
    exact .cons (Bool.eq_false_iff.mpr hs) (h _ _ _ _ (scO_some he) _ _ hF) (pevs_ok h hF hq)
theorem pesL_ok (h : EsOk n R) (hF : Has ρ σ₀ F) : ∀ {es : List Expr} {ps : List PV}, pesL (R.es c F) es = some ps → AllX n c ρ σ₀ es ps
  | [], ps, hp => by cases hp; exact .nil
  | e :: r, ps, hp => iteN hp fun hs hp => bindE hp fun p he hp => mapE hp fun qs hq hp => by
    subst hp
    exact .cons (Bool.eq_false_iff.mpr hs) (h _ _ _ _ he _ _ hF) (pesL_ok h hF hq)
theorem ev_bool {e : Expr} {b : Bool} (h : EvOk n R) (hF : Has ρ σ₀ F) (hp : (scO (R.ev c F e)).bind asBool = some b) : EvS n c ρ σ₀ e (.bool b) := bindE hp fun p he hb => by
  have := h _ _ _ _ (scO_some he) _ _ hF
  rw [asBool_ok hb] at this
  exact this
theorem ev_int {e : Expr} {i : Int} (h : EvOk n R) (hF : Has ρ σ₀ F) (hp : (scO (R.ev c F e)).bind asInt = some i) : EvS n c ρ σ₀ e (.int i) := bindE hp fun p he hb => by
  have := h _ _ _ _ (scO_some he) _ _ hF
  rw [asInt_ok hb] at this
  exact this
theorem pand_ok (h : EvOk n R) (hF : Has ρ σ₀ F) : ∀ {es : List Expr} {b : Bool}, pand (R.ev c F) es = some b → ∀ σ, G σ₀ σ → ∃ σ', evBool (recN T3 n) c ρ .And σ es = some (.bool b, σ') ∧ G σ σ'
  | [], b, hp, _, _ => noE hp
  | [e], b, hp, σ, g => ev_bool h hF hp σ g
  | e :: e' :: r, b, hp, σ, g => bindE hp fun d hd hp => by
    refine elEA (ev_bool h hF hd σ g) fun σ₁ e₁ g₁ => ?_
    cases d with
    | true =>
      refine elEA (pand_ok h hF hp σ₁ (g.trans g₁)) fun σ₂ e₂ g₂ => ?_
      exact ⟨σ₂, (and_next e₁).trans e₂, g₁.trans g₂⟩
    | false =>
      cases hp
      exact ⟨σ₁, and_next e₁, g₁⟩
theorem ptb_ok {op : BoolOp} (h : TrOk n R) (hF : Has ρ σ₀ F) : ∀ {es : List Expr} {b : Bool}, ptb (R.tr c F) op es = some b → ∀ σ, G σ₀ σ → ∃ σ', trBool (recN T3 n) c ρ op σ es = some (b, σ') ∧ G σ σ'
  | [], b, hp, σ, _ => by cases hp; exact ⟨σ, rfl, .rfl'⟩
  | e :: r, b, hp, σ, g => bindE hp fun d hd hp => by
    refine elEA (h _ _ _ _ hd _ _ hF σ g) fun σ₁ e₁ g₁ => ?_
    refine ite2 hp (fun hs hp => ?_) fun hs hp => ?_
    · cases hp
      exact ⟨σ₁, (bnd_of e₁).trans (if_pos hs), g₁⟩
    · refine elEA (ptb_ok h hF hp σ₁ (g.trans g₁)) fun σ₂ e₂ g₂ => ?_
      exact ⟨σ₂, (bnd_of e₁).trans ((if_neg hs).trans e₂), g₁.trans g₂⟩
theorem popt_ok (h : EvOk n R) (hF : Has ρ σ₀ F) {o : Option Expr} {i : Option Int} (hp : popt (R.ev c F) o = some i) : ∀ σ, G σ₀ σ → ∃ σ', optInt (recN T3 n) c ρ σ o = some (i, σ') ∧ G σ σ' := by
  cases o with
  | none => cases hp; exact o_none
  | some e => exact mapE hp fun j hj hp => by subst hp; exact o_some (ev_int h hF hj)
theorem kd_of {e : Expr} {v : V} {i : Nat} (h : view e = v) : kd e i = v.kids.getD i default := by rw [kd, h]
theorem s_isi {y : List UInt8} {e a : Expr} (h : view e = .isi a) (k1 : isGl c (Str.ofString "isinstance") = true) (k2 : isGl c (Str.ofString "bytes") = true) (ha : EvS n c ρ σ₀ a (.bytes y)) : EvS (n + 1) c ρ σ₀ e (.bool true) := fun σ g => by
  refine elEA (ha σ g) fun σ₁ e₁ g₁ => ?_
  exact ⟨σ₁, (ev_of h).trans ((if_pos ⟨k1, k2⟩).trans ((bnd_of e₁).trans (if_pos rfl))), g₁⟩
theorem bin_ok {e l r : Expr} {op : Operator} {a b d : DV} (hv : view e = .bin op l r) (ha : EvD n c ρ σ₀ l a) (hb : EvD n c ρ σ₀ r b) (hp : pbin op a b = some d) : EvD (n + 1) c ρ σ₀ e d := by
  obtain rfl : kd e 0 = l := kd_of hv
  obtain rfl : kd e 1 = r := kd_of hv
  cases a with
  | sc a =>
    refine bindE hp fun b' hb' hp1 => ?_
    clear hp
    refine mapE hp1 fun p hp2 e => ?_
    clear hp1
    cases asS_ok hb'
    subst e
    exact s_bin hv ha hb (binop_any (sc1_some hp2))
  | ls xs =>
    refine bindE hp fun ys hy hp1 => ?_
    clear hp
    refine iteE hp1 fun hc hp2 => ?_
    clear hp1
    cases asL_ok hy
    cases hp2
    rw [isAdd_ok hc.1] at hv
    exact l_add hv ha hb hc.2
theorem cmp_ok {e l r : Expr} {op : CmpOp} {a b : DV} {d : Bool} (hv : view e = .cmp op l r) (ha : EvD n c ρ σ₀ l a) (hb : EvD n c ρ σ₀ r b) (hp : pcmp op a b = some d) : EvS (n + 1) c ρ σ₀ e (.bool d) ∧ TrS (n + 1) c ρ σ₀ e d := by
  obtain rfl : kd e 0 = l := kd_of hv
  obtain rfl : kd e 1 = r := kd_of hv
  cases a with
  | sc a =>
    refine bindE hp fun b' hb' hp1 => ?_
    clear hp
    cases asS_ok hb'
    exact ⟨s_cmp hv ha hb (cmpop_any hp1), t_cmp hv ha hb (cmpop_any hp1)⟩
  | ls xs =>
    refine bindE hp fun ys hy hp1 => ?_
    clear hp
    refine iteE hp1 fun hc hp2 => ?_
    clear hp1
    cases asL_ok hy
    have k : ∀ (σ : Sto) (m k : Nat), σ[m]? = some (.list xs) → σ[k]? = some (.list ys) → cmpop op (.ref m) (.ref k) σ = some d := fun σ m k hm hk => (bind_of (listAt_of hm)).trans ((bind_of (listAt_of hk)).trans ((cmpL_any hc).trans hp2))
    exact ⟨s_cmpL hv ha hb k, t_cmpL hv ha hb k⟩
theorem ite_ok {e t b o : Expr} {u : Bool} {d : DV} (hv : view e = .ite t b o) (ht : TrS n c ρ σ₀ t u) (hd : EvD n c ρ σ₀ (if u then b else o) d) : EvD (n + 1) c ρ σ₀ e d := by
  cases d with
  | sc p =>
    intro σ g
    refine elEA (ht σ g) fun σ₁ e₁ g₁ => ?_
    refine elEA (hd σ₁ (g.trans g₁)) fun σ₂ e₂ g₂ => ?_
    exact ⟨σ₂, (ev_of hv).trans ((bnd_of e₁).trans e₂), g₁.trans g₂⟩
  | ls vs =>
    intro σ g
    refine elEA (ht σ g) fun σ₁ e₁ g₁ => ?_
    refine elEEAA (hd σ₁ (g.trans g₁)) fun σ₂ m e₂ g₂ m₂ => ?_
    exact ⟨σ₂, m, (ev_of hv).trans ((bnd_of e₁).trans e₂), g₁.trans g₂, m₂⟩
theorem meth_ok {e o a : Expr} {nm : Str} {u v d : DV} (hv : view e = .meth nm o [a]) (hs : isStar a = false) (hu : EvD n c ρ σ₀ o u) (ha : EvD n c ρ σ₀ a v) (hp : pmeth nm u v = some d) : EvD (n + 1) c ρ σ₀ e d := by
  obtain rfl : kd e 0 = o := kd_of hv
  obtain rfl : kd e 1 = a := kd_of hv
  refine ite2 hp (fun hn hp => ?_) fun _ hp => iteE hp fun hn hp => ?_ <;> subst hn
  · refine bindE hp fun y hy hp => bindE hp fun x hx hp => iteE hp fun hc hp => bindE hy fun q hq hy => bindE hx fun q' hq' hx => ?_
    cases hp
    cases asS_ok hq
    cases asS_ok hq'
    cases asByt_ok hy
    cases asStr_ok hx
    refine elAA hc fun h1 h2 eq116x1 => ?_
    try clear hc
    subst eq116x1
    exact s_decode hv hs hu ha h1 h2
  · refine bindE hp fun is hi hp => bindE hp fun x hx hp => iteE hp fun hc hp => bindE hi fun q hq hi => bindE hx fun q' hq' hx => ?_
    cases hp
    cases asL_ok hq
    cases asS_ok hq'
    cases asInt_ok hx
    cases pvInts_map hi
    exact s_index hv hs hu ha hc.1 hc.2
theorem call_ok {e a : Expr} {f : Str} {u d : DV} (hv : view e = .call f [a]) (hk : isGl c f = true) (hs : isStar a = false) (hu : EvD n c ρ σ₀ a u) (hp : pcall f u = some d) : EvD (n + 1) c ρ σ₀ e d := by
  obtain rfl : kd e 0 = a := kd_of hv
  cases u with
  | sc p =>
    refine bindE hp fun x hx hp1 => ?_
    clear hp
    refine iteE hp1 fun hc hp2 => ?_
    clear hp1
    cases asStr_ok hx
    cases hp2
    obtain ⟨rfl, hn⟩ := hc
    exact s_call hv (isGl_ok hk) (.cons hs hu .nil) fun σ => show (if x.length ≤ 10000 then some (PV.bool (check x), σ) else none) = _ from if_pos hn
  | ls vs =>
    refine iteE hp fun hf hp1 => ?_
    clear hp
    refine mapE hp1 fun r hb hp2 => ?_
    clear hp1
    obtain ⟨p, τ⟩ := r
    cases hp2
    exact s_callL hv (isGl_ok hk) hs hu (Option.isNone_iff_eq_none.mp hf) fun σ m hm => bcall_any hb hm
theorem slice_ok {e v : Expr} {lo hi : Option Expr} {i j : Option Int} {u d : DV} (hv : view e = .slice v lo hi) (hu : EvD n c ρ σ₀ v u) (h1 : ∀ σ, G σ₀ σ → ∃ σ', optInt (recN T3 n) c ρ σ lo = some (i, σ') ∧ G σ σ') (h2 : ∀ σ, G σ₀ σ → ∃ σ', optInt (recN T3 n) c ρ σ hi = some (j, σ') ∧ G σ σ') (hp : pslice i j u = some d) : EvD (n + 1) c ρ σ₀ e d := by
  refine iteE hp fun hok hp0 => ?_
  clear hp
  cases u with
  | sc p =>
    refine bindE hp0 fun y hy hp1 => ?_
    clear hp0
    refine iteE hp1 fun hn hp2 => ?_
    clear hp1
    cases asByt_ok hy
    cases hp2
    exact s_slice hv hu h1 h2 hok hn
  | ls vs =>
    refine iteE hp0 fun hn hp1 => ?_
    clear hp0
    cases hp1
    exact l_slice hv hu h1 h2 hok hn
theorem rev_ok {e v : Expr} {u d : DV} (hv : view e = .rev v) (hu : EvD n c ρ σ₀ v u) (hp : prev u = some d) : EvD (n + 1) c ρ σ₀ e d := by
  obtain rfl : kd e 0 = v := kd_of hv
  cases u with
  | sc p =>
    refine bindE hp fun y hy hp1 => ?_
    clear hp
    refine iteE hp1 fun hn hp2 => ?_
    clear hp1
    cases asByt_ok hy
    cases hp2
    exact s_rev hv hu hn
  | ls vs =>
    refine iteE hp fun hn hp1 => ?_
    clear hp
    cases hp1
    exact l_rev hv hu hn
theorem idxN_ok {e v : Expr} {j : Int} {u d : DV} (hv : view e = .idxN v j) (hu : EvD n c ρ σ₀ v u) (hp : pidxN j u = some d) : EvD (n + 1) c ρ σ₀ e d := by
  obtain rfl : kd e 0 = v := kd_of hv
  refine bindE hp fun vs hl hp1 => ?_
  clear hp
  refine iteE hp1 fun hn hp2 => ?_
  clear hp1
  refine mapE hp2 fun p hq hp3 => ?_
  clear hp2
  cases asL_ok hl
  subst hp3
  exact s_idxN hv hu hn.1 hn.2.1 hn.2.2 hq
theorem idx_ok {e v i : Expr} {a b d : DV} (hv : view e = .idx v i) (ha : EvD n c ρ σ₀ v a) (hb : EvD n c ρ σ₀ i b) (hp : pidx a b = some d) : EvD (n + 1) c ρ σ₀ e d := by
  obtain rfl : kd e 0 = v := kd_of hv
  obtain rfl : kd e 1 = i := kd_of hv
  refine bindE hp fun vs hl hp1 => bindE hp1 fun k hk hp2 => iteE hp2 fun hn hp3 => mapE hp3 fun p hq hp4 => bindE hk fun q hq' hk => ?_
  cases asL_ok hl
  cases asS_ok hq'
  cases asInt_ok hk
  subst hp4
  exact s_idx hv ha hb hn.1 hn.2 hq
theorem pev_ok (hE : EvOk n R) (hT : TrOk n R) : ∀ c F e d, pevStep R c F e = some d → ∀ ρ σ, Has ρ σ F → EvD (n + 1) c ρ σ e d := by
  intro c F e d hp ρ σ₀ hF
  unfold pevStep at hp
  cases hv : view e with
  | name x =>
    rw [hv] at hp
    cases d with
    | sc p => exact hF.nmS _ _ hp hv
    | ls vs => exact hF.nmL _ _ hp hv
  | const p => rw [hv] at hp; cases hp; exact s_k hv
  | bin op l r => rw [hv] at hp; exact bindE hp fun a ha hp1 => bindE hp1 fun b hb hp2 => bin_ok hv (hE _ _ _ _ ha _ _ hF) (hE _ _ _ _ hb _ _ hF) hp2
  | bool op es =>
    rw [hv] at hp
    refine iteE hp fun ho hp1 => ?_
    clear hp
    refine mapE hp1 fun b hp2 e => ?_
    clear hp1
    subst e
    have : op = .And := by cases op <;> first | rfl | cases ho
    subst this
    intro σ g
    refine elEA (pand_ok hE hF hp2 σ g) fun σ₁ e₁ g₁ => ?_
    exact ⟨σ₁, (ev_of hv).trans e₁, g₁⟩
  | cmp op l r =>
    rw [hv] at hp
    refine mapE hp fun t hp1 e => bindE hp1 fun a ha hp2 => bindE hp2 fun b hb hp3 => ?_
    subst e
    exact (cmp_ok hv (hE _ _ _ _ ha _ _ hF) (hE _ _ _ _ hb _ _ hF) hp3).1
  | ite t b o => rw [hv] at hp; exact bindE hp fun u ht hp1 => ite_ok hv (hT _ _ _ _ ht _ _ hF) (hE _ _ _ _ hp1 _ _ hF)
  | meth nm o args =>
    rw [hv] at hp
    refine bindE hp fun a h1 hp1 => ?_
    clear hp
    refine iteE hp1 fun hs hp2 => ?_
    clear hp1
    refine bindE hp2 fun u hu hp3 => ?_
    clear hp2
    refine bindE hp3 fun w hw hp4 => ?_
    clear hp3
    rw [one1_some h1] at hv
    exact meth_ok hv hs (hE _ _ _ _ hu _ _ hF) (hE _ _ _ _ hw _ _ hF) hp4
  | call f args =>
    rw [hv] at hp
    refine bindE hp fun a h1 hp1 => ?_
    clear hp
    refine iteE hp1 fun hs hp2 => ?_
    clear hp1
    refine bindE hp2 fun u hu hp3 => ?_
    clear hp2
    rw [one1_some h1] at hv
    exact call_ok hv hs.1 hs.2 (hE _ _ _ _ hu _ _ hF) hp3
  | isi a =>
    rw [hv] at hp
    refine bindE hp fun u hu hp1 => ?_
    clear hp
    refine iteE hp1 fun hk hp2 => ?_
    clear hp1
    cases hp2
    obtain ⟨x, rfl⟩ := isByts_ok hk.1
    exact s_isi hv hk.2.1 hk.2.2 (hE _ _ _ _ (scO_some hu) _ _ hF)
  | slice v lo hi => rw [hv] at hp; exact bindE hp fun u hu hp1 => bindE hp1 fun i hi' hp2 => bindE hp2 fun j hj hp3 => slice_ok hv (hE _ _ _ _ hu _ _ hF) (popt_ok hE hF hi') (popt_ok hE hF hj) hp3
  | rev v => rw [hv] at hp; exact bindE hp fun u hu hp1 => rev_ok hv (hE _ _ _ _ hu _ _ hF) hp1
  | idxN v j => rw [hv] at hp; exact bindE hp fun u hu hp1 => idxN_ok hv (hE _ _ _ _ hu _ _ hF) hp1
  | idx v i => rw [hv] at hp; exact bindE hp fun a ha hp1 => bindE hp1 fun b hb hp2 => idx_ok hv (hE _ _ _ _ ha _ _ hF) (hE _ _ _ _ hb _ _ hF) hp2
  | list es =>
    rw [hv] at hp
    refine bindE hp fun vs hvs hp1 => ?_
    clear hp
    refine iteE hp1 fun hn hp2 => ?_
    clear hp1
    cases hp2
    exact l_list hv (pevs_ok hE hF hvs) hn
  | _ => rw [hv] at hp; exact noE hp
theorem ptrP_ok (hE : EvOk n R) {e : Expr} {d : Bool} (hF : Has ρ σ₀ F) (hp : (if (view e).plain = true then (scO (R.ev c F e)).bind truth else none) = some d) : TrS (n + 1) c ρ σ₀ e d :=
  iteE hp fun hpl hp => bindE hp fun p he hp => t_ev hpl (hE _ _ _ _ (scO_some he) _ _ hF) hp
theorem ptr_ok (hE : EvOk n R) (hT : TrOk n R) : ∀ c F e d, ptrStep R c F e = some d → ∀ ρ σ, Has ρ σ F → TrS (n + 1) c ρ σ e d := by
  intro c F e d hp ρ σ₀ hF
  have kp := ptrP_ok (c := c) (d := d) (e := e) hE hF
  unfold ptrStep at hp
  cases hv : view e with
  | not x =>
    rw [hv] at hp
    obtain rfl : kd e 0 = x := kd_of hv
    refine mapE hp fun b hp1 e => ?_
    clear hp
    subst e
    exact t_not hv (hT _ _ _ _ hp1 _ _ hF)
  | bool op es =>
    rw [hv] at hp
    intro σ g
    refine elEA (ptb_ok hT hF hp σ g) fun σ₁ e₁ g₁ => ?_
    exact ⟨σ₁, (tr_of hv).trans e₁, g₁⟩
  | cmp op l r =>
    rw [hv] at hp
    exact bindE hp fun a ha hp1 => bindE hp1 fun b hb hp2 => (cmp_ok hv (hE _ _ _ _ ha _ _ hF) (hE _ _ _ _ hb _ _ hF) hp2).2
  | _ => rw [hv] at hp kp; exact kp hp
end
end Mine.Internal
end
section
set_option maxRecDepth 100000
set_option backward.match.sparseCases false
namespace Mine.Internal
open PySem PyProof.Rows
section
variable {n : Nat} {c : Cx} {ρ : Rho} {σ₀ : Sto} {F : PEnv} {R : Pec}
theorem pesP_ok (hE : EvOk n R) {e : Expr} {p : PV} (hF : Has ρ σ₀ F) (hs : (view e).sp = true) (hp : scO (R.ev c F e) = some p) : EsS (n + 1) c ρ σ₀ e p := x_ev hs (hE _ _ _ _ (scO_some hp) _ _ hF)
theorem pes_ok (hE : EvOk n R) (hS : EsOk n R) : ∀ c F e p, pesStep R c F e = some p → ∀ ρ σ, Has ρ σ F → EsS (n + 1) c ρ σ e p := by
  intro c F e p hp ρ σ₀ hF
  have kp := pesP_ok (c := c) (e := e) (p := p) hE hF
  unfold pesStep at hp
  cases hv : view e with
  | bin op l r =>
    rw [hv] at hp
    obtain rfl : kd e 0 = l := kd_of hv
    obtain rfl : kd e 1 = r := kd_of hv
    exact bindE hp fun a ha hp => bindE hp fun b hb hp => x_bin hv (hS _ _ _ _ ha _ _ hF) (hS _ _ _ _ hb _ _ hF) (binop_any (sc1_some hp))
  | call f args =>
    rw [hv] at hp kp
    replace hp : (match T3.sp f with | some g => vXc (R.es c F) c args f g | none => scO (R.ev c F e)) = some p := hp
    cases hg : T3.sp f with
    | none => rw [hg] at hp; exact kp (Option.isNone_iff_eq_none.mpr hg) hp
    | some g =>
      rw [hg] at hp
      exact iteE hp fun hk hp => bindE hp fun ps hps hp => x_call hv (isGl_ok hk) hg (pesL_ok hS hF hps) (sp_any hg (sc1_some hp))
  | _ => rw [hv] at hp kp; exact kp rfl hp
noncomputable def setF (F : PEnv) (x : Str) (d : DV) : PEnv := (x, d) :: F.filter fun f => !(f.1 == x)
structure HasD (ρ : Rho) (σ : Sto) (F : PEnv) : Prop where
  has : Has ρ σ F
  sep : ∀ x y vs us m, (x, DV.ls vs) ∈ F → (y, DV.ls us) ∈ F → ρ.lookup x = some (.ref m) → ρ.lookup y = some (.ref m) → x = y
theorem HasD.grow {σ σ' : Sto} (h : HasD ρ σ F) (g : G σ σ') : HasD ρ σ' F := ⟨h.has.grow g, h.sep⟩
theorem mem_setF {x : Str} {d : DV} {f : Str × DV} (h : f ∈ setF F x d) : f = (x, d) ∨ (f ∈ F ∧ f.1 ≠ x) := by
  unfold setF at h
  rcases List.mem_cons.mp h with h | h
  · exact .inl h
  · have := List.mem_filter.mp h
    exact .inr ⟨this.1, by simpa using this.2⟩
theorem Fact.upd {σ : Sto} {f : Str × DV} {x : Str} {v : PV} (h : Fact ρ σ f) (hx : f.1 ≠ x) : Fact (Mine.Internal.upd ρ x v) σ f := by
  obtain ⟨y, d⟩ := f
  cases d with
  | sc p => exact (lookup_upd ..).trans ((if_neg hx).trans h)
  | ls vs =>
    refine elEA h fun m h1 h2 => ?_
    try clear h
    exact ⟨m, (lookup_upd ..).trans ((if_neg hx).trans h1), h2⟩
theorem Has.setF' {σ : Sto} {x : Str} {v : PV} {d : DV} (h : Has ρ σ F) (hd : Fact (Mine.Internal.upd ρ x v) σ (x, d)) : Has (Mine.Internal.upd ρ x v) σ (setF F x d) := fun f hf => by
  rcases mem_setF hf with rfl | ⟨h1, h2⟩
  · exact hd
  · exact (h f h1).upd h2
theorem HasD.setS {σ : Sto} {x : Str} {p : PV} (h : HasD ρ σ F) : HasD (Mine.Internal.upd ρ x p) σ (setF F x (.sc p)) := by
  refine ⟨h.has.setF' (show (Mine.Internal.upd ρ x p).lookup x = some p by rw [lookup_upd, if_pos rfl]), ?_⟩
  intro y z vs us m hy hz ly lz
  rcases mem_setF hy with e | ⟨h1, h2⟩
  · cases e
  · rcases mem_setF hz with e | ⟨h3, h4⟩
    · cases e
    · rw [lookup_upd, if_neg h2] at ly
      rw [lookup_upd, if_neg h4] at lz
      exact h.sep _ _ _ _ _ h1 h3 ly lz
theorem HasD.setL {σ : Sto} {x : Str} {m : Nat} {vs : List PV} (h : HasD ρ σ F) (hm : σ.length ≤ m) {σ' : Sto} (g : G σ σ') (hv : σ'[m]? = some (.list vs)) : HasD (Mine.Internal.upd ρ x (.ref m)) σ' (setF F x (.ls vs)) := by
  have hfr : ∀ y us, (y, DV.ls us) ∈ F → ρ.lookup y ≠ some (.ref m) := by
    intro y us hy e
    refine elEA (h.has _ hy) fun k h1 h2 => ?_
    rw [h1] at e
    cases e
    have := (List.getElem?_eq_some_iff.mp h2).1
    omega
  refine ⟨(h.has.grow g).setF' ⟨m, by rw [lookup_upd, if_pos rfl], hv⟩, ?_⟩
  intro y z vs us k hy hz ly lz
  rcases mem_setF hy with e | ⟨h1, h2⟩
  · cases e
    rw [lookup_upd, if_pos rfl] at ly
    cases ly
    rcases mem_setF hz with e | ⟨h3, h4⟩
    · cases e; rfl
    · rw [lookup_upd, if_neg h4] at lz
      exact (hfr _ _ h3 lz).elim
  · rw [lookup_upd, if_neg h2] at ly
    rcases mem_setF hz with e | ⟨h3, h4⟩
    · cases e
      rw [lookup_upd, if_pos rfl] at lz
      cases lz
      exact (hfr _ _ h1 ly).elim
    · rw [lookup_upd, if_neg h4] at lz
      exact h.sep _ _ _ _ _ h1 h3 ly lz
theorem HasD.app {σ : Sto} {x : Str} {m : Nat} {vs us : List PV} (h : HasD ρ σ F) (hx : (x, DV.ls vs) ∈ F) (hm : ρ.lookup x = some (.ref m)) (hv : σ[m]? = some (.list vs)) : HasD ρ (σ.set m (.list us)) (setF F x (.ls us)) := by
  have hl := (List.getElem?_eq_some_iff.mp hv).1
  refine ⟨fun f hf => ?_, ?_⟩
  · rcases mem_setF hf with rfl | ⟨h1, h2⟩
    · exact ⟨m, hm, by rw [List.getElem?_set_self hl]⟩
    · have := h.has f h1
      obtain ⟨y, d⟩ := f
      cases d with
      | sc p => exact this
      | ls ws =>
        refine elEA this fun k h3 h4 => ?_
        try clear this
        refine ⟨k, h3, ?_⟩
        rw [List.getElem?_set_ne]
        · exact h4
        · intro e
          subst e
          exact h2 (h.sep _ _ _ _ _ h1 hx h3 hm)
  · intro y z ws ws' k hy hz ly lz
    have hF : ∀ y ws, (y, DV.ls ws) ∈ setF F x (.ls us) → ∃ ws', (y, DV.ls ws') ∈ F := by
      intro y ws hy
      rcases mem_setF hy with e | ⟨h1, _⟩
      · cases e; exact ⟨_, hx⟩
      · exact ⟨_, h1⟩
    obtain ⟨_, a1⟩ := hF _ _ hy
    obtain ⟨_, a2⟩ := hF _ _ hz
    exact h.sep _ _ _ _ _ a1 a2 ly lz
noncomputable def pcl (f : Nat → Option (Option PV)) : Nat → Nat → Option (List PV)
  | 0, _ => some []
  | m + 1, i => (f i).bind fun o => match o with
    | some y => (pcl f m (i + 1)).map (y :: ·)
    | none => pcl f m (i + 1)
noncomputable def TurnC (Q : Rec) (c : Cx) (ρ : Rho) (ifs : List Expr) (elt : Expr) (σ₀ : Sto) : Option (Option PV) → Prop
  | none => True
  | some none => ∀ σ, G σ₀ σ → ∃ σ', trBool Q c ρ .And σ ifs = some (false, σ') ∧ G σ σ'
  | some (some y) => ∀ σ, G σ₀ σ → ∃ σ₁ σ₂, trBool Q c ρ .And σ ifs = some (true, σ₁) ∧ G σ σ₁ ∧ Q.ev c ρ σ₁ elt = some (y, σ₂) ∧ G σ₁ σ₂
theorem compS_ok {Q : Rec} {x : Str} {ifs : List Expr} {elt : Expr} {f : Nat → Option (Option PV)} {S : Src} {v : Nat → PV} {q : Nat} (hn : ∀ i σ, i < q → G σ₀ σ → nx S i σ = some (some (v i))) (hend : ∀ σ, G σ₀ σ → nx S q σ = some none) (hf : ∀ i, i < q → TurnC Q c (upd ρ x (v i)) ifs elt σ₀ (f i)) : ∀ (m i K : Nat) (ys : List PV), m + i = q → m < K → pcl f m i = some ys → ∀ σ, G σ₀ σ → ∃ σ', compS Q c x ifs elt ρ S K i σ = some (ys, σ') ∧ G σ σ'
  | 0, i, K, ys, hm, hK, hy, σ, g => by
    obtain ⟨K', rfl⟩ : ∃ K', K = K' + 1 := ⟨K - 1, by omega⟩
    obtain rfl : i = q := by omega
    cases hy
    exact ⟨σ, bind_of (hend σ g), .rfl'⟩
  | m + 1, i, K, ys, hm, hK, hy, σ, g => by
    obtain ⟨K', rfl⟩ : ∃ K', K = K' + 1 := ⟨K - 1, by omega⟩
    have ht := hf i (by omega)
    have ih := compS_ok hn hend hf m (i + 1) K'
    refine bindE hy fun o hy' hy1 => ?_
    clear hy
    rw [hy'] at ht
    cases o with
    | some y =>
      refine mapE hy1 fun zs hz e => ?_
      clear hy1
      subst e
      refine elEEAAA (ht σ g) fun σ₁ σ₂ e₁ g₁ e₂ g₂ => ?_
      refine elEA (ih zs (by omega) (by omega) hz σ₂ ((g.trans g₁).trans g₂)) fun σ₃ e₃ g₃ => ?_
      exact ⟨σ₃, (bind_of (hn i σ (by omega) g)).trans ((bnd_of e₁).trans ((bnd_of e₂).trans (bnd_of e₃))), (g₁.trans g₂).trans g₃⟩
    | none =>
      refine elEA (ht σ g) fun σ₁ e₁ g₁ => ?_
      refine elEA (ih ys (by omega) (by omega) hy1 σ₁ (g.trans g₁)) fun σ₃ e₃ g₃ => ?_
      exact ⟨σ₃, (bind_of (hn i σ (by omega) g)).trans ((bnd_of e₁).trans e₃), g₁.trans g₃⟩
noncomputable def SV.cs : SV → Option (Str × Expr × Str × Expr × List Expr × Scope)
  | .asgC x elt tgt iter fs scope => (tview tgt).p1.map fun y => (x, elt, y, iter, fs, scope)
  | _ => none
noncomputable def cmpS (s : Stmt) : Option (Str × Expr × Str × Expr × List Expr × Scope) := (sview s).cs
theorem cs_ok {v : SV} {x y : Str} {elt iter : Expr} {ifs : List Expr} {scope : Scope} (h : v.cs = some (x, elt, y, iter, ifs, scope)) : ∃ tgt, v = .asgC x elt tgt iter ifs scope ∧ tview tgt = .one y := by
  cases v with
  | asgC x elt tgt iter ifs scope =>
    refine mapE h fun z hz e => ?_
    clear h
    cases e
    exact ⟨tgt, rfl, oneN_ok hz⟩
  | _ => cases h
theorem ex_comp {s : Stmt} {x y : Str} {elt iter : Expr} {ifs : List Expr} {scope : Scope} {S : Src} {σ σ₁ σ₂ : Sto} {ys : List PV} (h : cmpS s = some (x, elt, y, iter, ifs, scope)) (hk : kindOk c.sc x = true) (hs : scopeOk scope c.sc = true) (hy : scope.names.lookup y = some .local) (hsr : match S with | .gens _ => False | .zips _ _ => False | _ => True)
    (hsrc : src T3 (recN T3 n) c ρ σ iter = some (S, σ₁)) (hc : compS (recN T3 n) ⟨relab scope c.sc, false⟩ y ifs elt (freeOf scope ρ) S 1000 0 σ₁ = some (ys, σ₂)) :
    (recN T3 (n + 1)).ex c ρ σ s = some (.next, upd ρ x (.ref σ₂.length), σ₂ ++ [.list ys]) := by
  refine elEA (cs_ok h) fun tgt hv ht => ?_
  obtain ⟨p, hn⟩ := tok_of ht
  have hT : compT (recN T3 n) c ρ σ₁ elt (tview tgt) ifs scope S = some (ys, σ₂) := by
    rw [ht]
    cases S <;> first | exact hsr.elim | exact (if_pos hy).trans hc
  have hcomp : comp T3 (recN T3 n) c ρ σ elt tgt iter ifs scope = some (.ref σ₂.length, σ₂ ++ [.list ys]) :=
    (if_pos hs).trans ((bnd_of hsrc).trans (congrArg (Option.map fun r : List PV × Sto => mk r.2 (.list r.1)) hT))
  exact (ex_of hv).trans ((if_pos ⟨hk, .inl (by rw [hn]; rfl)⟩).trans (bnd_of hcomp))
theorem lookup_filter (q : Str → Bool) : ∀ (ρ : Rho) (x : Str), (ρ.filter fun p => q p.1).lookup x = if q x then ρ.lookup x else none
  | [], x => by simp
  | (y, v) :: r, x => by
    by_cases hq : q y
    · rw [List.filter_cons_of_pos (by simpa using hq), List.lookup_cons, List.lookup_cons, lookup_filter q r x]
      by_cases e : x = y
      · subst e; simp [hq]
      · have : (x == y) = false := by simpa using e
        rw [this]
    · rw [List.filter_cons_of_neg (by simpa using hq), lookup_filter q r x, List.lookup_cons]
      by_cases e : x = y
      · subst e; simp [hq]
      · have : (x == y) = false := by simpa using e
        rw [this]
noncomputable def freeE (scope : Scope) (F : PEnv) : PEnv := F.filter fun p => scope.names.lookup p.1 == some .free
theorem Has.free {σ : Sto} (scope : Scope) (h : Has ρ σ F) : Has (freeOf scope ρ) σ (freeE scope F) := fun f hf => by
  have hf' := List.mem_filter.mp hf
  have := h f hf'.1
  skip
  have hl : (ρ.filter fun p => scope.names.lookup p.1 == some .free).lookup f.1 = ρ.lookup f.1 := by
    rw [lookup_filter (fun x => scope.names.lookup x == some .free)]
    rw [if_pos hf'.2]
  obtain ⟨y, d⟩ := f
  cases d with
  | sc p => exact hl.trans this
  | ls vs =>
    refine elEA this fun m h1 h2 => ?_
    try clear this
    exact ⟨m, hl.trans h1, h2⟩
end
end Mine.Internal
end
section
set_option maxRecDepth 100000
set_option backward.match.sparseCases false
namespace Mine.Internal
open PySem PyProof.Rows
noncomputable def pexs (R : Pec) (c : Cx) : PEnv → List Stmt → Option PEnv
  | F, [] => some F
  | F, s :: r => (R.ex c F s).bind fun F => pexs R c F r
noncomputable def pfor (step : PV → PEnv → Option PEnv) (a st : Int) : Nat → Nat → PEnv → Option PEnv
  | 0, _, F => some F
  | m + 1, i, F => (step (.int (a + i * st)) F).bind fun F' => pfor step a st m (i + 1) F'
noncomputable def asRng : Src → Option (Int × Int × Nat)
  | .rng a st q => some (a, st, q)
  | _ => none
noncomputable def prng (ev : Expr → Option DV) (c : Cx) (e : Expr) : Option (Int × Int × Nat) :=
  if (rngP e).isSome = true ∧ isGl c (Str.ofString "range") = true then (pevs ev (rgA e)).bind fun vs => (pvInts vs).bind fun is => if smallAll is = true then (rangeOf is).bind asRng else none else none
noncomputable def kVs : List Expr → Option (List PV)
  | [] => some []
  | e :: r => (intOf e).bind fun i => (kVs r).map (.int i :: ·)
noncomputable def V.ls : V → Option (List Expr)
  | .list es => some es
  | _ => none
noncomputable def V.nm : V → Option Str
  | .name x => some x
  | _ => none
noncomputable def dsp (e : Expr) : Option (List PV) := ((view e).ls).bind fun es => (kVs es).bind fun vs => if vs.length ≤ 1000 then some vs else none
noncomputable def isLoc (c : Cx) (x : Str) : Bool := c.sc.names.lookup x == some NameKind.local
structure Per where
  p : Pec
  q : Cx → PEnv → EvF
  q2 : Cx → PEnv → EvF
  lv : Nat
noncomputable def xApp (R : Per) (c : Cx) (F : PEnv) (r : Expr × Expr) : Option PEnv := ((view r.1).nm).bind fun x => (F.lookup x).bind fun d => d.asL.bind fun vs => (scO (R.q c F r.2)).bind fun p => if 2 ≤ R.lv ∧ vs.length ≤ lim then some (setF F x (.ls (vs ++ [p]))) else none
noncomputable def xFor (R : Pec) (c : Cx) (F : PEnv) (t i : Expr) (b : List Stmt) : Option PEnv := (oneN t).bind fun y =>
  if kindOk c.sc y = true then (prng (R.ev c F) c i).bind fun r => if r.2.2 < 2000 then pfor (fun v F => pexs R c (setF F y (.sc v)) b) r.1 r.2.1 r.2.2 0 F else none else none
noncomputable def xSl (R : Per) (c : Cx) (F : PEnv) (x : Str) : V → Option PEnv
  | .slice v lo hi => (vSlice (R.q2 c F) v lo hi).bind fun d => d.asL.bind fun us => if 2 ≤ R.lv then some (setF F x (.ls us)) else none
  | _ => none
noncomputable def xDs (R : Per) (F : PEnv) (x : Str) (e : Expr) : Option PEnv := (dsp e).bind fun vs => if 3 ≤ R.lv then some (setF F x (.ls vs)) else none
noncomputable def xAsg (R : Per) (c : Cx) (F : PEnv) (x : Str) (e : Expr) : Option PEnv := if kindOk c.sc x = true then ((xDs R F x e).or (xSl R c F x (view e))).or ((R.p.es c F e).map fun p => setF F x (.sc p)) else none
noncomputable def xCmp (R : Pec) (c' : Cx) (y : Str) (ifs : List Expr) (elt : Expr) (F' : PEnv) (v : PV) : Option (Option PV) := (ptb (R.tr c' (setF F' y (.sc v))) .And ifs).bind fun b =>
  if b = true then (scO (R.ev c' (setF F' y (.sc v)) elt)).map some else some none
noncomputable def xCom (R : Pec) (c : Cx) (F : PEnv) (x : Str) (elt : Expr) (y : Str) (iter : Expr) (ifs : List Expr) (scope : Scope) : Option PEnv :=
  if kindOk c.sc x = true ∧ scopeOk scope c.sc = true ∧ scope.names.lookup y = some .local then (prng (R.ev c F) c iter).bind fun r =>
    if r.2.2 < 900 then (pcl (fun i => xCmp R ⟨relab scope c.sc, false⟩ y ifs elt (freeE scope F) (.int (r.1 + i * r.2.1))) r.2.2 0).map fun ys => setF F x (.ls ys) else none else none
noncomputable def xTry (R : Pec) (c : Cx) (F : PEnv) (x f : Str) (args : List Expr) (hs : List ExceptHandler) : Option PEnv := (T3.sp f).bind fun g =>
  if c.top = true ∧ kindOk c.sc x = true ∧ isGl c f = true then (pevs (R.ev c F) args).bind fun vs => (match (T3.exc f).bind fun g => g vs with
    | some cls => ((hasH c.sc cls hs).bind hdS).bind fun p => if kindOk c.sc p.1 = true then some (setF F p.1 (.sc (.str p.2))) else none
    | none => (sc1 (g vs [])).map fun p => setF F x (.sc p)) else none
noncomputable def pexV (R : Per) (c : Cx) (F : PEnv) : SV → Option PEnv
  | .app e => ((view e).ap).bind fun r => xApp R c F r
  | .asg x e => xAsg R c F x e
  | .ifs t b o => (R.p.tr c F t).bind fun d => pexs R.p c F (if d then b else o)
  | .fors t i b => xFor R.p c F t i b
  | .asgC x elt tgt iter fs scope => ((tview tgt).p1).bind fun y => xCom R.p c F x elt y iter fs scope
  | .two x y a b => if isLoc c x = true ∧ isLoc c y = true ∧ x ≠ y then some (setF (setF F x (.sc (.int a))) y (.sc (.int b))) else none
  | .tries x f args hs => xTry R.p c F x f args hs
  | _ => none
noncomputable def pexStep (R : Per) (c : Cx) (F : PEnv) (s : Stmt) : Option PEnv := pexV R c F (sview s)
noncomputable def noPec : Pec := ⟨fun _ _ _ => none, fun _ _ _ => none, fun _ _ _ => none, fun _ _ _ => none⟩
noncomputable def recP : Nat → Per
  | 0 => ⟨noPec, fun _ _ _ => none, fun _ _ _ => none, 0⟩
  | n + 1 => ⟨⟨pevStep (recP n).p, ptrStep (recP n).p, pesStep (recP n).p, pexStep (recP n)⟩, (recP n).p.ev, (recP n).q, n + 1⟩
section
variable {n : Nat} {c : Cx} {ρ : Rho} {σ₀ : Sto} {F : PEnv}
noncomputable def ExOk (n : Nat) (R : Pec) : Prop := ∀ c F s F', R.ex c F s = some F' → ∀ ρ σ, HasD ρ σ F → ∃ ρ' σ', (recN T3 n).ex c ρ σ s = some (.next, ρ', σ') ∧ HasD ρ' σ' F'
theorem pexs_ok {R : Pec} (hX : ExOk n R) : ∀ {ss : List Stmt} {F F' : PEnv}, pexs R c F ss = some F' → ∀ ρ σ, HasD ρ σ F → ∃ ρ' σ', exs (recN T3 n) c ρ σ ss = some (.next, ρ', σ') ∧ HasD ρ' σ' F'
  | [], F, F', h, ρ, σ, hF => by cases h; exact ⟨ρ, σ, rfl, hF⟩
  | s :: r, F, F', h, ρ, σ, hF => bindE h fun F₁ h₁ h => by
    refine elEEA (hX _ _ _ _ h₁ ρ σ hF) fun ρ₁ σ₁ e₁ hF₁ => ?_
    refine elEEA (pexs_ok hX h ρ₁ σ₁ hF₁) fun ρ₂ σ₂ e₂ hF₂ => ?_
    exact ⟨ρ₂, σ₂, (exs_next e₁).trans e₂, hF₂⟩
theorem asRng_ok {S : Src} {r : Int × Int × Nat} (h : asRng S = some r) : S = .rng r.1 r.2.1 r.2.2 := by
  cases S <;> first | (cases h; rfl) | cases h
theorem prng_ok {R : Pec} (hE : EvOk n R) (hF : Has ρ σ₀ F) {e : Expr} {r : Int × Int × Nat} (h : prng (R.ev c F) c e = some r) : ∀ σ, G σ₀ σ → ∃ σ', src T3 (recN T3 n) c ρ σ e = some (.rng r.1 r.2.1 r.2.2, σ') ∧ G σ σ' := fun σ g =>
  iteE h fun hk h => bindE h fun vs hvs h => bindE h fun is his h => iteE h fun hsm h => bindE h fun S hS hr => by
    refine elEA ((pevs_ok hE hF hvs).evs σ g) fun σ₁ e₁ g₁ => ?_
    exact ⟨σ₁, src_rng hk.1 (isGl_ok hk.2) e₁ his hsm (hS.trans (congrArg some (asRng_ok hr))), g₁⟩
theorem pfor_ok {step : PV → Rho → Sto → Turn} {pst : PV → PEnv → Option PEnv} {a st : Int} {q : Nat} (hs : ∀ v F F', pst v F = some F' → ∀ ρ σ, HasD ρ σ F → ∃ ρ' σ', step v ρ σ = some (.next, ρ', σ') ∧ HasD ρ' σ' F') :
    ∀ (m i K : Nat) (F F' : PEnv) (ρ : Rho) (σ : Sto), m + i = q → m < K → pfor pst a st m i F = some F' → HasD ρ σ F → ∃ ρ' σ', forS step (.rng a st q) K i ρ σ = some (.next, ρ', σ') ∧ HasD ρ' σ' F'
  | 0, i, K, F, F', ρ, σ, hm, hK, h, hF => by
    obtain ⟨K', rfl⟩ : ∃ K', K = K' + 1 := ⟨K - 1, by omega⟩
    cases h
    exact ⟨ρ, σ, forS_end (nx_rng_end (by omega)), hF⟩
  | m + 1, i, K, F, F', ρ, σ, hm, hK, h, hF => by
    obtain ⟨K', rfl⟩ : ∃ K', K = K' + 1 := ⟨K - 1, by omega⟩
    refine bindE h fun F₁ h₁ zz => ?_
    clear h
    rename _ => h
    refine elEEA (hs _ _ _ h₁ ρ σ hF) fun ρ₁ σ₁ e₁ hF₁ => ?_
    refine elEEA (pfor_ok (q := q) hs m (i + 1) K' F₁ F' ρ₁ σ₁ (by omega) (by omega) h hF₁) fun ρ₂ σ₂ e₂ hF₂ => ?_
    exact ⟨ρ₂, σ₂, (forS_turn (nx_rng (show i < q by omega)) e₁).trans e₂, hF₂⟩
theorem kVs_ok : ∀ {es : List Expr} {vs : List PV}, kVs es = some vs → ∀ σ, evs (recN T3 (n + 1)) c ρ σ es = some (vs, σ)
  | [], vs, h, σ => by cases h; rfl
  | e :: r, vs, h, σ => bindE h fun i hi h => mapE h fun ps hps h => by
    subst h
    refine elEE (intOf_ok hi) fun a p eq103x1 => ?_
    subst eq103x1
    exact evs_cons rfl rfl (kVs_ok hps σ)
theorem ls_ok {v : V} {es : List Expr} (h : v.ls = some es) : v = .list es := by
  cases v <;> first | (cases h; rfl) | cases h
theorem nm_ok {v : V} {x : Str} (h : v.nm = some x) : v = .name x := by
  cases v <;> first | (cases h; rfl) | cases h
theorem dsp_ev {e : Expr} {vs : List PV} (h : dsp e = some vs) (σ : Sto) : (recN T3 (n + 2)).ev c ρ σ e = some (.ref σ.length, σ ++ [.list vs]) :=
  bindE h fun es he h => bindE h fun us hus h => iteE h fun hn h => by
    cases h
    exact (ev_of (ls_ok he)).trans ((bnd_of (kVs_ok hus σ)).trans (if_pos hn))
theorem dsp_ok {e : Expr} {vs : List PV} (h : dsp e = some vs) (σ : Sto) : (recN T3 (n + 3)).es c ρ σ e = some (.ref σ.length, σ ++ [.list vs]) :=
  bindE h fun es he _ => (es_ev (show (view e).sp = true by rw [ls_ok he]; rfl)).trans (dsp_ev h σ)
theorem isLoc_ok {x : Str} (h : isLoc c x = true) : c.sc.names.lookup x = some .local := beq_iff_eq.mp h
theorem ex_tup {s : Stmt} {x y : Str} {a b : Int} {σ : Sto} (h : sview s = .two x y a b) (hk : isLoc c x = true ∧ isLoc c y = true ∧ x ≠ y) : (recN T3 (n + 1)).ex c ρ σ s = some (.next, upd (upd ρ x (.int a)) y (.int b), σ) :=
  (ex_of h).trans (if_pos ⟨isLoc_ok hk.1, isLoc_ok hk.2.1, hk.2.2⟩)
theorem ex_tr {s : Stmt} {x f : Str} {args : List Expr} {hs : List ExceptHandler} {g : Nat1} {σ σ₁ : Sto} {vs : List PV} (h : sview s = .tries x f args hs) (hg : T3.sp f = some g) (hk : c.top = true ∧ kindOk c.sc x = true ∧ isGl c f = true) (ha : evs (recN T3 n) c ρ σ args = some (vs, σ₁)) :
    (recN T3 (n + 1)).ex c ρ σ s = (match (T3.exc f).bind fun g => g vs with
      | some cls => ((hasH c.sc cls hs).bind hdS).bind fun p => if kindOk c.sc p.1 then some (.next, upd ρ p.1 (.str p.2), σ₁) else none
      | none => bnd (g vs σ₁) fun v σ => some (.next, upd ρ x v, σ)) :=
  (ex_of h).trans ((bind_of hg).trans ((if_pos ⟨hk.1, hk.2.1, isGl_ok hk.2.2⟩).trans (bnd_of ha)))
end
end Mine.Internal
end
section
set_option maxRecDepth 100000
set_option backward.match.sparseCases false
namespace Mine.Internal
open PySem PyProof.Rows
section
variable {n : Nat} {c : Cx} {ρ : Rho} {σ₀ : Sto} {F : PEnv} {R : Per}
structure PerOk (n : Nat) (R : Per) : Prop where
  ev : EvOk n R.p
  tr : TrOk n R.p
  es : EsOk n R.p
  ex : ExOk n R.p
  q : ∀ k, n = k + 1 → EvOk k { R.p with ev := R.q }
  q2 : ∀ k, n = k + 2 → EvOk k { R.p with ev := R.q2 }
  lv : R.lv = n
theorem slice_fresh {e v : Expr} {lo hi : Option Expr} {vs : List PV} {i j : Option Int} (h : view e = .slice v lo hi) (hv : EvL n c ρ σ₀ v vs) (h1 : ∀ σ, G σ₀ σ → ∃ σ', optInt (recN T3 n) c ρ σ lo = some (i, σ') ∧ G σ σ') (h2 : ∀ σ, G σ₀ σ → ∃ σ', optInt (recN T3 n) c ρ σ hi = some (j, σ') ∧ G σ σ')
    (hok : (i.all (0 ≤ ·) && j.all (0 ≤ ·)) = true) (hn : vs.length ≤ lim) : ∀ σ, G σ₀ σ → ∃ σ' m, (recN T3 (n + 2)).es c ρ σ e = some (.ref m, σ') ∧ G σ σ' ∧ σ'[m]? = some (.list (cut i j vs)) ∧ σ.length ≤ m := fun σ g => by
  refine elEEAA (hv σ g) fun σ₁ m e₁ g₁ m₁ => ?_
  refine elEA (h1 σ₁ (g.trans g₁)) fun σ₂ e₂ g₂ => ?_
  refine elEA (h2 σ₂ ((g.trans g₁).trans g₂)) fun σ₃ e₃ g₃ => ?_
  have g03 := (g₁.trans g₂).trans g₃
  exact ⟨_, σ₃.length, (es_ev (show (view e).sp = true by rw [h]; rfl)).trans ((ev_of h).trans ((bnd_of e₁).trans ((bnd_of e₂).trans ((bnd_of e₃).trans (slc_list hok (g₃.get (g₂.get m₁)) hn))))), g03.trans (.mk _), get_new, g03.len⟩
theorem xApp_ok (H : PerOk n R) {s : Stmt} {F' : PEnv} {r : Expr × Expr} (hs : appP s = some r) (h : xApp R c F r = some F') (hF : HasD ρ σ₀ F) : ∃ ρ' σ', (recN T3 (n + 1)).ex c ρ σ₀ s = some (.next, ρ', σ') ∧ HasD ρ' σ' F' := by
  refine bindE h fun x hv h1 => ?_
  clear h
  refine bindE h1 fun d hx h2 => ?_
  clear h1
  refine bindE h2 fun vs hl h3 => ?_
  clear h2
  refine bindE h3 fun p hp h4 => ?_
  clear h3
  refine iteE h4 fun hc h5 => ?_
  clear h4
  cases h5
  rw [asL_ok hl] at hx
  obtain ⟨hc1, hc2⟩ := hc
  rw [H.lv] at hc1
  obtain ⟨k, rfl⟩ : ∃ k, n = k + 2 := ⟨n - 2, by omega⟩
  have he := H.q (k + 1) rfl _ _ _ _ (scO_some hp) ρ σ₀ hF.has
  refine elEA (hF.has _ (mem_lookup hx)) fun m h1 h2 => ?_
  have ho' : appO s = r.1 := by unfold appO; rw [hs]
  have ha' : appA s = r.2 := by unfold appA; rw [hs]
  obtain ⟨σ', e', g'⟩ := st_app (n := k) (by rw [hs]; rfl) (by rw [ho']; exact nm_ok hv) h1 (by rw [ha']; exact he) h2 hc2 σ₀ .rfl'
  exact ⟨ρ, _, e', (hF.grow g').app (mem_lookup hx) h1 (g'.get h2)⟩
theorem ex_as {s : Stmt} {x : Str} {e : Expr} {v : PV} {σ σ₁ : Sto} (hs : sview s = .asg x e) (hk : kindOk c.sc x = true) (he : (recN T3 n).es c ρ σ e = some (v, σ₁)) : (recN T3 (n + 1)).ex c ρ σ s = some (.next, upd ρ x v, σ₁) := (ex_of hs).trans ((if_pos hk).trans (bnd_of he))
theorem xDs_ok (H : PerOk n R) {s : Stmt} {F' : PEnv} {x : Str} {e : Expr} (hs : sview s = .asg x e) (hk : kindOk c.sc x = true) (h : xDs R F x e = some F') (hF : HasD ρ σ₀ F) : ∃ ρ' σ', (recN T3 (n + 1)).ex c ρ σ₀ s = some (.next, ρ', σ') ∧ HasD ρ' σ' F' := by
  refine bindE h fun vs hd zz => ?_
  clear h
  refine iteE zz fun hl h => ?_
  clear zz
  cases h
  rw [H.lv] at hl
  obtain ⟨k, rfl⟩ : ∃ k, n = k + 3 := ⟨n - 3, by omega⟩
  exact ⟨_, _, ex_as hs hk (dsp_ok hd σ₀), hF.setL (Nat.le_refl _) (.mk _) get_new⟩
theorem xSl_ok (H : PerOk n R) {s : Stmt} {F' : PEnv} {x : Str} {e : Expr} (hs : sview s = .asg x e) (hk : kindOk c.sc x = true) (h : xSl R c F x (view e) = some F') (hF : HasD ρ σ₀ F) : ∃ ρ' σ', (recN T3 (n + 1)).ex c ρ σ₀ s = some (.next, ρ', σ') ∧ HasD ρ' σ' F' := by
  cases hv : view e with
  | slice v lo hi =>
    rw [hv] at h
    refine bindE h fun d hsl h1 => bindE h1 fun us hus h2 => iteE h2 fun hl h3 => bindE hsl fun d' hd p1 => bindE p1 fun i hi1 p2 => bindE p2 fun j hj1 p3 => iteE p3 fun hok p4 => ?_
    cases h3
    rw [H.lv] at hl
    obtain ⟨k, rfl⟩ : ∃ k, n = k + 2 := ⟨n - 2, by omega⟩
    have hQ := H.q2 k rfl
    cases asL_ok hus
    cases d' with
    | sc p => exact bindE p4 fun y _ p5 => iteE p5 fun _ p6 => nomatch p6
    | ls vs =>
      refine iteE p4 fun hn p5 => ?_
      clear p4
      cases p5
      refine elEEAAA (slice_fresh hv (hQ _ _ _ _ hd ρ σ₀ hF.has) (popt_ok hQ hF.has hi1) (popt_ok hQ hF.has hj1) hok hn σ₀ .rfl') fun σ' m e₁ g₁ m₁ l₁ => ?_
      exact ⟨_, _, ex_as hs hk e₁, hF.setL l₁ g₁ m₁⟩
  | _ => rw [hv] at h; exact noE h
theorem xAsg_ok (H : PerOk n R) {s : Stmt} {F' : PEnv} {x : Str} {e : Expr} (hs : sview s = .asg x e) (h : xAsg R c F x e = some F') (hF : HasD ρ σ₀ F) : ∃ ρ' σ', (recN T3 (n + 1)).ex c ρ σ₀ s = some (.next, ρ', σ') ∧ HasD ρ' σ' F' := by
  refine iteE h fun hk h => orE h (fun h => orE h (fun h => xDs_ok H hs hk h hF) fun h => xSl_ok H hs hk h hF) fun h => mapE h fun p hp h => ?_
  subst h
  refine elEA (H.es _ _ _ _ hp ρ σ₀ hF.has σ₀ .rfl') fun σ' e₁ g₁ => ?_
  exact ⟨_, _, ex_as hs hk e₁, (hF.grow g₁).setS⟩
theorem xFor_ok (H : PerOk n R) {s : Stmt} {F' : PEnv} {t i : Expr} {b : List Stmt} (hs : sview s = .fors t i b) (h : xFor R.p c F t i b = some F') (hF : HasD ρ σ₀ F) : ∃ ρ' σ', (recN T3 (n + 1)).ex c ρ σ₀ s = some (.next, ρ', σ') ∧ HasD ρ' σ' F' := by
  refine bindE h fun y hy zz => ?_
  clear h
  refine iteE zz fun hk h => ?_
  clear zz
  refine bindE h fun r hr zz => ?_
  clear h
  refine iteE zz fun hq h => ?_
  clear zz
  refine elEA (prng_ok H.ev hF.has hr σ₀ .rfl') fun σ₁ e₁ g₁ => ?_
  have hx : (recN T3 (n + 1)).ex c ρ σ₀ s = forS (fun v ρ σ => exs (recN T3 n) c (upd ρ y v) σ b) (.rng r.1 r.2.1 r.2.2) 2000 0 ρ σ₁ := by
    refine (ex_of hs).trans ((bnd_of e₁).trans ?_)
    rw [oneN_ok hy]
    exact if_pos hk
  refine elEEA (pfor_ok (step := fun v ρ σ => exs (recN T3 n) c (upd ρ y v) σ b) (q := r.2.2) (fun v F F' hst ρ σ hF => pexs_ok H.ex hst _ _ hF.setS) r.2.2 0 2000 F F' ρ σ₁ (Nat.add_zero _) hq h (hF.grow g₁)) fun ρ' σ' e₂ h₂ => ?_
  exact ⟨ρ', σ', hx.trans e₂, h₂⟩
theorem xCmp_ok (H : PerOk n R) {c' : Cx} {y : Str} {ifs : List Expr} {elt : Expr} {F' : PEnv} {v : PV} {ρ : Rho} {σ₁ : Sto} (hF : Has ρ σ₁ F') : TurnC (recN T3 n) c' (upd ρ y v) ifs elt σ₁ (xCmp R.p c' y ifs elt F' v) := by
  have hF₂ : Has (upd ρ y v) σ₁ (setF F' y (.sc v)) := hF.setF' (show (upd ρ y v).lookup y = some v by rw [lookup_upd, if_pos rfl])
  cases hx : xCmp R.p c' y ifs elt F' v with
  | none => trivial
  | some o =>
    refine bindE hx fun b hb h => ite2 h (fun e h => mapE h fun p hp h' => ?_) fun e h => ?_
    · subst h'
      rw [e] at hb
      intro σ g
      refine elEA (ptb_ok H.tr hF₂ hb σ g) fun τ₁ u₁ k₁ => ?_
      refine elEA (H.ev _ _ _ _ (scO_some hp) _ _ hF₂ τ₁ (g.trans k₁)) fun τ₂ u₂ k₂ => ?_
      exact ⟨τ₁, τ₂, u₁, k₁, u₂, k₂⟩
    · cases h
      intro σ g
      have : b = false := Bool.eq_false_iff.mpr e
      rw [this] at hb
      exact ptb_ok H.tr hF₂ hb σ g
theorem xCom_ok (H : PerOk n R) {s : Stmt} {F' : PEnv} {x y : Str} {elt iter : Expr} {ifs : List Expr} {scope : Scope} (hs : cmpS s = some (x, elt, y, iter, ifs, scope)) (h : xCom R.p c F x elt y iter ifs scope = some F') (hF : HasD ρ σ₀ F) : ∃ ρ' σ', (recN T3 (n + 1)).ex c ρ σ₀ s = some (.next, ρ', σ') ∧ HasD ρ' σ' F' := by
  refine iteE h fun hk zz => ?_
  clear h
  refine bindE zz fun r hr h => ?_
  clear zz
  refine iteE h fun hq zz => ?_
  clear h
  refine mapE zz fun ys hys h => ?_
  clear zz
  subst h
  refine elEA (prng_ok H.ev hF.has hr σ₀ .rfl') fun σ₁ e₁ g₁ => ?_
  have hF₁ := (hF.grow g₁).has.free scope
  obtain ⟨σ₂, e₂, g₂⟩ := compS_ok (σ₀ := σ₁) (Q := recN T3 n) (c := ⟨relab scope c.sc, false⟩) (x := y) (ifs := ifs) (elt := elt) (ρ := freeOf scope ρ) (S := .rng r.1 r.2.1 r.2.2) (v := fun i => .int (r.1 + i * r.2.1)) (q := r.2.2)
    (fun i σ hi _ => nx_rng hi) (fun σ _ => nx_rng_end (Nat.lt_irrefl _)) (fun i _ => xCmp_ok H hF₁) r.2.2 0 1000 ys (Nat.add_zero _) (Nat.lt_trans hq (by decide)) hys σ₁ .rfl'
  have g03 := g₁.trans g₂
  exact ⟨_, _, ex_comp hs hk.1 hk.2.1 hk.2.2 trivial e₁ e₂, hF.setL g03.len (g03.trans (.mk _)) get_new⟩
theorem xTry_ok (H : PerOk n R) {s : Stmt} {F' : PEnv} {x f : Str} {args : List Expr} {hd : List ExceptHandler} (hs : sview s = .tries x f args hd) (h : xTry R.p c F x f args hd = some F') (hF : HasD ρ σ₀ F) : ∃ ρ' σ', (recN T3 (n + 1)).ex c ρ σ₀ s = some (.next, ρ', σ') ∧ HasD ρ' σ' F' := by
  refine bindE h fun g hg zz => ?_
  clear h
  refine iteE zz fun hk h => ?_
  clear zz
  refine bindE h fun vs hvs zz => ?_
  clear h
  rename _ => h
  refine elEA ((pevs_ok H.ev hF.has hvs).evs σ₀ .rfl') fun σ₁ e₁ g₁ => ?_
  have hx := ex_tr hs hg hk e₁
  cases hcls : (T3.exc f).bind fun g => g vs with
  | some cls =>
    rw [hcls] at h hx
    refine bindE h fun p hp zz => ?_
    clear h
    refine iteE zz fun hky h => ?_
    clear zz
    cases h
    exact ⟨_, _, hx.trans ((bind_of hp).trans (if_pos hky)), (hF.grow g₁).setS⟩
  | none =>
    rw [hcls] at h hx
    refine mapE h fun p hp zz => ?_
    clear h
    rename _ => h
    subst h
    exact ⟨_, _, hx.trans (bnd_of (sp_any hg (sc1_some hp) σ₁)), (hF.grow g₁).setS⟩
theorem pex_ok (H : PerOk n R) : ExOk (n + 1) { R.p with ex := pexStep R } := by
  intro c F s F' h ρ σ hF
  replace h : pexV R c F (sview s) = some F' := h
  cases hv : sview s with
  | app e =>
    rw [hv] at h
    exact bindE h fun r hr h => xApp_ok H (show (sview s).ap = some r by rw [hv]; exact hr) h hF
  | asg x e => rw [hv] at h; exact xAsg_ok H hv h hF
  | ifs t b o =>
    rw [hv] at h
    refine bindE h fun d ht zz => ?_
    clear h
    rename _ => h
    refine elEA (H.tr _ _ _ _ ht ρ σ hF.has σ .rfl') fun σ₁ e₁ g₁ => ?_
    refine elEEA (pexs_ok H.ex h _ _ (hF.grow g₁)) fun ρ' σ' e₂ h₂ => ?_
    exact ⟨ρ', σ', (ex_of hv).trans ((bnd_of e₁).trans e₂), h₂⟩
  | fors t i b => rw [hv] at h; exact xFor_ok H hv h hF
  | asgC x elt tgt iter fs scope =>
    rw [hv] at h
    exact bindE h fun y hy h => xCom_ok H (show (sview s).cs = _ by rw [hv]; exact congrArg (Option.map fun y => (x, elt, y, iter, fs, scope)) hy) h hF
  | two x y a b =>
    rw [hv] at h
    refine iteE h fun hk zz => ?_
    clear h
    rename _ => h
    cases h
    exact ⟨_, _, ex_tup hv hk, hF.setS.setS⟩
  | tries x f args hs => rw [hv] at h; exact xTry_ok H hv h hF
  | _ => rw [hv] at h; exact noE h
theorem recP_ok : ∀ n, PerOk n (recP n)
  | 0 => ⟨(fun _ _ _ _ h => nomatch h), (fun _ _ _ _ h => nomatch h), (fun _ _ _ _ h => nomatch h), (fun _ _ _ _ h => nomatch h), fun k h => absurd h (Nat.succ_ne_zero _).symm, fun k h => absurd h (Nat.succ_ne_zero _).symm, rfl⟩
  | n + 1 => by
    have H := recP_ok n
    refine ⟨pev_ok H.ev H.tr, ptr_ok H.ev H.tr, pes_ok H.ev H.es, pex_ok H, ?_, ?_, rfl⟩
    · intro k hk
      obtain rfl : n = k := by omega
      exact H.ev
    · intro k hk
      obtain rfl : n = k + 1 := by omega
      exact H.q k rfl
end
theorem by_value {n : Nat} {c : Cx} {F F' : PEnv} {ss : List Stmt} {ρ : Rho} {σ : Sto} (h : pexs (recP n).p c F ss = some F') (hF : HasD ρ σ F) : ∃ ρ' σ', exs (recN T3 n) c ρ σ ss = some (.next, ρ', σ') ∧ HasD ρ' σ' F' := pexs_ok (recP_ok n).ex h ρ σ hF
end Mine.Internal
end
section
set_option maxRecDepth 100000
set_option backward.match.sparseCases false
namespace Mine.Internal
open PySem PyProof.Rows
noncomputable def sgnStep (us : List Int) (x : Int) : List Int := us ++ [if us.count (40 + x % 2) = 4 then 81 - (40 + x % 2) else 40 + x % 2]
noncomputable def sgn (N : List Int) : List Int := N.foldl sgnStep []
noncomputable def hts (S : List Int) : List Int := S.foldl (fun h s => h ++ [h.getLastD 0 + 81 - 2 * s]) [0]
noncomputable def byS (S : List Int) : List UInt8 := S.map fun i => UInt8.ofNat i.toNat
noncomputable def naS (S : List Int) : List Nat := S.map Int.toNat
noncomputable def rows : List (List Int) := [
  [40, 40, 40, 40, 41, 41, 41, 41], [40, 40, 40, 41, 40, 41, 41, 41], [40, 40, 40, 41, 41, 40, 41, 41], [40, 40, 40, 41, 41, 41, 40, 41], [40, 40, 40, 41, 41, 41, 41, 40],
  [40, 40, 41, 40, 40, 41, 41, 41], [40, 40, 41, 40, 41, 40, 41, 41], [40, 40, 41, 40, 41, 41, 40, 41], [40, 40, 41, 40, 41, 41, 41, 40], [40, 40, 41, 41, 40, 40, 41, 41],
  [40, 40, 41, 41, 40, 41, 40, 41], [40, 40, 41, 41, 40, 41, 41, 40], [40, 40, 41, 41, 41, 40, 40, 41], [40, 40, 41, 41, 41, 40, 41, 40], [40, 40, 41, 41, 41, 41, 40, 40],
  [40, 41, 40, 40, 40, 41, 41, 41], [40, 41, 40, 40, 41, 40, 41, 41], [40, 41, 40, 40, 41, 41, 40, 41], [40, 41, 40, 40, 41, 41, 41, 40], [40, 41, 40, 41, 40, 40, 41, 41],
  [40, 41, 40, 41, 40, 41, 40, 41], [40, 41, 40, 41, 40, 41, 41, 40], [40, 41, 40, 41, 41, 40, 40, 41], [40, 41, 40, 41, 41, 40, 41, 40], [40, 41, 40, 41, 41, 41, 40, 40],
  [40, 41, 41, 40, 40, 40, 41, 41], [40, 41, 41, 40, 40, 41, 40, 41], [40, 41, 41, 40, 40, 41, 41, 40], [40, 41, 41, 40, 41, 40, 40, 41], [40, 41, 41, 40, 41, 40, 41, 40],
  [40, 41, 41, 40, 41, 41, 40, 40], [40, 41, 41, 41, 40, 40, 40, 41], [40, 41, 41, 41, 40, 40, 41, 40], [40, 41, 41, 41, 40, 41, 40, 40], [40, 41, 41, 41, 41, 40, 40, 40],
  [41, 40, 40, 40, 40, 41, 41, 41], [41, 40, 40, 40, 41, 40, 41, 41], [41, 40, 40, 40, 41, 41, 40, 41], [41, 40, 40, 40, 41, 41, 41, 40], [41, 40, 40, 41, 40, 40, 41, 41],
  [41, 40, 40, 41, 40, 41, 40, 41], [41, 40, 40, 41, 40, 41, 41, 40], [41, 40, 40, 41, 41, 40, 40, 41], [41, 40, 40, 41, 41, 40, 41, 40], [41, 40, 40, 41, 41, 41, 40, 40],
  [41, 40, 41, 40, 40, 40, 41, 41], [41, 40, 41, 40, 40, 41, 40, 41], [41, 40, 41, 40, 40, 41, 41, 40], [41, 40, 41, 40, 41, 40, 40, 41], [41, 40, 41, 40, 41, 40, 41, 40],
  [41, 40, 41, 40, 41, 41, 40, 40], [41, 40, 41, 41, 40, 40, 40, 41], [41, 40, 41, 41, 40, 40, 41, 40], [41, 40, 41, 41, 40, 41, 40, 40], [41, 40, 41, 41, 41, 40, 40, 40],
  [41, 41, 40, 40, 40, 40, 41, 41], [41, 41, 40, 40, 40, 41, 40, 41], [41, 41, 40, 40, 40, 41, 41, 40], [41, 41, 40, 40, 41, 40, 40, 41], [41, 41, 40, 40, 41, 40, 41, 40],
  [41, 41, 40, 40, 41, 41, 40, 40], [41, 41, 40, 41, 40, 40, 40, 41], [41, 41, 40, 41, 40, 40, 41, 40], [41, 41, 40, 41, 40, 41, 40, 40], [41, 41, 40, 41, 41, 40, 40, 40],
  [41, 41, 41, 40, 40, 40, 40, 41], [41, 41, 41, 40, 40, 40, 41, 40], [41, 41, 41, 40, 40, 41, 40, 40], [41, 41, 41, 40, 41, 40, 40, 40], [41, 41, 41, 41, 40, 40, 40, 40]]
noncomputable def vecs : Nat → List (List Int)
  | 0 => [[]]
  | n + 1 => (vecs n).flatMap fun v => [0 :: v, 1 :: v]
theorem vecs_rows : ((vecs 8).all fun v => decide (sgn v ∈ rows)) = true := by kernel_rfl
theorem mem_vecs : ∀ N : List Int, N.map (· % 2) ∈ vecs N.length
  | [] => by simp [vecs]
  | x :: r => by
    show _ ∈ (vecs r.length).flatMap fun v => [0 :: v, 1 :: v]
    rw [List.mem_flatMap]
    refine ⟨r.map (· % 2), mem_vecs r, ?_⟩
    have : x % 2 = 0 ∨ x % 2 = 1 := by omega
    rw [List.map_cons]
    rcases this with h | h <;> rw [h] <;> simp
theorem sgn_mod (N us : List Int) : (N.map (· % 2)).foldl sgnStep us = N.foldl sgnStep us := by
  induction N generalizing us with
  | nil => rfl
  | cons x r ih =>
    rw [List.map_cons, List.foldl_cons, List.foldl_cons, ih]
    have : sgnStep us (x % 2) = sgnStep us x := by unfold sgnStep; rw [show x % 2 % 2 = x % 2 from by omega]
    rw [this]
theorem sgn_rows {N : List Int} (h : N.length = 8) : sgn N ∈ rows := by
  have h1 := mem_vecs N
  rw [h] at h1
  have h2 := List.all_eq_true.mp vecs_rows _ h1
  rw [decide_eq_true_iff] at h2
  have h3 : sgn (N.map (· % 2)) = sgn N := sgn_mod N []
  rwa [h3] at h2
noncomputable def nNum : Str := Str.ofString "numbers"
noncomputable def nSig : Str := Str.ofString "signs"
noncomputable def nRow : Str := Str.ofString "row"
noncomputable def nHts : Str := Str.ofString "heights"
noncomputable def nLow : Str := Str.ofString "low"
noncomputable def nTops : Str := Str.ofString "tops"
noncomputable def nClo : Str := Str.ofString "closes"
noncomputable def nLeft : Str := Str.ofString "left"
noncomputable def nRight : Str := Str.ofString "right"
noncomputable def envB (N : List PV) (S : List Int) : PEnv := [(nHts, .ls ((hts S).map .int)), (nRow, .sc (.bytes (byS S))), (nSig, .ls (S.map .int)), (nNum, .ls N)]
noncomputable def condS (s : List Nat) (l r : Nat) (tops : List Int) (closes : List Bool) (low : List PV) : Bool :=
  decide (l ≤ r) && decide (r ≤ 8) && !tops.isEmpty && decide (tops.length ≤ 9) && (check s == low.isEmpty) && (check (s.take l ++ ((s.take r).drop l).reverse ++ s.drop r) == closes.contains true) &&
  tops.all fun t => decide (0 ≤ t) && decide (t ≤ 8) && check ((s.take t.toNat).reverse ++ (s.drop t.toNat).reverse) && (check ((s.take t.toNat).reverse ++ (s.drop t.toNat).reverse ++ s) == low.isEmpty)
noncomputable def lkI (F : PEnv) (x : Str) : Option Int := (scO (F.lookup x)).bind asInt
noncomputable def lkL {α : Type} (g : List PV → Option α) (F : PEnv) (x : Str) : Option α := ((F.lookup x).bind DV.asL).bind g
noncomputable def chkO (S : List Int) (F : PEnv) : Option Bool := (lkI F nLeft).bind fun l => (lkI F nRight).bind fun r => (lkL pvInts F nTops).bind fun tops => (lkL pvBools F nClo).bind fun closes => (lkL pvInts F nLow).bind fun low =>
  some (decide (0 ≤ l) && decide (0 ≤ r) && decide (low.length ≤ 9) && condS (naS S) l.toNat r.toNat tops closes (low.map .int))
noncomputable def chk (S : List Int) (F : PEnv) : Bool := chkO S F == some true
theorem lkI_ok {F : PEnv} {x : Str} {i : Int} (h : lkI F x = some i) : F.lookup x = some (.sc (.int i)) := bindE h fun p hp hi => by rw [scO_some hp, asInt_ok hi]
theorem lkL_ok {α : Type} {g : List PV → Option α} {F : PEnv} {x : Str} {a : α} (h : lkL g F x = some a) : ∃ vs, F.lookup x = some (.ls vs) ∧ g vs = some a := bindE h fun vs hv hg => bindE hv fun d hd hl => ⟨vs, by rw [hd, asL_ok hl], hg⟩
theorem lkInts {F : PEnv} {x : Str} {is : List Int} (h : lkL pvInts F x = some is) : F.lookup x = some (.ls (is.map .int)) := by
  refine elEA (lkL_ok h) fun vs h1 h2 => ?_
  rw [h1, pvInts_map h2]
theorem lkBools {F : PEnv} {x : Str} {bs : List Bool} (h : lkL pvBools F x = some bs) : F.lookup x = some (.ls (bs.map .bool)) := by
  refine elEA (lkL_ok h) fun vs h1 h2 => ?_
  rw [h1, pvBools_map h2]
noncomputable def outB (N : List PV) (S : List Int) : Option (Option DV × Option DV × Option DV × Bool) := (pexs (recP 14).p lC (envB N S) ((lB.drop 6).take 10)).map fun F => (F.lookup nNum, F.lookup nSig, F.lookup nRow, chk S F)
noncomputable def wantB (N : List PV) (S : List Int) : Option (Option DV × Option DV × Option DV × Bool) := some (some (.ls N), some (.ls (S.map .int)), some (.sc (.bytes (byS S))), true)
noncomputable def chunk (k : Nat) : List (List Int) := (rows.drop (5 * k)).take 5
end Mine.Internal
end
section
set_option maxRecDepth 100000
set_option backward.match.sparseCases false
namespace Mine.Internal
open PySem PyProof.Rows
theorem ch_0 (N : List PV) : (chunk 0).map (outB N) = (chunk 0).map (wantB N) := by kernel_rfl
theorem ch_1 (N : List PV) : (chunk 1).map (outB N) = (chunk 1).map (wantB N) := by kernel_rfl
theorem ch_2 (N : List PV) : (chunk 2).map (outB N) = (chunk 2).map (wantB N) := by kernel_rfl
theorem ch_3 (N : List PV) : (chunk 3).map (outB N) = (chunk 3).map (wantB N) := by kernel_rfl
theorem ch_4 (N : List PV) : (chunk 4).map (outB N) = (chunk 4).map (wantB N) := by kernel_rfl
theorem ch_5 (N : List PV) : (chunk 5).map (outB N) = (chunk 5).map (wantB N) := by kernel_rfl
theorem ch_6 (N : List PV) : (chunk 6).map (outB N) = (chunk 6).map (wantB N) := by kernel_rfl
theorem ch_7 (N : List PV) : (chunk 7).map (outB N) = (chunk 7).map (wantB N) := by kernel_rfl
theorem ch_8 (N : List PV) : (chunk 8).map (outB N) = (chunk 8).map (wantB N) := by kernel_rfl
theorem ch_9 (N : List PV) : (chunk 9).map (outB N) = (chunk 9).map (wantB N) := by kernel_rfl
theorem ch_10 (N : List PV) : (chunk 10).map (outB N) = (chunk 10).map (wantB N) := by kernel_rfl
theorem ch_11 (N : List PV) : (chunk 11).map (outB N) = (chunk 11).map (wantB N) := by kernel_rfl
theorem ch_12 (N : List PV) : (chunk 12).map (outB N) = (chunk 12).map (wantB N) := by kernel_rfl
theorem ch_13 (N : List PV) : (chunk 13).map (outB N) = (chunk 13).map (wantB N) := by kernel_rfl
theorem rows_chunks : rows = (List.range 14).flatMap chunk := by kernel_rfl
theorem rows_all {S : List Int} (h : S ∈ rows) (N : List PV) : outB N S = wantB N S := by
  rw [rows_chunks, List.mem_flatMap] at h
  obtain ⟨k, hk, hS⟩ := h
  rw [List.mem_range] at hk
  have key : (chunk k).map (outB N) = (chunk k).map (wantB N) := by
    match k, hk with
    | 0, _ => exact ch_0 N
    | 1, _ => exact ch_1 N
    | 2, _ => exact ch_2 N
    | 3, _ => exact ch_3 N
    | 4, _ => exact ch_4 N
    | 5, _ => exact ch_5 N
    | 6, _ => exact ch_6 N
    | 7, _ => exact ch_7 N
    | 8, _ => exact ch_8 N
    | 9, _ => exact ch_9 N
    | 10, _ => exact ch_10 N
    | 11, _ => exact ch_11 N
    | 12, _ => exact ch_12 N
    | 13, _ => exact ch_13 N
  exact List.map_inj_left.mp key S hS
end Mine.Internal
end
section
set_option maxRecDepth 100000
set_option backward.match.sparseCases false
namespace Mine.Internal
open PySem PyProof.Rows
section
variable {n : Nat} {c : Cx} {ρ : Rho} {σ₀ : Sto} {e : Expr} {xs ys vs : List PV}
noncomputable def SV.cz : SV → Option (Str × Expr × Str × Str × Expr × Scope)
  | .asgC x elt tgt iter fs scope => if fs.isEmpty = true then (tview tgt).p2.map fun y => (x, elt, y.1, y.2, iter, scope) else none
  | _ => none
noncomputable def cmZ (s : Stmt) : Option (Str × Expr × Str × Str × Expr × Scope) := (sview s).cz
theorem cz_ok {v : SV} {x y z : Str} {elt iter : Expr} {scope : Scope} (h : v.cz = some (x, elt, y, z, iter, scope)) : ∃ tgt, v = .asgC x elt tgt iter [] scope ∧ tview tgt = .two y z := by
  cases v with
  | asgC x elt tgt iter ifs scope =>
    refine iteE h fun hf zz => ?_
    clear h
    refine mapE zz fun q hq e => ?_
    clear zz
    cases e
    rw [List.isEmpty_iff.mp hf]
    exact ⟨tgt, rfl, twoN_ok hq⟩
  | _ => cases h
theorem ex_compZ {s : Stmt} {x y z : Str} {elt iter : Expr} {scope : Scope} {m k : Nat} {σ σ₁ σ₂ : Sto} (h : cmZ s = some (x, elt, y, z, iter, scope)) (hk : kindOk c.sc x = true) (hcell : c.sc.names.lookup x = some NameKind.cell) (hs : scopeOk scope c.sc = true) (hy : scope.names.lookup y = some NameKind.local) (hz : scope.names.lookup z = some NameKind.local) (hne : y ≠ z)
    (hsrc : src T3 (recN T3 n) c ρ σ iter = some (.zips m k, σ₁)) (hc : compZ (recN T3 n) ⟨relab scope c.sc, false⟩ y z elt (freeOf scope ρ) m k 100 0 σ₁ = some (vs, σ₂)) :
    (recN T3 (n + 1)).ex c ρ σ s = some (.next, upd ρ x (.ref σ₂.length), σ₂ ++ [.list vs]) := by
  refine elEA (cz_ok h) fun tgt hv ht => ?_
  have hT : compT (recN T3 n) c ρ σ₁ elt (tview tgt) [] scope (.zips m k) = some (vs, σ₂) := by
    refine ht.symm ▸ ?_
    exact (if_pos ⟨rfl, hy, hz, hne⟩).trans hc
  have hcomp : comp T3 (recN T3 n) c ρ σ elt tgt iter [] scope = some (.ref σ₂.length, σ₂ ++ [.list vs]) :=
    (if_pos hs).trans ((bnd_of hsrc).trans (congrArg (Option.map fun r : List PV × Sto => mk r.2 (.list r.1)) hT))
  exact (ex_of hv).trans ((if_pos ⟨hk, .inr hcell⟩).trans (bnd_of hcomp))
noncomputable def V.zp : V → Option (Expr × Expr)
  | .call f args => if f = Str.ofString "zip" then (two2 args).bind fun p => if isStar p.1 = false ∧ isStar p.2 = false then some p else none else none
  | _ => none
noncomputable def zpP (e : Expr) : Option (Expr × Expr) := (view e).zp
theorem zp_ok {v : V} {a b : Expr} (h : v.zp = some (a, b)) : v = .call (Str.ofString "zip") [a, b] ∧ isStar a = false ∧ isStar b = false := by
  cases v with
  | call f args =>
    refine iteE h fun hf zz => ?_
    clear h
    refine bindE zz fun p hp h => ?_
    clear zz
    refine iteE h fun hs zz => ?_
    clear h
    rename _ => h
    apply spE h; clear h
    rw [hf, two2_ok hp]
    exact ⟨rfl, hs⟩
  | _ => cases h
theorem src_zip {a b : Expr} {m k : Nat} {σ σ₁ σ₂ : Sto} (h : zpP e = some (a, b)) (hk : c.sc.names.lookup (Str.ofString "zip") = some NameKind.globalImplicit) (ha : (recN T3 n).ev c ρ σ a = some (.ref m, σ₁)) (hb : (recN T3 n).ev c ρ σ₁ b = some (.ref k, σ₂)) (hm : σ₂[m]? = some (.list xs)) (hk' : σ₂[k]? = some (.list ys)) (hne : m ≠ k) (hl : xs.length ≤ ys.length) :
    src T3 (recN T3 n) c ρ σ e = some (.zips m k, σ₂) := by
  refine elAA (zp_ok h) fun hv hsa hsb => ?_
  have hF : srcF T3 (Str.ofString "zip") [.ref m, .ref k] σ₂ = some (.zips m k) := by
    unfold srcF
    rw [if_neg (by decide +kernel), if_pos rfl]
    exact (bind_of (listAt_of hm)).trans ((bind_of (listAt_of hk')).trans (if_pos ⟨hne, hl⟩))
  exact (src_of hv).trans ((if_pos hk).trans ((bnd_of (evs_cons hsa ha (evs_cons hsb hb evs_nil))).trans (congrArg (Option.map fun s => (s, σ₂)) hF)))
theorem compZ_ok {x y : Str} {elt : Expr} {m k : Nat} {as bs : List Int} (hm : σ₀[m]? = some (.list (as.map .int))) (hk : σ₀[k]? = some (.list (bs.map .int))) (hl : as.length ≤ bs.length)
    (he : ∀ a b : Int, EvS n c (upd (upd ρ x (.int a)) y (.int b)) σ₀ elt (.int (a + b))) : ∀ (j i K : Nat), j + i = as.length → j < K → ∀ σ, G σ₀ σ → ∃ N : List Int, N.length = j ∧ ∃ σ', compZ (recN T3 n) c x y elt ρ m k K i σ = some (N.map .int, σ') ∧ G σ σ'
  | 0, i, K, hi, hK, σ, g => by
    obtain ⟨K', rfl⟩ : ∃ K', K = K' + 1 := ⟨K - 1, by omega⟩
    refine ⟨[], rfl, σ, (bind_of (listAt_of (g.get hm))).trans ((bind_of (listAt_of (g.get hk))).trans ?_), .rfl'⟩
    rw [List.getElem?_eq_none (show (as.map PV.int).length ≤ i by rw [List.length_map]; omega)]
    rfl
  | j + 1, i, K, hi, hK, σ, g => by
    obtain ⟨K', rfl⟩ : ∃ K', K = K' + 1 := ⟨K - 1, by omega⟩
    refine elEA (he (as[i]'(by omega)) (bs[i]'(by omega)) σ g) fun σ₁ e₁ g₁ => ?_
    refine elEAEA (compZ_ok hm hk hl he j (i + 1) K' (by omega) (by omega) σ₁ (g.trans g₁)) fun N hN σ₂ e₂ g₂ => ?_
    have ea : (as.map PV.int)[i]? = some (.int (as[i]'(by omega))) := by rw [List.getElem?_map, List.getElem?_eq_getElem (show i < as.length by omega)]; rfl
    have eb : (bs.map PV.int)[i]? = some (.int (bs[i]'(by omega))) := by rw [List.getElem?_map, List.getElem?_eq_getElem (show i < bs.length by omega)]; rfl
    refine ⟨(as[i]'(by omega) + bs[i]'(by omega)) :: N, by rw [List.length_cons, hN], σ₂, (bind_of (listAt_of (g.get hm))).trans ((bind_of (listAt_of (g.get hk))).trans ?_), g₁.trans g₂⟩
    rw [ea]
    exact (bind_of eb).trans ((bnd_of e₁).trans (bnd_of e₂))
theorem l_xl {ns : List Int} {j : Int} {lo hi : Option Expr} (h : view e = .slice (kd e 0) lo hi) (hlo : lo = none) (hhi : hi = some (kd e 2)) (hv : EvS n c ρ σ₀ (kd e 0) (.xl ns)) (hj : EvS n c ρ σ₀ (kd e 2) (.int j)) (h0 : 0 ≤ j) (hn : ns.length ≤ lim) : EvL (n + 1) c ρ σ₀ e ((ns.take j.toNat).map .int) := fun σ g => by
  subst hlo hhi
  refine elEA (hv σ g) fun σ₁ e₁ g₁ => ?_
  refine elEA (hj σ₁ (g.trans g₁)) fun σ₂ e₂ g₂ => ?_
  have hq : slc (.xl ns) none (some j) false σ₂ = some (.ref σ₂.length, σ₂ ++ [.list ((ns.take j.toNat).map .int)]) := (if_pos (by rw [ok_hi h0]; rfl)).trans (if_pos ⟨hn, rfl⟩)
  exact ⟨σ₂ ++ [.list ((ns.take j.toNat).map .int)], σ₂.length, (ev_of h).trans ((bnd_of e₁).trans ((bnd_of (show optInt (recN T3 n) c ρ σ₁ none = some (none, σ₁) from rfl)).trans ((bnd_of (opt_some e₂)).trans hq))), (g₁.trans g₂).trans (.mk _), get_new⟩
theorem l_dsp {us : List PV} (h : dsp e = some us) : EvL (n + 2) c ρ σ₀ e us := fun σ _ => ⟨σ ++ [.list us], σ.length, dsp_ev h σ, .mk _, get_new⟩
end
noncomputable def cz0 := (cmZ (nth lB 0)).getD (default, default, default, default, default, default)
noncomputable def zp0 := (zpP cz0.2.2.2.2.1).getD (default, default)
theorem run0 {ns : List Int} (hn : ns.length ≤ 63) : ∃ N : List Int, N.length = 8 ∧ ∃ m σ₁, (recN T3 14).ex lC [(Str.ofString "script", .xl ns)] [] (nth lB 0) = some (.next, upd [(Str.ofString "script", .xl ns)] nNum (.ref m), σ₁) ∧ σ₁[m]? = some (.list (N.map .int)) := by
  have h0 : cmZ (nth lB 0) = some (cz0.1, cz0.2.1, cz0.2.2.1, cz0.2.2.2.1, cz0.2.2.2.2.1, cz0.2.2.2.2.2) := by kernel_rfl
  have hz : zpP cz0.2.2.2.2.1 = some (zp0.1, zp0.2) := by kernel_rfl
  have ha : EvL 13 lC [(Str.ofString "script", .xl ns)] [] zp0.1 ([3, 10, 6, 15, 5, 12, 9, 0].map .int) := l_dsp (by kernel_rfl)
  have hb : EvL 13 lC [(Str.ofString "script", .xl ns)] [] zp0.2 ((ns.take 8).map .int ++ List.replicate 8 (.int 0)) :=
    l_add (by kernel_rfl)
      (l_xl (j := 8) (lo := none) (hi := some (kd (kd zp0.2 0) 2)) (by kernel_rfl) rfl rfl (s_nm (x := Str.ofString "script") (by kernel_rfl) rfl) (s_k (by kernel_rfl)) (by decide) (by unfold lim; omega))
      (l_rep (i := 8) (q := .int 0) (by kernel_rfl) (l_dsp (by kernel_rfl)) (s_k (by kernel_rfl)) (by decide))
      (by rw [List.length_map, List.length_take, List.length_replicate]; unfold lim; omega)
  refine elEEAA (ha [] .rfl') fun σ₁ m₁ e₁ g₁ i₁ => ?_
  refine elEEAA (hb σ₁ g₁) fun σ₂ m₂ e₂ g₂ i₂ => ?_
  have hys : (ns.take 8).map PV.int ++ List.replicate 8 (.int 0) = (ns.take 8 ++ List.replicate 8 0).map .int := by rw [List.map_append, List.map_replicate]
  have hne : m₁ ≠ m₂ := by
    rintro rfl
    have := g₂.get i₁
    rw [i₂] at this
    cases hns : ns with
    | nil => rw [hns] at this; exact absurd this (by decide)
    | cons a r =>
      rw [hns, Option.some.injEq] at this
      injection this with this
      have := congrArg List.length this
      simp at this
  have hsrc : src T3 (recN T3 13) lC [(Str.ofString "script", .xl ns)] [] cz0.2.2.2.2.1 = some (.zips m₁ m₂, σ₂) :=
    src_zip hz (by kernel_rfl) e₁ e₂ (g₂.get i₁) i₂ hne (by simp)
  obtain ⟨N, hN, σ₃, e₃, g₃⟩ := compZ_ok (n := 13) (c := ⟨relab cz0.2.2.2.2.2 lC.sc, false⟩) (ρ := freeOf cz0.2.2.2.2.2 [(Str.ofString "script", .xl ns)]) (σ₀ := σ₂) (x := cz0.2.2.1) (y := cz0.2.2.2.1) (elt := cz0.2.1) (m := m₁) (k := m₂) (as := [3, 10, 6, 15, 5, 12, 9, 0]) (bs := ns.take 8 ++ List.replicate 8 0)
    (g₂.get i₁) (by rw [← hys]; exact i₂) (by simp) (fun a b => s_bin (a := .int a) (b := .int b) (op := .Add) (by kernel_rfl)
      (s_nm (x := cz0.2.2.1) (by kernel_rfl) (by rw [lookup_upd, if_neg (by decide +kernel), lookup_upd, if_pos rfl]))
      (s_nm (x := cz0.2.2.2.1) (by kernel_rfl) (by rw [lookup_upd, if_pos rfl])) (fun _ => rfl)) 8 0 100 rfl (by omega) σ₂ .rfl'
  refine ⟨N, hN, σ₃.length, σ₃ ++ [.list (N.map .int)], ?_, get_new⟩
  exact ex_compZ h0 (by kernel_rfl) (by kernel_rfl) (by kernel_rfl) (by kernel_rfl) (by kernel_rfl) (by decide +kernel) hsrc e₃
end Mine.Internal
end
section
set_option maxRecDepth 100000
set_option backward.match.sparseCases false
namespace Mine.Internal
open PySem PyProof.Rows
theorem HasD.sub {ρ : Rho} {σ : Sto} {F F' : PEnv} (h : HasD ρ σ F) (hs : ∀ f ∈ F', f ∈ F) : HasD ρ σ F' := ⟨h.has.sub hs, fun x y vs us m hx hy => h.sep x y vs us m (hs _ hx) (hs _ hy)⟩
theorem HasD.ghost {ρ : Rho} {σ : Sto} {F : PEnv} (h : HasD ρ σ F) {x : Str} {m : Nat} (hx : ρ.lookup x = some (.ref m)) : HasD ρ σ (F ++ [(x, .sc (.ref m))]) := by
  refine ⟨fun f hf => ?_, fun y z vs us k hy hz => ?_⟩
  · rcases List.mem_append.mp hf with hf | hf
    · exact h.has f hf
    · rcases List.mem_singleton.mp hf with rfl
      exact hx
  · have e : ∀ y vs, (y, DV.ls vs) ∈ F ++ [(x, .sc (.ref m))] → (y, DV.ls vs) ∈ F := by
      intro y vs hy
      rcases List.mem_append.mp hy with hy | hy
      · exact hy
      · have := List.mem_singleton.mp hy
        cases this
    exact h.sep y z vs us k (e _ _ hy) (e _ _ hz)
theorem at_ghost {ρ : Rho} {σ : Sto} {F : PEnv} (h : HasD ρ σ F) {x : Str} {m : Nat} {vs : List PV} (h1 : (x, DV.ls vs) ∈ F) (h2 : (x, DV.sc (.ref m)) ∈ F) : σ[m]? = some (.list vs) := by
  refine elEA (h.has _ h1) fun k l1 l2 => ?_
  have l3 : ρ.lookup x = some (.ref m) := h.has _ h2
  rw [l1] at l3
  cases l3
  exact l2
theorem exs_app {R : Rec} {c : Cx} : ∀ {a b : List Stmt} {ρ ρ₁ : Rho} {σ σ₁ : Sto}, exs R c ρ σ a = some (.next, ρ₁, σ₁) → exs R c ρ σ (a ++ b) = exs R c ρ₁ σ₁ b
  | [], b, ρ, ρ₁, σ, σ₁, h => by cases h; rfl
  | s :: r, b, ρ, ρ₁, σ, σ₁, h => bindE h fun x hx h => by
    obtain ⟨f, ρ₂, σ₂⟩ := x
    cases f with
    | next => exact (exs_next hx).trans (exs_app h)
    | ret v => cases h
noncomputable def nmP (e : Expr) : Option Str := (view e).nm
theorem src_name {n : Nat} {c : Cx} {ρ : Rho} {σ : Sto} {e : Expr} {x : Str} {m : Nat} {vs : List PV} (h : nmP e = some x) (hx : ρ.lookup x = some (.ref m)) (hm : σ[m]? = some (.list vs)) : src T3 (recN T3 (n + 1)) c ρ σ e = some (.lst m, σ) := by
  have hv := nm_ok h
  have he : (recN T3 (n + 1)).ev c ρ σ e = some (.ref m, σ) := (ev_of hv).trans (congrArg (Option.map fun v => (v, σ)) hx)
  exact (src_of hv).trans ((bnd_of he).trans ((bind_of (show asRef (.ref m) = some m from rfl)).trans (congrArg (Option.map fun _ => (Src.lst m, σ)) (listAt_of hm))))
theorem for_lst {J : Nat → Rho → Sto → Prop} {n q m : Nat} {c : Cx} {ρ : Rho} {σ : Sto} {s : Stmt} {x y : Str} {v : Nat → PV} (hs : (forP' s).isSome = true) (hi : nmP (forI s) = some x) (ht : oneN (forT s) = some y) (hk : kindOk c.sc y = true) (hq : q < 2000) (hx : ρ.lookup x = some (.ref m))
    (hl : ∀ i ρ σ, J i ρ σ → ∃ vs, σ[m]? = some (.list vs) ∧ vs.length = q ∧ ∀ i, i < q → vs[i]? = some (v i)) (h0 : J 0 ρ σ)
    (hturn : ∀ i ρ σ, i < q → J i ρ σ → ∃ ρ' σ', exs (recN T3 (n + 1)) c (upd ρ y (v i)) σ (forB s) = some (.next, ρ', σ') ∧ J (i + 1) ρ' σ') :
    ∃ ρ' σ', (recN T3 (n + 2)).ex c ρ σ s = some (.next, ρ', σ') ∧ J q ρ' σ' := by
  refine elEAA (hl _ _ _ h0) fun vs h1 _ _ => ?_
  rw [ex_forS hs ht hk trivial (src_name hi hx h1)]
  refine forS_inv (v := v) (fun i ρ σ hi hJ => ?_) (fun ρ σ hJ => ?_) hturn q 0 2000 ρ σ (by omega) (by omega) h0
  · refine elEAA (hl _ _ _ hJ) fun us h2 h3 h4 => ?_
    refine (?_ : (listAt σ (.ref m)).map (fun vs => vs[i]?) = _)
    rw [listAt_of h2, Option.map_some, h4 i hi]
  · refine elEAA (hl _ _ _ hJ) fun us h2 h3 h4 => ?_
    refine (?_ : (listAt σ (.ref m)).map (fun vs => vs[q]?) = _)
    rw [listAt_of h2, Option.map_some, List.getElem?_eq_none (by omega)]
noncomputable def nX : Str := Str.ofString "x"
noncomputable def nSign : Str := Str.ofString "sign"
noncomputable def env2 (m : Nat) (N : List PV) (us : List Int) : PEnv := [(nSig, .ls (us.map .int)), (nNum, .ls N), (nNum, .sc (.ref m))]
theorem sgnStep_len (us : List Int) (x : Int) : (sgnStep us x).length = us.length + 1 := by simp [sgnStep]
theorem sgn_len : ∀ (N us : List Int), (N.foldl sgnStep us).length = us.length + N.length
  | [], us => by simp
  | x :: r, us => by rw [List.foldl_cons, sgn_len r, sgnStep_len, List.length_cons]; omega
theorem turn2 {m : Nat} {N : List PV} {us : List Int} {a : Int} {ρ : Rho} {σ : Sto} (hu : us.length ≤ 8) (hF : HasD ρ σ (env2 m N us)) : ∃ ρ' σ', exs (recN T3 13) lC (upd ρ nX (.int a)) σ (forB (nth lB 2)) = some (.next, ρ', σ') ∧ HasD ρ' σ' (env2 m N (sgnStep us a)) := by
  have hb : forB (nth lB 2) = [nth (forB (nth lB 2)) 0] ++ [nth (forB (nth lB 2)) 1] := by kernel_rfl
  have h0 : pexs (recP 13).p lC (setF (env2 m N us) nX (.sc (.int a))) [nth (forB (nth lB 2)) 0] = some ((nSign, .sc (.int (40 + a % 2))) :: (nX, .sc (.int a)) :: env2 m N us) := by kernel_rfl
  obtain ⟨ρ₁, σ₁, e₁, hF₁⟩ := by_value h0 (hF.setS (x := nX) (p := .int a))
  rw [hb, exs_app e₁, exs_one]
  have hS : (nSig, DV.ls (us.map .int)) ∈ ((nSign, .sc (.int (40 + a % 2))) :: (nX, .sc (.int a)) :: env2 m N us : PEnv) := by simp [env2]
  refine elEA (hF₁.has _ hS) fun k l1 l2 => ?_
  have arg : EvS 11 lC ρ₁ σ₁ (appA (nth (forB (nth lB 2)) 1)) (.int (if us.count (40 + a % 2) = 4 then 81 - (40 + a % 2) else 40 + a % 2)) := by
    have vs : ∀ {n : Nat} {e : Expr}, view e = .name nSign → EvS (n + 1) lC ρ₁ σ₁ e (.int (40 + a % 2)) := fun h => hF₁.has.nmS nSign _ rfl h
    refine s_ite (u := ((us.count (40 + a % 2) : Nat) : Int) == 4) (by kernel_rfl)
      (t_cmp (op := .Eq) (a := .int (us.count (40 + a % 2) : Nat)) (b := .int 4) (by kernel_rfl)
        (s_count (is := us) (i := 40 + a % 2) (by kernel_rfl) (by kernel_rfl) (l_nm (x := nSig) (by kernel_rfl) l1 l2) (vs (by kernel_rfl)) (by unfold lim; omega)) (s_k (by kernel_rfl)) (fun _ => rfl)) (fun h => ?_) (fun h => ?_)
    · have h' : us.count (40 + a % 2) = 4 := by have := beq_iff_eq.mp h; omega
      rw [if_pos h']
      exact s_bin (op := .Sub) (a := .int 81) (b := .int (40 + a % 2)) (by kernel_rfl) (s_k (by kernel_rfl)) (vs (by kernel_rfl)) (fun _ => rfl)
    · have h' : us.count (40 + a % 2) ≠ 4 := by
        intro e
        rw [e] at h
        cases h
      rw [if_neg h']
      exact vs (by kernel_rfl)
  obtain ⟨σ₂, e₂, g₂⟩ := st_app (n := 10) (x := nSig) (by kernel_rfl) (by kernel_rfl) l1 arg l2 (by rw [List.length_map]; unfold lim; omega) σ₁ .rfl'
  refine ⟨ρ₁, _, e₂, ?_⟩
  have hF₂ := (hF₁.grow g₂).app (us := us.map .int ++ [.int (if us.count (40 + a % 2) = 4 then 81 - (40 + a % 2) else 40 + a % 2)]) hS l1 (g₂.get l2)
  have hset : setF ((nSign, .sc (.int (40 + a % 2))) :: (nX, .sc (.int a)) :: env2 m N us) nSig (.ls (us.map .int ++ [.int (if us.count (40 + a % 2) = 4 then 81 - (40 + a % 2) else 40 + a % 2)])) =
      [(nSig, .ls (us.map .int ++ [.int (if us.count (40 + a % 2) = 4 then 81 - (40 + a % 2) else 40 + a % 2)])), (nSign, .sc (.int (40 + a % 2))), (nX, .sc (.int a)), (nNum, .ls N), (nNum, .sc (.ref m))] := by kernel_rfl
  rw [hset] at hF₂
  refine hF₂.sub (fun f hf => ?_)
  have : (sgnStep us a).map PV.int = us.map .int ++ [.int (if us.count (40 + a % 2) = 4 then 81 - (40 + a % 2) else 40 + a % 2)] := by simp [sgnStep]
  unfold env2 at hf
  rw [this] at hf
  simp only [List.mem_cons] at hf ⊢
  rcases hf with h | h | h
  · exact .inl h
  · exact .inr (.inr (.inr (.inl h)))
  · exact .inr (.inr (.inr (.inr h)))
theorem run2 {m : Nat} {N : List Int} {ρ : Rho} {σ : Sto} (hN : N.length = 8) (hx : ρ.lookup nNum = some (.ref m)) (hF : HasD ρ σ (env2 m (N.map .int) [])) : ∃ ρ' σ', (recN T3 14).ex lC ρ σ (nth lB 2) = some (.next, ρ', σ') ∧ HasD ρ' σ' (env2 m (N.map .int) (sgn N)) := by
  have := for_lst (n := 12) (q := 8) (m := m) (c := lC) (ρ := ρ) (σ := σ) (s := nth lB 2) (x := nNum) (y := nX) (v := fun i => .int (N.getD i 0)) (J := fun i ρ σ => HasD ρ σ (env2 m (N.map .int) ((N.take i).foldl sgnStep [])))
    (by kernel_rfl) (by kernel_rfl) (by kernel_rfl) (by kernel_rfl) (by omega) hx
    (fun i ρ σ hJ => ⟨N.map .int, at_ghost hJ (x := nNum) (vs := N.map .int) (by simp [env2]) (by simp [env2]), by rw [List.length_map, hN], fun j hj => by
      rw [List.getElem?_map, List.getElem?_eq_getElem (by omega), List.getD_eq_getElem?_getD, List.getElem?_eq_getElem (by omega)]; rfl⟩)
    (by simpa using hF)
    (fun i ρ σ hi hJ => by
      obtain ⟨ρ', σ', e, h⟩ := turn2 (a := N.getD i 0) (by rw [sgn_len]; simp; omega) hJ
      refine ⟨ρ', σ', e, ?_⟩
      have : (N.take (i + 1)).foldl sgnStep [] = sgnStep ((N.take i).foldl sgnStep []) (N.getD i 0) := by
        rw [List.take_succ_eq_append_getElem (by omega), List.foldl_append, List.getD_eq_getElem?_getD, List.getElem?_eq_getElem (by omega)]
        rfl
      rw [this]; exact h)
  refine elEEA this fun ρ' σ' e h => ?_
  try clear this
  refine ⟨ρ', σ', e, ?_⟩
  rw [List.take_of_length_le (by omega)] at h
  exact h
end Mine.Internal
end
section
set_option maxRecDepth 100000
set_option backward.match.sparseCases false
namespace Mine.Internal
open PySem PyProof.Rows
noncomputable def env3 (N : List PV) (S : List Int) : PEnv := [(nSig, .ls (S.map .int)), (nNum, .ls N)]
theorem c34 (N : List PV) : rows.map (fun S => pexs (recP 14).p lC (env3 N S) ((lB.drop 3).take 2)) = rows.map (fun S => some ((nHts, .ls [.int 0]) :: (nRow, .sc (.bytes (byS S))) :: env3 N S)) := by kernel_rfl
noncomputable def envH (m : Nat) (N : List PV) (S : List Int) (i : Nat) : PEnv := [(nHts, .ls ((hts (S.take i)).map .int)), (nRow, .sc (.bytes (byS S))), (nSig, .ls (S.map .int)), (nNum, .ls N), (nSig, .sc (.ref m))]
noncomputable def out5 (m : Nat) (N : List PV) (S : List Int) (i : Nat) : Option PEnv := pexs (recP 13).p lC (setF (envH m N S i) nSign (.sc (.int (S.getD i 0)))) (forB (nth lB 5))
noncomputable def want5 (m : Nat) (N : List PV) (S : List Int) (i : Nat) : Option PEnv := some ((nHts, .ls ((hts (S.take (i + 1))).map .int)) :: (nSign, .sc (.int (S.getD i 0))) :: (envH m N S i).tail)
theorem c5 (m : Nat) (N : List PV) : rows.map (fun S => (List.range 8).map fun i => out5 m N S i) = rows.map (fun S => (List.range 8).map fun i => want5 m N S i) := by kernel_rfl
theorem rows_len : (rows.all fun S => S.length == 8) = true := by kernel_rfl
theorem row_len {S : List Int} (h : S ∈ rows) : S.length = 8 := by simpa using List.all_eq_true.mp rows_len S h
theorem run5 {m : Nat} {N : List PV} {S : List Int} {ρ : Rho} {σ : Sto} (hS : S ∈ rows) (hx : ρ.lookup nSig = some (.ref m)) (hF : HasD ρ σ (envH m N S 0)) : ∃ ρ' σ', (recN T3 14).ex lC ρ σ (nth lB 5) = some (.next, ρ', σ') ∧ HasD ρ' σ' (envH m N S 8) := by
  have hl := row_len hS
  exact for_lst (n := 12) (q := 8) (m := m) (c := lC) (ρ := ρ) (σ := σ) (s := nth lB 5) (x := nSig) (y := nSign) (v := fun i => .int (S.getD i 0)) (J := fun i ρ σ => HasD ρ σ (envH m N S i))
    (by kernel_rfl) (by kernel_rfl) (by kernel_rfl) (by kernel_rfl) (by omega) hx
    (fun i ρ σ hJ => ⟨S.map .int, at_ghost hJ (x := nSig) (vs := S.map .int) (by simp [envH]) (by simp [envH]), by rw [List.length_map, hl], fun j hj => by
      rw [List.getElem?_map, List.getElem?_eq_getElem (by omega), List.getD_eq_getElem?_getD, List.getElem?_eq_getElem (by omega)]; rfl⟩)
    hF
    (fun i ρ σ hi hJ => by
      have h1 := List.map_inj_left.mp (List.map_inj_left.mp (c5 m N) S hS) i (List.mem_range.mpr hi)
      obtain ⟨ρ', σ', e, h⟩ := by_value h1 (hJ.setS (x := nSign) (p := .int (S.getD i 0)))
      refine ⟨ρ', σ', e, h.sub (fun f hf => ?_)⟩
      unfold envH at hf
      rcases List.mem_cons.mp hf with h | h
      · exact List.mem_cons.mpr (.inl h)
      · exact List.mem_cons_of_mem _ (List.mem_cons_of_mem _ h))
theorem hts_all {S : List Int} (h : S ∈ rows) : hts (S.take 8) = hts S := by rw [List.take_of_length_le (by rw [row_len h]; omega)]
theorem lB_split : lB.take 16 = [nth lB 0] ++ ([nth lB 1] ++ ([nth lB 2] ++ ((lB.drop 3).take 2 ++ ([nth lB 5] ++ (lB.drop 6).take 10)))) := by kernel_rfl
theorem runB {ns : List Int} (hn : ns.length ≤ 63) : ∃ (N : List Int) (ρ : Rho) (σ : Sto) (F : PEnv), N.length = 8 ∧ exs (recN T3 14) lC [(Str.ofString "script", .xl ns)] [] (lB.take 16) = some (.next, ρ, σ) ∧ HasD ρ σ F ∧ F.lookup nNum = some (.ls (N.map .int)) ∧ F.lookup nSig = some (.ls ((sgn N).map .int)) ∧ F.lookup nRow = some (.sc (.bytes (byS (sgn N)))) ∧ chk (sgn N) F = true ∧ sgn N ∈ rows := by
  obtain ⟨N, hN, m, σ₀, e₀, i₀⟩ := run0 hn
  have hS := sgn_rows hN
  have H₀ : HasD (upd [(Str.ofString "script", .xl ns)] nNum (.ref m)) σ₀ [(nNum, .ls (N.map .int))] := by
    refine ⟨fun f hf => ?_, fun x y vs us k hx hy _ _ => ?_⟩
    · rcases List.mem_singleton.mp hf with rfl
      exact ⟨m, by rw [lookup_upd, if_pos rfl], i₀⟩
    · have h1 := List.mem_singleton.mp hx
      have h2 := List.mem_singleton.mp hy
      cases h1; cases h2; rfl
  have b1 : pexs (recP 14).p lC [(nNum, .ls (N.map .int))] [nth lB 1] = some [(nSig, .ls []), (nNum, .ls (N.map .int))] := by kernel_rfl
  obtain ⟨ρ₁, σ₁, e₁, H₁⟩ := by_value b1 H₀
  refine elEA (H₁.has (nNum, .ls (N.map .int)) (by simp)) fun m₁ l₁ _ => ?_
  refine elEEA (run2 hN l₁ (H₁.ghost l₁)) fun ρ₂ σ₂ e₂ H₂ => ?_
  have H₂' : HasD ρ₂ σ₂ (env3 (N.map .int) (sgn N)) := H₂.sub (fun f hf => by
    unfold env3 at hf
    unfold env2
    simp only [List.mem_cons, List.not_mem_nil, or_false] at hf ⊢
    rcases hf with h | h
    · exact .inl h
    · exact .inr (.inl h))
  obtain ⟨ρ₃, σ₃, e₃, H₃⟩ := by_value (List.map_inj_left.mp (c34 (N.map .int)) _ hS) H₂'
  refine elEA (H₃.has (nSig, .ls ((sgn N).map .int)) (by simp [env3])) fun m₃ l₃ _ => ?_
  refine elEEA (run5 hS l₃ (H₃.ghost l₃)) fun ρ₄ σ₄ e₄ H₄ => ?_
  have H₄' : HasD ρ₄ σ₄ (envB (N.map .int) (sgn N)) := H₄.sub (fun f hf => by
    unfold envH
    rw [hts_all hS]
    exact List.mem_append_left [(nSig, DV.sc (.ref m₃))] hf)
  have hB := rows_all hS (N.map .int)
  unfold outB wantB at hB
  rw [Option.map_eq_some_iff] at hB
  refine elEA hB fun F hF hq => ?_
  try clear hB
  simp only [Prod.mk.injEq] at hq
  refine elAAA hq fun q1 q2 q3 q4 => ?_
  try clear hq
  obtain ⟨ρ₅, σ₅, e₅, H₅⟩ := by_value hF H₄'
  refine ⟨N, ρ₅, σ₅, F, hN, ?_, H₅, q1, q2, q3, q4, hS⟩
  rw [lB_split, exs_app (exs_one.trans e₀), exs_app e₁, exs_app (exs_one.trans e₂), exs_app e₃, exs_app (exs_one.trans e₄)]
  exact e₅
end Mine.Internal
end
section
set_option maxRecDepth 100000
set_option backward.match.sparseCases false
namespace Mine.Internal
open PySem
noncomputable def sw (s q : Nat) : List Nat := match q with
  | 0 => [s, 97, 97, 97, 97]
  | 5 => [92, 34, s, 92, 40]
  | 6 => [92, 92, s, 92, 41]
  | _ => [s]
theorem word_len (s q : Nat) : (wordOf s q).length = 5 := by unfold wordOf; split <;> rfl
theorem take_pre (pre u : List Nat) (k : Nat) : (pre ++ u).take (pre.length + k) = pre ++ u.take k := by
  rw [List.take_append, List.take_of_length_le (by omega), Nat.add_sub_cancel_left]
theorem go_word {s q : Nat} (hs : s = 40 ∨ s = 41) (hq : q < 8) (pre t : List Nat) (st : Nat) (res : List Nat) (hst : st ≤ pre.length) :
    ∃ st' res', stripGo (pre ++ (wordOf s q ++ t)) (esc pre.length false (wordOf s q ++ t)) st none res = stripGo (pre ++ (wordOf s q ++ t)) (esc (pre.length + 5) false t) st' none res' ∧ st' ≤ pre.length + 5 ∧ res' ++ (pre ++ wordOf s q).drop st' = res ++ pre.drop st ++ sw s q := by
  have hA : res ++ (pre ++ wordOf s q).drop st = res ++ pre.drop st ++ wordOf s q := by
    rw [List.drop_append, show st - pre.length = 0 from by omega, List.drop_zero, List.append_assoc]
  have hend : (pre ++ wordOf s q).drop (pre.length + 5) = [] := by
    apply List.drop_of_length_le
    rw [List.length_append, word_len]; omega
  have h1 : ∀ u : List Nat, ((pre ++ (s :: u)).take (pre.length + 1)).drop st = pre.drop st ++ [s] := by
    intro u
    rw [take_pre]
    refine (?_ : (pre ++ [s]).drop st = _)
    rw [List.drop_append, show st - pre.length = 0 from by omega]; rfl
  have ns : s ≠ 92 := by omega
  have nq : s ≠ 34 := by omega
  match q, hq with
  | 0, _ =>
    refine ⟨st, res, ?_, by omega, hA⟩
    simp [wordOf, esc, stripGo, ns, nq]
  | 5, _ =>
    refine ⟨st, res, ?_, by omega, hA⟩
    simp [wordOf, esc, stripGo, ns, nq]
  | 6, _ =>
    refine ⟨st, res, ?_, by omega, hA⟩
    simp [wordOf, esc, stripGo, ns, nq]
  | 1, _ =>
    refine ⟨pre.length + 5, res ++ (pre.drop st ++ [s]), ?_, by omega, ?_⟩
    · simp only [wordOf, List.cons_append, List.nil_append]
      simp [esc, stripGo, ns, nq, h1, show st ≠ pre.length + 1 from by omega]
    · rw [hend]; simp [sw]
  | 2, _ =>
    refine ⟨pre.length + 5, res ++ (pre.drop st ++ [s]), ?_, by omega, ?_⟩
    · simp only [wordOf, List.cons_append, List.nil_append]
      simp [esc, stripGo, ns, nq, h1, show st ≠ pre.length + 1 from by omega]
    · rw [hend]; simp [sw]
  | 3, _ =>
    refine ⟨pre.length + 5, res ++ (pre.drop st ++ [s]), ?_, by omega, ?_⟩
    · simp only [wordOf, List.cons_append, List.nil_append]
      simp [esc, stripGo, ns, nq, h1, show st ≠ pre.length + 1 from by omega]
    · rw [hend]; simp [sw]
  | 4, _ =>
    refine ⟨pre.length + 5, res ++ (pre.drop st ++ [s]), ?_, by omega, ?_⟩
    · simp only [wordOf, List.cons_append, List.nil_append]
      simp [esc, stripGo, ns, nq, h1, show st ≠ pre.length + 1 from by omega]
    · rw [hend]; simp [sw]
  | 7, _ =>
    refine ⟨pre.length + 5, res ++ (pre.drop st ++ [s]), ?_, by omega, ?_⟩
    · simp only [wordOf, List.cons_append, List.nil_append]
      have a1 : (if st = pre.length then res else res ++ pre.drop st) = res ++ pre.drop st := by
        split
        · rename_i h; subst h; simp
        · rfl
      have a2 : ((pre ++ 34 :: 34 :: s :: 34 :: 34 :: t).take (pre.length + 3)).drop (pre.length + 2) = [s] := by
        rw [take_pre]
        refine (?_ : (pre ++ [34, 34, s]).drop (pre.length + 2) = [s])
        rw [List.drop_append, List.drop_of_length_le (by omega), Nat.add_sub_cancel_left]; rfl
      simp [esc, stripGo, ns, nq, a1, a2]
    · rw [hend]; simp [sw]
noncomputable def wds (Q : List (Nat × Nat)) : List Nat := (Q.map fun p => wordOf p.1 p.2).flatten
noncomputable def sws (Q : List (Nat × Nat)) : List Nat := (Q.map fun p => sw p.1 p.2).flatten
noncomputable def okQ (Q : List (Nat × Nat)) : Prop := ∀ p ∈ Q, (p.1 = 40 ∨ p.1 = 41) ∧ p.2 < 8
theorem go_words : ∀ (Q : List (Nat × Nat)), okQ Q → ∀ (pre t : List Nat) (st : Nat) (res : List Nat), st ≤ pre.length →
    ∃ st' res', stripGo (pre ++ (wds Q ++ t)) (esc pre.length false (wds Q ++ t)) st none res = stripGo (pre ++ (wds Q ++ t)) (esc (pre ++ wds Q).length false t) st' none res' ∧ st' ≤ (pre ++ wds Q).length ∧ res' ++ (pre ++ wds Q).drop st' = res ++ pre.drop st ++ sws Q
  | [], _, pre, t, st, res, hst => ⟨st, res, by simp [wds], by simpa [wds] using hst, by simp [wds, sws]⟩
  | (s, q) :: r, h, pre, t, st, res, hst => by
    obtain ⟨h1, h2⟩ := h (s, q) (by simp)
    have hw : wds ((s, q) :: r) ++ t = wordOf s q ++ (wds r ++ t) := by simp [wds]
    refine elEEAA (go_word h1 h2 pre (wds r ++ t) st res hst) fun st₁ res₁ e₁ b₁ k₁ => ?_
    have hl : (pre ++ wordOf s q).length = pre.length + 5 := by rw [List.length_append, word_len]
    refine elEEAA (go_words r (fun p hp => h p (List.mem_cons_of_mem _ hp)) (pre ++ wordOf s q) t st₁ res₁ (by omega)) fun st₂ res₂ e₂ b₂ k₂ => ?_
    have hx : pre ++ wordOf s q ++ (wds r ++ t) = pre ++ (wordOf s q ++ (wds r ++ t)) := List.append_assoc ..
    have hp : pre ++ wds ((s, q) :: r) = pre ++ wordOf s q ++ wds r := by simp [wds]
    refine ⟨st₂, res₂, ?_, ?_, ?_⟩
    · rw [hw, hp]
      rw [hl, hx] at e₂
      exact e₁.trans e₂
    · rw [hp]; exact b₂
    · rw [hp, k₂, k₁]; simp [sws]
theorem go_plain (x : List Nat) : ∀ (u : List Nat) (i : Nat) (e : Bool) (st : Nat) (op : Option Nat) (res : List Nat), u.contains 34 = false → stripGo x (esc i e u) st op res = (st, res)
  | [], i, e, st, op, res, _ => by
    unfold esc
    cases e <;> simp [stripGo]
  | c :: r, i, e, st, op, res, h => by
    have hc : c ≠ 34 := by rintro rfl; simp at h
    have hr : r.contains 34 = false := by
      rw [Bool.eq_false_iff] at h ⊢
      intro h'
      exact h (by rw [List.contains_cons, h', Bool.or_true])
    unfold esc
    split
    · simp [stripGo, go_plain x r _ _ _ _ _ hr]
    · split
      · exact go_plain x r _ _ _ _ _ hr
      · simp [stripGo, hc, go_plain x r _ _ _ _ _ hr]
theorem strip_eq (x : List Nat) : strip x = (stripGo x (esc 0 false x) 0 none []).2 ++ x.drop (stripGo x (esc 0 false x) 0 none []).1 := by
  unfold strip
  split
  · dsimp only
    split
    · rfl
    · rename_i h
      rw [List.drop_of_length_le (by omega), List.append_nil]
  · rename_i h
    rw [go_plain x x 0 false 0 none [] (by simpa using h)]
    simp
theorem strip_words {Q : List (Nat × Nat)} (h : okQ Q) : strip (wds Q) = sws Q := by
  rw [strip_eq]
  refine elEEAA (go_words Q h [] [] 0 [] (Nat.le_refl _)) fun st res e b k => ?_
  simp only [List.nil_append, List.append_nil, List.length_nil, List.drop_nil] at e b k
  refine e.symm ▸ ?_
  have : stripGo (wds Q) (esc (wds Q).length false []) st none res = (st, res) := by simp [esc, stripGo]
  refine this.symm ▸ ?_
  exact k
theorem strip_open {Q : List (Nat × Nat)} (h : okQ Q) {u : List Nat} (hu : u.contains 34 = false) : strip (wds Q ++ 34 :: u) = sws Q ++ 34 :: u := by
  rw [strip_eq]
  refine elEEAA (go_words Q h [] (34 :: u) 0 [] (Nat.le_refl _)) fun st res e b k => ?_
  simp only [List.nil_append, List.length_nil, List.drop_nil] at e b k
  refine e.symm ▸ ?_
  have : stripGo (wds Q ++ 34 :: u) (esc (wds Q).length false (34 :: u)) st none res = (st, res) := by
    simp [esc, stripGo, go_plain _ u _ _ _ _ _ hu]
  refine this.symm ▸ ?_
  refine (?_ : res ++ (wds Q ++ 34 :: u).drop st = _)
  rw [List.drop_append, show st - (wds Q).length = 0 from by omega, List.drop_zero, ← List.append_assoc, k]
theorem chk_shift : ∀ (u : List Nat) (i j : Nat) (e : Bool) (n : Int), chkGo (esc i e u) n = chkGo (esc j e u) n
  | [], i, j, e, n => by cases e <;> simp [esc, chkGo]
  | c :: r, i, j, e, n => by
    unfold esc
    cases e with
    | true => simp [chkGo, chk_shift r (i + 1) (j + 1)]
    | false =>
      simp only [Bool.false_eq_true, if_false]
      split
      · exact chk_shift r _ _ _ _
      · unfold chkGo
        simp only [chk_shift r (i + 1) (j + 1)]
noncomputable def ck (u : List Nat) (n : Int) : Bool := chkGo (esc 0 false u) n
theorem ck_sign {s : Nat} (hs : s = 40 ∨ s = 41) (u : List Nat) (n : Int) : ck (s :: u) n = if s = 40 then ck u (n + 1) else if n - 1 < 0 then false else ck u (n - 1) := by
  unfold ck
  rcases hs with rfl | rfl
  · simp [esc, chkGo, chk_shift u 1 0]
  · simp [esc, chkGo, chk_shift u 1 0]
theorem ck_word {s q : Nat} (hs : s = 40 ∨ s = 41) (hq : q < 8) (u : List Nat) (n : Int) : ck (sw s q ++ u) n = ck (s :: u) n := by
  rw [ck_sign hs]
  unfold ck
  match q, hq with
  | 0, _ => rcases hs with rfl | rfl <;> simp [sw, esc, chkGo, chk_shift u 5 0]
  | 1, _ => rcases hs with rfl | rfl <;> simp [sw, esc, chkGo, chk_shift u 1 0]
  | 2, _ => rcases hs with rfl | rfl <;> simp [sw, esc, chkGo, chk_shift u 1 0]
  | 3, _ => rcases hs with rfl | rfl <;> simp [sw, esc, chkGo, chk_shift u 1 0]
  | 4, _ => rcases hs with rfl | rfl <;> simp [sw, esc, chkGo, chk_shift u 1 0]
  | 5, _ => rcases hs with rfl | rfl <;> simp [sw, esc, chkGo, chk_shift u 5 0]
  | 6, _ => rcases hs with rfl | rfl <;> simp [sw, esc, chkGo, chk_shift u 5 0]
  | 7, _ => rcases hs with rfl | rfl <;> simp [sw, esc, chkGo, chk_shift u 1 0]
theorem ck_words : ∀ {Q : List (Nat × Nat)}, okQ Q → ∀ {u v : List Nat}, (∀ n, ck u n = ck v n) → ∀ n, ck (sws Q ++ u) n = ck (Q.map (·.1) ++ v) n
  | [], _, u, v, h, n => by simpa [sws] using h n
  | (s, q) :: r, hQ, u, v, h, n => by
    obtain ⟨h1, h2⟩ := hQ (s, q) (by simp)
    have e : sws ((s, q) :: r) ++ u = sw s q ++ (sws r ++ u) := by simp [sws]
    rw [e, ck_word h1 h2, ck_sign h1]
    refine (?_ : _ = ck (s :: (r.map (·.1) ++ v)) n)
    rw [ck_sign h1]
    have ih := ck_words (Q := r) (fun p hp => hQ p (List.mem_cons_of_mem _ hp)) h
    simp only [ih]
theorem signs_34 {l : List Nat} (h : ∀ s ∈ l, s = 40 ∨ s = 41) : l.contains 34 = false := by
  rw [Bool.eq_false_iff]
  intro h'
  have := h 34 (List.contains_iff_mem.mp h')
  omega
theorem check_signs {l : List Nat} (h : ∀ s ∈ l, s = 40 ∨ s = 41) : check l = ck l 0 := by
  unfold check ck strip
  rw [signs_34 h, if_neg Bool.false_ne_true]
theorem okQ_fst {Q : List (Nat × Nat)} (h : okQ Q) : ∀ s ∈ Q.map (·.1), s = 40 ∨ s = 41 := fun s hs => by
  refine elEA (List.mem_map.mp hs) fun p hp eq192x1 => ?_
  subst eq192x1
  exact (h p hp).1
theorem check_words {Q : List (Nat × Nat)} (h : okQ Q) : check (wds Q) = check (Q.map (·.1)) := by
  rw [check_signs (okQ_fst h)]
  unfold check
  rw [strip_words h]
  have := ck_words h (u := []) (v := []) (fun _ => rfl) 0
  rw [List.append_nil, List.append_nil] at this
  exact this
theorem check_open {Q : List (Nat × Nat)} (h : okQ Q) {l : List Nat} (hl : ∀ s ∈ l, s = 40 ∨ s = 41) : check (wds Q ++ 34 :: l) = check (Q.map (·.1) ++ l) := by
  rw [check_signs (l := Q.map (·.1) ++ l) (fun s hs => (List.mem_append.mp hs).elim (okQ_fst h s) (hl s))]
  unfold check
  rw [strip_open h (signs_34 hl)]
  exact ck_words h (u := 34 :: l) (v := l) (fun n => by unfold ck; simp [esc, chkGo, chk_shift l 1 0]) 0
end Mine.Internal
end
section
set_option maxRecDepth 100000
set_option backward.match.sparseCases false
namespace Mine.Internal
open PySem
noncomputable def wb (p : Nat × Nat) : List UInt8 := (wordOf p.1 p.2).map UInt8.ofNat
noncomputable def fl (V : List (Nat × Nat)) : List UInt8 := (V.map wb).flatten
theorem wb_len (p : Nat × Nat) : (wb p).length = 5 := by simp [wb, word_len]
theorem fl_cons (p : Nat × Nat) (V : List (Nat × Nat)) : fl (p :: V) = wb p ++ fl V := by simp [fl]
theorem fl_app (a b : List (Nat × Nat)) : fl (a ++ b) = fl a ++ fl b := by simp [fl]
theorem fl_len : ∀ V : List (Nat × Nat), (fl V).length = 5 * V.length
  | [] => rfl
  | p :: V => by rw [fl_cons, List.length_append, wb_len, fl_len V, List.length_cons]; omega
theorem fl_take : ∀ (V : List (Nat × Nat)) (k : Nat), (fl V).take (5 * k) = fl (V.take k)
  | V, 0 => by simp [fl]
  | [], k + 1 => by simp [fl]
  | p :: V, k + 1 => by
    rw [fl_cons, List.take_succ_cons, fl_cons, List.take_append, wb_len, List.take_of_length_le (by rw [wb_len]; omega), show 5 * (k + 1) - 5 = 5 * k from by omega, fl_take V k]
theorem fl_drop : ∀ (V : List (Nat × Nat)) (k : Nat), (fl V).drop (5 * k) = fl (V.drop k)
  | V, 0 => by simp
  | [], k + 1 => by simp [fl]
  | p :: V, k + 1 => by
    rw [fl_cons, List.drop_succ_cons, List.drop_append, wb_len, List.drop_of_length_le (by rw [wb_len]; omega), show 5 * (k + 1) - 5 = 5 * k from by omega, fl_drop V k, List.nil_append]
theorem bsw_flat : ∀ (U : List (List UInt8)), (∀ u ∈ U, u.length = 5) → bsw 5 U.length U.flatten = (U.map List.reverse).flatten
  | [], _ => rfl
  | u :: U, h => by
    have hu := h u (by simp)
    have e1 : (u ++ U.flatten).take 5 = u := by rw [List.take_append, hu, List.take_of_length_le (by omega)]; simp
    have e2 : (u ++ U.flatten).drop 5 = U.flatten := by rw [List.drop_append, hu, List.drop_of_length_le (by omega)]; simp
    refine (?_ : ((u ++ U.flatten).take 5).reverse ++ bsw 5 U.length ((u ++ U.flatten).drop 5) = _)
    rw [e1, e2, bsw_flat U (fun v hv => h v (List.mem_cons_of_mem _ hv))]
    simp
theorem flat_len5 : ∀ (U : List (List UInt8)), (∀ u ∈ U, u.length = 5) → U.flatten.length = 5 * U.length
  | [], _ => rfl
  | u :: U, h => by
    rw [List.flatten_cons, List.length_append, h u (by simp), flat_len5 U (fun v hv => h v (List.mem_cons_of_mem _ hv)), List.length_cons]; omega
theorem fl_about (V : List (Nat × Nat)) : about (fl V) = fl V.reverse := by
  unfold about
  split
  · rename_i h
    have := congrArg List.length h
    rw [fl_len] at this
    have : V = [] := by apply List.eq_nil_of_length_eq_zero; rw [List.length_nil] at this; omega
    subst this; rfl
  · rename_i h
    have h0 : 0 < (fl V).length := List.length_pos_iff.mpr h
    have h1 : swap (fl V) (fl V).length = (fl V).reverse := by
      unfold swap
      rw [Nat.div_self h0]
      simp [bsw]
    have h2 : (fl V).reverse = (V.reverse.map fun p => (wb p).reverse).flatten := by
      unfold fl
      rw [List.reverse_flatten, List.map_reverse, List.map_map]; rfl
    have h3 : ∀ u ∈ V.reverse.map fun p => (wb p).reverse, u.length = 5 := by
      intro u hu
      refine elEA (List.mem_map.mp hu) fun p _ eq60x1 => ?_
      subst eq60x1
      rw [List.length_reverse, wb_len]
    rw [h1, h2]
    unfold swap
    rw [flat_len5 _ h3, Nat.mul_div_cancel_left _ (by omega), bsw_flat _ h3, List.map_map]
    skip
    congr 1
    apply List.map_congr_left
    intro p _
    simp
theorem word_small {s q : Nat} (hs : s = 40 ∨ s = 41) : ∀ c ∈ wordOf s q, c < 128 := by
  unfold wordOf
  split <;> rcases hs with rfl | rfl <;> decide
theorem wb_nat {p : Nat × Nat} (hs : p.1 = 40 ∨ p.1 = 41) : (wb p).map UInt8.toNat = wordOf p.1 p.2 := by
  unfold wb
  rw [List.map_map]
  conv => rhs; rw [← List.map_id (wordOf p.1 p.2)]
  apply List.map_congr_left
  intro c hc
  have := word_small hs c hc
  simp [UInt8.toNat_ofNat']
  omega
theorem fl_nat : ∀ {V : List (Nat × Nat)}, okQ V → (fl V).map UInt8.toNat = wds V
  | [], _ => rfl
  | p :: V, h => by
    rw [fl_cons, List.map_append, wb_nat (h p (by simp)).1, fl_nat (fun q hq => h q (List.mem_cons_of_mem _ hq))]
    simp [wds]
theorem ascii_app {a b : List UInt8} (ha : asciiOk a = true) (hb : asciiOk b = true) : asciiOk (a ++ b) = true := by
  unfold asciiOk at *
  rw [List.all_append, ha, hb]; rfl
theorem ascii_of {a : List UInt8} (h : ∀ c ∈ a.map UInt8.toNat, c < 128) : asciiOk a = true := by
  unfold asciiOk
  rw [List.all_eq_true]
  intro c hc
  rw [decide_eq_true_iff]
  exact h _ (List.mem_map_of_mem hc)
theorem fl_ascii {V : List (Nat × Nat)} (h : okQ V) : asciiOk (fl V) = true := by
  apply ascii_of
  rw [fl_nat h]
  intro c hc
  refine elEA (List.mem_flatten.mp hc) fun l hl hc => ?_
  refine elEA (List.mem_map.mp hl) fun p hp eq101x2 => ?_
  subst eq101x2
  exact word_small (h p hp).1 c hc
theorem joinB_fl (V : List (Nat × Nat)) : joinB [] (V.map wb) = fl V := joinB_flat _
theorem rows_sign : (rows.all fun S => S.all fun s => s == 40 || s == 41) = true := by kernel_rfl
theorem row_sign {S : List Int} (h : S ∈ rows) : ∀ s ∈ S, s = 40 ∨ s = 41 := by
  intro s hs
  have := List.all_eq_true.mp (List.all_eq_true.mp rows_sign S h) s hs
  simpa using this
theorem na_sign {S : List Int} (h : S ∈ rows) : ∀ s ∈ naS S, s = 40 ∨ s = 41 := by
  intro s hs
  refine elEA (List.mem_map.mp hs) fun i hi eq112x3 => ?_
  subst eq112x3
  rcases row_sign h i hi with rfl | rfl
  · exact .inl rfl
  · exact .inr rfl
theorem byS_nat {S : List Int} (h : S ∈ rows) : (byS S).map UInt8.toNat = naS S := by
  unfold byS naS
  rw [List.map_map]
  apply List.map_congr_left
  intro i hi
  rcases row_sign h i hi with rfl | rfl <;> rfl
theorem byS_ascii {S : List Int} (h : S ∈ rows) : asciiOk (byS S) = true := by
  apply ascii_of
  rw [byS_nat h]
  intro c hc
  rcases na_sign h c hc with rfl | rfl <;> decide
theorem row_len' {S : List Int} (h : S ∈ rows) : S.length = 8 := by
  have : (rows.all fun S => S.length == 8) = true := by kernel_rfl
  simpa using List.all_eq_true.mp this S h
theorem byS_len {S : List Int} (h : S ∈ rows) : (byS S).length = 8 := by unfold byS; rw [List.length_map, row_len' h]
noncomputable def qs (S N : List Int) : List (Nat × Nat) := (List.range 8).map fun i => ((S.getD i 0).toNat, (N.getD i 0 / 2 % 8).toNat)
theorem qs_len (S N : List Int) : (qs S N).length = 8 := by simp [qs]
theorem qs_ok {S : List Int} (h : S ∈ rows) (N : List Int) : okQ (qs S N) := by
  intro p hp
  refine elEA (List.mem_map.mp hp) fun i hi eq137x4 => ?_
  subst eq137x4
  have hi' : i < S.length := by rw [row_len' h]; exact List.mem_range.mp hi
  have hm : S.getD i 0 ∈ S := by rw [List.getD_eq_getElem?_getD, List.getElem?_eq_getElem hi']; exact List.getElem_mem hi'
  refine ⟨?_, ?_⟩
  · rcases row_sign h _ hm with e | e
    · left; show (S.getD i 0).toNat = 40; rw [e]; rfl
    · right; show (S.getD i 0).toNat = 41; rw [e]; rfl
  · refine (?_ : (N.getD i 0 / 2 % 8).toNat < 8)
    omega
theorem qs_fst {S : List Int} (h : S ∈ rows) (N : List Int) : (qs S N).map (·.1) = naS S := by
  have hl := row_len' h
  unfold qs naS
  rw [List.map_map]
  apply List.ext_getElem
  · simp [hl]
  · intro i h1 h2
    simp only [List.length_map] at h2
    simp [List.getElem?_eq_getElem h2]
theorem okQ_sub {P Q : List (Nat × Nat)} (h : okQ Q) (hs : ∀ p ∈ P, p ∈ Q) : okQ P := fun p hp => h p (hs p hp)
section
variable {S N : List Int} {l r c : Nat}
theorem fl_le {V : List (Nat × Nat)} {n : Nat} (h : V.length ≤ n) : (fl V).length ≤ 5 * n := by rw [fl_len]; exact Nat.mul_le_mul_left 5 h
noncomputable def q1 (Q : List (Nat × Nat)) (l r : Nat) : List (Nat × Nat) := Q.take l ++ ((Q.take r).drop l).reverse ++ Q.drop r
noncomputable def q2 (Q : List (Nat × Nat)) (c : Nat) : List (Nat × Nat) := (Q.take c).reverse ++ (Q.drop c).reverse
theorem q1_sub {Q : List (Nat × Nat)} (h : okQ Q) : okQ (q1 Q l r) := okQ_sub h fun p hp => by
  unfold q1 at hp
  rcases List.mem_append.mp hp with hp | hp
  · rcases List.mem_append.mp hp with hp | hp
    · exact List.mem_of_mem_take hp
    · exact List.mem_of_mem_take (List.mem_of_mem_drop (List.mem_reverse.mp hp))
  · exact List.mem_of_mem_drop hp
theorem q2_sub {Q : List (Nat × Nat)} (h : okQ Q) : okQ (q2 Q c) := okQ_sub h fun p hp => by
  unfold q2 at hp
  rcases List.mem_append.mp hp with hp | hp
  · exact List.mem_of_mem_take (List.mem_reverse.mp hp)
  · exact List.mem_of_mem_drop (List.mem_reverse.mp hp)
theorem f0 (h : S ∈ rows) : check (wds (qs S N)) = check (naS S) := by rw [check_words (qs_ok h N), qs_fst h]
theorem f1 (h : S ∈ rows) : check (wds (q1 (qs S N) l r)) = check ((naS S).take l ++ (((naS S).take r).drop l).reverse ++ (naS S).drop r) := by
  rw [check_words (q1_sub (qs_ok h N)), ← qs_fst h N]
  unfold q1
  simp only [List.map_append, List.map_take, List.map_drop, List.map_reverse]
theorem f2 (h : S ∈ rows) : check (wds (q2 (qs S N) c)) = check (((naS S).take c).reverse ++ ((naS S).drop c).reverse) := by
  rw [check_words (q2_sub (qs_ok h N)), ← qs_fst h N]
  unfold q2
  simp only [List.map_append, List.map_take, List.map_drop, List.map_reverse]
theorem f3 (h : S ∈ rows) : check (wds (q2 (qs S N) c) ++ 34 :: naS S) = check (((naS S).take c).reverse ++ ((naS S).drop c).reverse ++ naS S) := by
  rw [check_open (q2_sub (qs_ok h N)) (na_sign h)]
  conv => lhs; rw [← qs_fst h N]
  conv => rhs; rw [← qs_fst h N]
  unfold q2
  simp only [List.map_append, List.map_take, List.map_drop, List.map_reverse]
end
end Mine.Internal
end
section
set_option maxRecDepth 100000
set_option backward.match.sparseCases false
namespace Mine.Internal
open PySem PyProof.Rows
section
variable {n : Nat} {c : Cx} {ρ : Rho} {σ₀ σ : Sto} {e : Expr} {a b p : PV} {xs ys vs : List PV} {x y : Str} {s : Stmt} {F : PEnv}
theorem stepS (hF : Has ρ σ F) (h : (asgP s).isSome = true) (hn : asN s = y) (hk : kindOk c.sc y = true) (hy : (F.map (·.1)).contains y = false) (he : EsS n c ρ σ (asE s) p) : ∃ ρ' σ', (recN T3 (n + 1)).ex c ρ σ s = some (.next, ρ', σ') ∧ G σ σ' ∧ Has ρ' σ' ((y, .sc p) :: F) := by
  subst hn
  refine elEA (he σ .rfl') fun σ₁ e₁ g₁ => ?_
  exact ⟨_, σ₁, ex_asg h hk e₁, g₁, (hF.grow g₁).setS hy⟩
theorem stepL (hF : Has ρ σ F) (h : (asgP s).isSome = true) (hn : asN s = y) (hk : kindOk c.sc y = true) (hy : (F.map (·.1)).contains y = false) (he : EsLs n c ρ σ (asE s) vs) : ∃ ρ' σ', (recN T3 (n + 1)).ex c ρ σ s = some (.next, ρ', σ') ∧ G σ σ' ∧ Has ρ' σ' ((y, .ls vs) :: F) := by
  subst hn
  refine elEEAA (he σ .rfl') fun σ₁ m e₁ g₁ h₁ => ?_
  exact ⟨_, σ₁, ex_asg h hk e₁, g₁, (hF.grow g₁).setL hy h₁⟩
theorem stepC {elt iter : Expr} {ifs : List Expr} {scope : Scope} {S : Src} {σ₁ : Sto} {q : Nat} {v : Nat → PV} {f : Nat → Option (Option PV)} (hF : Has ρ σ F) (h : cmpS s = some (x, elt, y, iter, ifs, scope)) (hk : kindOk c.sc x = true) (hx : (F.map (·.1)).contains x = false) (hs : scopeOk scope c.sc = true) (hy : scope.names.lookup y = some .local) (hsr : match S with | .gens _ => False | .zips _ _ => False | _ => True)
    (hsrc : src T3 (recN T3 n) c ρ σ iter = some (S, σ₁)) (g : G σ σ₁) (hq : q < 900)
    (hn : ∀ i σ, i < q → G σ₁ σ → nx S i σ = some (some (v i))) (hend : ∀ σ, G σ₁ σ → nx S q σ = some none)
    (hf : ∀ i, i < q → Has (upd (freeOf scope ρ) y (v i)) σ₁ (setF (freeE scope F) y (.sc (v i))) → TurnC (recN T3 n) ⟨relab scope c.sc, false⟩ (upd (freeOf scope ρ) y (v i)) ifs elt σ₁ (f i)) (hp : pcl f q 0 = some ys) :
    ∃ ρ' σ', (recN T3 (n + 1)).ex c ρ σ s = some (.next, ρ', σ') ∧ G σ σ' ∧ Has ρ' σ' ((x, .ls ys) :: F) := by
  have hF₁ := (hF.grow g).free scope
  obtain ⟨σ₂, e₂, g₂⟩ := compS_ok (σ₀ := σ₁) (Q := recN T3 n) (c := ⟨relab scope c.sc, false⟩) (x := y) (ifs := ifs) (elt := elt) (ρ := freeOf scope ρ) (S := S) (v := v) (q := q) (f := f) hn hend
    (fun i hi => hf i hi (hF₁.setF' (show (upd (freeOf scope ρ) y (v i)).lookup y = some (v i) by rw [lookup_upd, if_pos rfl]))) q 0 1000 ys (by omega) (by omega) hp σ₁ .rfl'
  exact ⟨_, _, ex_comp h hk hs hy hsr hsrc e₂, (g.trans g₂).trans (.mk _), (hF.grow ((g.trans g₂).trans (.mk _))).setL hx get_new⟩
theorem turn_elt {Q : Rec} {ρ : Rho} {elt : Expr} (h : ∀ σ, G σ₀ σ → ∃ σ', Q.ev c ρ σ elt = some (p, σ') ∧ G σ σ') : TurnC Q c ρ [] elt σ₀ (some (some p)) := fun σ g => by
  refine elEA (h σ g) fun σ' e g' => ?_
  exact ⟨σ, σ', rfl, .rfl', e, g'⟩
theorem x_addL (h : view e = .bin .Add (kd e 0) (kd e 1)) (hl : EsLs n c ρ σ₀ (kd e 0) xs) (hr : EsLs n c ρ σ₀ (kd e 1) ys) (hn : xs.length + ys.length ≤ lim) : EsLs (n + 1) c ρ σ₀ e (xs ++ ys) := fun σ g => by
  refine elEEAA (hl σ g) fun σ₁ m₁ e₁ g₁ h₁ => ?_
  refine elEEAA (hr σ₁ (g.trans g₁)) fun σ₂ m₂ e₂ g₂ h₂ => ?_
  exact ⟨σ₂ ++ [.list (xs ++ ys)], σ₂.length, (es_of h).trans ((bnd_of e₁).trans ((bnd_of e₂).trans (binop_addL.trans ((bind_of (listAt_of (g₂.get h₁))).trans ((bind_of (listAt_of h₂)).trans (if_pos hn)))))), (g₁.trans g₂).trans (.mk _), get_new⟩
theorem l_of_s {m : Nat} (h : EvS n c ρ σ₀ e (.ref m)) (hm : σ₀[m]? = some (.list vs)) : EvL n c ρ σ₀ e vs := fun σ g => by
  refine elEA (h σ g) fun σ₁ e₁ g₁ => ?_
  exact ⟨σ₁, m, e₁, g₁, (g.trans g₁).get hm⟩
noncomputable def V.tu : V → Option (List Expr)
  | .tup es => some es
  | _ => none
noncomputable def tuP (e : Expr) : Option (List Expr) := (view e).tu
theorem tu_ok {v : V} {es : List Expr} (h : v.tu = some es) : v = .tup es := by
  cases v <;> first | (cases h; rfl) | cases h
theorem tupAt_of {m : Nat} (h : σ[m]? = some (.tup vs)) : tupAt σ m = some vs := bind_of (k := asTup) h
theorem src_tup {es : List Expr} (h : tuP e = some es) (ha : AllS n c ρ σ es vs) (hn : vs.length ≤ 1000) : ∃ m σ₁, src T3 (recN T3 (n + 1)) c ρ σ e = some (.tup m, σ₁) ∧ G σ σ₁ ∧ σ₁[m]? = some (.tup vs) := by
  have hv := tu_ok h
  refine elEA (ha.evs σ .rfl') fun σ₁ e₁ g₁ => ?_
  have he : (recN T3 (n + 1)).ev c ρ σ e = some (.ref σ₁.length, σ₁ ++ [.tup vs]) := (ev_of hv).trans ((bnd_of e₁).trans (if_pos hn))
  exact ⟨σ₁.length, σ₁ ++ [.tup vs], (src_of hv).trans ((bnd_of he).trans ((bind_of (show asRef (.ref σ₁.length) = some σ₁.length from rfl)).trans ((bind_of (tupAt_of get_new)).trans (if_pos hn)))), g₁.trans (.mk _), get_new⟩
theorem nx_tup {m i : Nat} {p : PV} (h : σ[m]? = some (.tup vs)) (hp : vs[i]? = some p) : nx (.tup m) i σ = some (some p) := (congrArg (Option.map fun vs : List PV => vs[i]?) (tupAt_of h)).trans (congrArg some hp)
theorem nx_tupE {m i : Nat} (h : σ[m]? = some (.tup vs)) (hp : vs.length = i) : nx (.tup m) i σ = some none := (congrArg (Option.map fun vs : List PV => vs[i]?) (tupAt_of h)).trans (congrArg some (List.getElem?_eq_none (Nat.le_of_eq hp)))
inductive AllL (n : Nat) (c : Cx) (ρ : Rho) (σ₀ : Sto) : List Expr → List (List PV) → Prop
  | nil : AllL n c ρ σ₀ [] []
  | cons {e : Expr} {vs : List PV} {es : List Expr} {ps : List (List PV)} : isStar e = false → EvL n c ρ σ₀ e vs → AllL n c ρ σ₀ es ps → AllL n c ρ σ₀ (e :: es) (vs :: ps)
noncomputable def Ats (σ : Sto) : List Nat → List (List PV) → Prop
  | [], [] => True
  | k :: ks, vs :: vss => σ[k]? = some (.list vs) ∧ Ats σ ks vss
  | _, _ => False
theorem Ats.grow {σ σ' : Sto} (g : G σ σ') : ∀ {ks : List Nat} {vss : List (List PV)}, Ats σ ks vss → Ats σ' ks vss
  | [], [], _ => trivial
  | _ :: _, _ :: _, h => ⟨g.get h.1, Ats.grow g h.2⟩
  | [], _ :: _, h => h.elim
  | _ :: _, [], h => h.elim
theorem AllL.evs {es : List Expr} {vss : List (List PV)} (h : AllL n c ρ σ₀ es vss) : ∀ σ, G σ₀ σ → ∃ σ' ks, Mine.Internal.evs (recN T3 n) c ρ σ es = some (ks.map .ref, σ') ∧ G σ σ' ∧ Ats σ' ks vss ∧ ks.length = vss.length := by
  induction h with
  | nil => exact fun σ g => ⟨σ, [], rfl, .rfl', trivial, rfl⟩
  | cons hs he hr ih =>
    intro σ g
    refine elEEAA (he σ g) fun σ₁ m e₁ g₁ h₁ => ?_
    refine elEEAAA (ih σ₁ (g.trans g₁)) fun σ₂ ks e₂ g₂ h₂ l₂ => ?_
    exact ⟨σ₂, m :: ks, evs_cons hs e₁ e₂, g₁.trans g₂, ⟨g₂.get h₁, h₂⟩, by rw [List.length_cons, List.length_cons, l₂]⟩
theorem stepLL {es : List Expr} {vss : List (List PV)} (hF : Has ρ σ F) (h : (asgP s).isSome = true) (hn : asN s = y) (hk : kindOk c.sc y = true) (hy : (F.map (·.1)).contains y = false) (hv : view (asE s) = .list es) (hsp : spPlain (asE s) = true) (ha : AllL n c ρ σ es vss) (hl : vss.length ≤ 1000) : ∃ ρ' σ', (recN T3 (n + 3)).ex c ρ σ s = some (.next, ρ', σ') ∧ G σ σ' ∧ ∃ ks : List Nat, Has ρ' σ' ((y, .ls (ks.map .ref)) :: F) ∧ Ats σ' ks vss ∧ ks.length = vss.length := by
  subst hn
  refine elEEAAA (ha.evs σ .rfl') fun σ₁ ks e₁ g₁ h₁ l₁ => ?_
  have he : (recN T3 (n + 2)).es c ρ σ (asE s) = some (.ref σ₁.length, σ₁ ++ [.list (ks.map .ref)]) := (es_ev hsp).trans ((ev_of hv).trans ((bnd_of e₁).trans (if_pos (by rw [List.length_map, l₁]; exact hl))))
  exact ⟨_, _, ex_asg h hk he, g₁.trans (.mk _), ks, (hF.grow (g₁.trans (.mk _))).setL hy get_new, h₁.grow (.mk _), l₁⟩
theorem sum_any {is : List Int} (hl : is.length ≤ lim) (σ : Sto) (m : Nat) (hm : σ[m]? = some (.list (is.map .int))) : bcall (Str.ofString "sum") [.ref m] σ = some (.int (is.foldl (· + ·) 0), σ) := by
  refine (?_ : bcall1 (Str.ofString "sum") (.ref m) σ = _)
  unfold bcall1
  rw [if_neg (by decide +kernel), if_neg (by decide +kernel), if_neg (by decide +kernel), if_neg (by decide +kernel), if_pos rfl]
  exact (bind_of ((bind_of (listAt_of hm)).trans (ints_of is))).trans (if_pos hl)
theorem len_any (hl : vs.length ≤ lim) (σ : Sto) (m : Nat) (hm : σ[m]? = some (.list vs)) : bcall (Str.ofString "len") [.ref m] σ = some (.int vs.length, σ) := by
  refine (?_ : bcall1 (Str.ofString "len") (.ref m) σ = _)
  unfold bcall1
  rw [if_pos rfl]
  exact congrArg (Option.map fun i => (PV.int i, σ)) ((bind_of (k := fun vs : List PV => if vs.length ≤ lim then some (vs.length : Int) else none) (listAt_of hm)).trans (if_pos hl))
theorem fWord_ok {i j : Int} (hi : i = 40 ∨ i = 41) (h0 : 0 ≤ j) (h8 : j < 8) (σ : Sto) : fWord [.int i, .int j] σ = some (.bytes (wb (i.toNat, j.toNat)), σ) := by
  refine (?_ : (if (i = 40 ∨ i = 41) ∧ 0 ≤ j ∧ j < 8 then some (PV.bytes ((wordOf i.toNat j.toNat).map UInt8.ofNat), σ) else none) = _)
  rw [if_pos ⟨hi, h0, h8⟩]; rfl
theorem fAbout_ok {V : List (Nat × Nat)} (h : V.length ≤ 8) (σ : Sto) : fAbout [.bytes (fl V)] σ = some (.bytes (fl V.reverse), σ) := by
  refine (?_ : (if (fl V).length < 1000 ∧ (fl V).length % 5 = 0 then some (PV.bytes (about (fl V)), σ) else none) = _)
  rw [if_pos (by rw [fl_len]; omega), fl_about]
theorem fPre_ok {ss : List (List Nat)} {m : Nat} (hl : ss.length ≤ 50) (hs : ∀ x ∈ ss, x.length ≤ 10000) (hm : σ[m]? = some (.list (ss.map .str))) : fPre [.ref m] σ = some (.ref σ.length, σ ++ [.list (ss.map fun x => .str (if check x then x else noVal))]) := by
  show ((listAt σ (.ref m)).bind fun us => (pvStrs us).bind fun xs =>
    if xs.length ≤ 50 ∧ xs.all (fun x => decide (x.length ≤ 10000)) then some (Mine.Internal.mk σ (.list (xs.map fun x => .str (if check x then x else noVal)))) else none) = _
  rw [listAt_of hm, Option.bind_some, strs_of, Option.bind_some, if_pos ⟨hl, by rw [List.all_eq_true]; exact fun x hx => decide_eq_true (hs x hx)⟩]
  rfl
theorem mul_any {i j : Int} (h1 : -1000 < i ∧ i < 1000 ∧ -1000 < j ∧ j < 1000) (σ : Sto) : binop .Mult (.int i) (.int j) σ = some (.int (i * j), σ) := congrArg (Option.map fun k => (PV.int k, σ)) (show binI .Mult i j = some (i * j) from if_pos h1)
theorem mod_any {i j : Int} (h1 : 0 < j ∧ j < 1000) (σ : Sto) : binop .Mod (.int i) (.int j) σ = some (.int (i % j), σ) := congrArg (Option.map fun k => (PV.int k, σ)) (show binI .Mod i j = some (i % j) from if_pos h1)
theorem div_any {i j : Int} (h1 : 0 < j ∧ j < 1000) (σ : Sto) : binop .FloorDiv (.int i) (.int j) σ = some (.int (i / j), σ) := congrArg (Option.map fun k => (PV.int k, σ)) (show binI .FloorDiv i j = some (i / j) from if_pos h1)
theorem addB_any {u v : List UInt8} (h : u.length + v.length ≤ lim) (σ : Sto) : binop .Add (.bytes u) (.bytes v) σ = some (.bytes (u ++ v), σ) := if_pos ⟨rfl, h⟩
theorem eqL_str {as bs : List (List Nat)} (h : as ≠ []) (σ : Sto) (m k : Nat) (hm : σ[m]? = some (.list (as.map .str))) (hk : σ[k]? = some (.list (bs.map .str))) : cmpop .Eq (.ref m) (.ref k) σ = some (as == bs) := by
  refine (bind_of (listAt_of hm)).trans ((bind_of (listAt_of hk)).trans ?_)
  cases as with
  | nil => exact (h rfl).elim
  | cons a r =>
    refine (?_ : eqS ((a :: r).map .str) (bs.map .str) = _)
    exact (bind_of (strs_of (a :: r))).trans (congrArg (Option.map fun b => ((a :: r) == b)) (strs_of bs))
theorem eqL_int {as bs : List Int} (σ : Sto) (m k : Nat) (hm : σ[m]? = some (.list (as.map .int))) (hk : σ[k]? = some (.list (bs.map .int))) : cmpop .Eq (.ref m) (.ref k) σ = some (as == bs) := by
  refine (bind_of (listAt_of hm)).trans ((bind_of (listAt_of hk)).trans ?_)
  have : eqI (as.map .int) (bs.map .int) = some (as == bs) := (bind_of (ints_of as)).trans (congrArg (Option.map fun b => (as == b)) (ints_of bs))
  refine (?_ : (eqI (as.map .int) (bs.map .int)).or _ = _)
  rw [this]; rfl
end
end Mine.Internal
end
section
set_option maxRecDepth 100000
set_option backward.match.sparseCases false
namespace Mine.Internal
open PySem PyProof.Rows
structure PC where
  S : List Int
  N : List Int
  l : Nat
  r : Nat
  c : Nat
  tops : List Int
  closes : List Bool
  low : List Int
noncomputable def PC.Q (P : PC) : List (Nat × Nat) := qs P.S P.N
structure PC.Ok (P : PC) : Prop where
  hS : P.S ∈ rows
  hN : P.N.length = 8
  lr : P.l ≤ P.r
  r8 : P.r ≤ 8
  c8 : P.c ≤ 8
  t0 : 0 < P.tops.length
  t9 : P.tops.length ≤ 9
  low9 : P.low.length ≤ 9
  cut : P.tops[((P.N.foldl (· + ·) 0) % (P.tops.length : Int)).toNat]? = some (P.c : Int)
  k0 : check (naS P.S) = P.low.isEmpty
  k1 : check ((naS P.S).take P.l ++ (((naS P.S).take P.r).drop P.l).reverse ++ (naS P.S).drop P.r) = P.closes.contains true
  k2 : check (((naS P.S).take P.c).reverse ++ ((naS P.S).drop P.c).reverse) = true
  k3 : check (((naS P.S).take P.c).reverse ++ ((naS P.S).drop P.c).reverse ++ naS P.S) = P.low.isEmpty
noncomputable def nCut : Str := Str.ofString "cut"
noncomputable def nWords : Str := Str.ofString "words"
noncomputable def nHead : Str := Str.ofString "header"
noncomputable def nOnce : Str := Str.ofString "once"
noncomputable def nTwice : Str := Str.ofString "twice"
noncomputable def nFields : Str := Str.ofString "fields"
noncomputable def nGiven : Str := Str.ofString "given"
noncomputable def nHalves : Str := Str.ofString "halves"
noncomputable def nLaid : Str := Str.ofString "laid"
noncomputable def nGood : Str := Str.ofString "good"
noncomputable def nDue : Str := Str.ofString "due"
noncomputable def nKept : Str := Str.ofString "kept"
noncomputable def bl (V : List (Nat × Nat)) : List PV := (V.map wb).map .bytes
noncomputable def E0 (P : PC) : PEnv := [(nNum, .ls (P.N.map .int)), (nSig, .ls (P.S.map .int)), (nRow, .sc (.bytes (byS P.S))), (nLeft, .sc (.int P.l)), (nRight, .sc (.int P.r)), (nTops, .ls (P.tops.map .int)), (nClo, .ls (P.closes.map .bool)), (nLow, .ls (P.low.map .int))]
noncomputable def E1 (P : PC) : PEnv := (nCut, .sc (.int P.c)) :: E0 P
noncomputable def E2 (P : PC) : PEnv := (nWords, .ls (bl P.Q)) :: E1 P
noncomputable def E3 (P : PC) : PEnv := (nHead, .sc (.bytes (fl P.Q))) :: E2 P
noncomputable def E4 (P : PC) : PEnv := (nOnce, .sc (.bytes (fl (q1 P.Q P.l P.r)))) :: E3 P
noncomputable def E5 (P : PC) : PEnv := (nTwice, .sc (.bytes (fl (q2 P.Q P.c)))) :: E4 P
section
variable {P : PC} {ρ : Rho} {σ : Sto}
theorem st16 (K : P.Ok) (hF : Has ρ σ (E0 P)) : ∃ ρ' σ', (recN T3 14).ex lC ρ σ (nth lB 16) = some (.next, ρ', σ') ∧ G σ σ' ∧ Has ρ' σ' (E1 P) := by
  have hl0 := K.t0
  have hl9 := K.t9
  have h0 : 0 ≤ (P.N.foldl (· + ·) 0) % (P.tops.length : Int) := Int.emod_nonneg _ (by omega)
  refine stepS (n := 13) (y := nCut) hF (by kernel_rfl) (by kernel_rfl) (by kernel_rfl) (by kernel_rfl) (x_ev (by kernel_rfl)
    (s_idx (n := 11) (k := (P.N.foldl (· + ·) 0) % (P.tops.length : Int)) (vs := P.tops.map .int) (by kernel_rfl) (hF.nmL nTops _ (by kernel_rfl) (by kernel_rfl))
      (s_bin (op := .Mod) (a := .int (P.N.foldl (· + ·) 0)) (b := .int (P.tops.length : Int)) (by kernel_rfl)
        (s_callL (n := 9) (f := Str.ofString "sum") (vs := P.N.map .int) (by kernel_rfl) (by kernel_rfl) (by kernel_rfl) (hF.nmL nNum _ (by kernel_rfl) (by kernel_rfl)) (by kernel_rfl) (fun σ m hm => sum_any (by rw [K.hN]; decide) σ m hm))
        (s_callL (n := 9) (f := Str.ofString "len") (vs := P.tops.map .int) (by kernel_rfl) (by kernel_rfl) (by kernel_rfl) (hF.nmL nTops _ (by kernel_rfl) (by kernel_rfl)) (by kernel_rfl) (fun σ m hm => ?_))
        (mod_any (by omega))) h0 (by rw [List.length_map]; unfold lim; omega) (by rw [List.getElem?_map, K.cut]; rfl)))
  have := len_any (vs := P.tops.map .int) (by rw [List.length_map]; unfold lim; omega) σ m hm
  rw [List.length_map] at this
  exact this
noncomputable abbrev T6 := Str × Expr × Str × Expr × List Expr × Scope
noncomputable def cc (i : Nat) : T6 := (cmpS (nth lB i)).getD (default, default, default, default, default, default)
theorem turn_elt' {Q : Rec} {c : Cx} {σ₀ : Sto} {p : PV} {ρ : Rho} {elt : Expr} {ifs : List Expr} (hi : ifs = []) (h : ∀ σ, G σ₀ σ → ∃ σ', Q.ev c ρ σ elt = some (p, σ') ∧ G σ σ') : TurnC Q c ρ ifs elt σ₀ (some (some p)) := by
  subst hi
  exact turn_elt h
theorem has_nil {ρ : Rho} {σ : Sto} : Has ρ σ [] := fun f hf => by cases hf
theorem st17 (K : P.Ok) (hF : Has ρ σ (E1 P)) : ∃ ρ' σ', (recN T3 14).ex lC ρ σ (nth lB 17) = some (.next, ρ', σ') ∧ G σ σ' ∧ Has ρ' σ' (E2 P) := by
  have hc : cmpS (nth lB 17) = some ((cc 17).1, (cc 17).2.1, (cc 17).2.2.1, (cc 17).2.2.2.1, (cc 17).2.2.2.2.1, (cc 17).2.2.2.2.2) := by kernel_rfl
  refine elEA (prng_ok (c := lC) (F := []) (R := (recP 13).p) (r := (0, 1, 8)) (e := (cc 17).2.2.2.1) (recP_ok 13).ev (has_nil (ρ := ρ) (σ := σ)) (by kernel_rfl) σ .rfl') fun σ₁ e₁ g₁ => ?_
  dsimp only at e₁
  have hn1 : (cc 17).1 = nWords := by kernel_rfl
  rw [hn1] at hc
  refine stepC (n := 13) (q := 8) (v := fun i => .int (0 + i * 1)) (f := fun i => some (some (.bytes (wb ((P.S.getD i 0).toNat, (P.N.getD i 0 / 2 % 8).toNat))))) hF hc (by kernel_rfl) (by kernel_rfl) (by kernel_rfl) (by kernel_rfl) trivial e₁ g₁ (by omega)
    (fun i σ hi _ => nx_rng hi) (fun σ _ => nx_rng_end (by omega)) (fun i hi HF => ?_) (by kernel_rfl)
  have hSl := row_len K.hS
  have hNl := K.hN
  have hsg : P.S.getD i 0 = 40 ∨ P.S.getD i 0 = 41 := by
    apply row_sign K.hS
    rw [List.getD_eq_getElem?_getD, List.getElem?_eq_getElem (by omega)]
    exact List.getElem_mem (by omega)
  have ht : ((0 : Int) + (i : Int) * 1).toNat = i := by omega
  refine turn_elt' (by kernel_rfl) ?_
  refine s_call (n := 12) (f := Str.ofString "_law_word") (args := [kd (cc 17).2.1 0, kd (cc 17).2.1 1]) (ps := [.int (P.S.getD i 0), .int (P.N.getD i 0 / 2 % 8)]) (by kernel_rfl) (by kernel_rfl)
    (.cons (by kernel_rfl) (s_idx (n := 11) (k := 0 + i * 1) (vs := P.S.map .int) (by kernel_rfl) (HF.nmL nSig _ (by kernel_rfl) (by kernel_rfl)) (HF.nmS (cc 17).2.2.1 _ (by kernel_rfl) (by kernel_rfl)) (by omega) (by rw [List.length_map, hSl]; decide) ?_)
      (.cons (by kernel_rfl) (s_bin (n := 11) (op := .Mod) (a := .int (P.N.getD i 0 / 2)) (b := .int 8) (by kernel_rfl)
        (s_bin (n := 10) (op := .FloorDiv) (a := .int (P.N.getD i 0)) (b := .int 2) (by kernel_rfl)
          (s_idx (n := 9) (k := 0 + i * 1) (vs := P.N.map .int) (by kernel_rfl) (HF.nmL nNum _ (by kernel_rfl) (by kernel_rfl)) (HF.nmS (cc 17).2.2.1 _ (by kernel_rfl) (by kernel_rfl)) (by omega) (by rw [List.length_map, hNl]; decide) ?_)
          (s_k (by kernel_rfl)) (div_any (by decide)))
        (s_k (by kernel_rfl)) (mod_any (by decide))) .nil)) (fun σ => ?_)
  · rw [ht, List.getElem?_map, List.getD_eq_getElem?_getD, List.getElem?_eq_getElem (by omega)]; rfl
  · rw [ht, List.getElem?_map, List.getD_eq_getElem?_getD, List.getElem?_eq_getElem (by omega)]; rfl
  · exact fWord_ok hsg (by omega) (by omega) σ
theorem st18 (K : P.Ok) (hF : Has ρ σ (E2 P)) : ∃ ρ' σ', (recN T3 14).ex lC ρ σ (nth lB 18) = some (.next, ρ', σ') ∧ G σ σ' ∧ Has ρ' σ' (E3 P) := by
  have hl : P.Q.length = 8 := qs_len _ _
  have h := s_join (n := 11) (c := lC) (ρ := ρ) (σ₀ := σ) (e := asE (nth lB 18)) (ss := P.Q.map wb) (by kernel_rfl) (by kernel_rfl) (s_k (by kernel_rfl)) (hF.nmL nWords (bl P.Q) (by kernel_rfl) (by kernel_rfl)) (by rw [joinB_fl, fl_len, hl]; decide) (by rw [List.length_map, hl]; decide)
  rw [joinB_fl] at h
  exact stepS (n := 13) (y := nHead) hF (by kernel_rfl) (by kernel_rfl) (by kernel_rfl) (by kernel_rfl) (x_ev (by kernel_rfl) h)
variable {n : Nat} {c : Cx} {σ₀ : Sto} {e : Expr}
theorem s_mul5 {k : Nat} (h : view e = .bin .Mult (kd e 0) (kd e 1)) (h5 : view (kd e 0) = .const (.int 5)) (hx : EvS (n + 1) c ρ σ₀ (kd e 1) (.int k)) (hk : k ≤ 8) : EvS (n + 2) c ρ σ₀ e (.int ((5 * k : Nat) : Int)) := by
  have := s_bin (op := .Mult) (a := .int 5) (b := .int k) h (s_k h5) hx (mul_any (by omega))
  rw [show (5 : Int) * (k : Int) = ((5 * k : Nat) : Int) from by omega] at this
  exact this
theorem hd_hi {V : List (Nat × Nat)} {k : Nat} {lo hi : Option Expr} (h : view e = .slice (kd e 0) lo hi) (hlo : lo = none) (hhi : hi = some (kd e 2)) (hv : EvS n c ρ σ₀ (kd e 0) (.bytes (fl V))) (hj : EvS n c ρ σ₀ (kd e 2) (.int ((5 * k : Nat) : Int))) (hl : V.length ≤ 8) : EvS (n + 1) c ρ σ₀ e (.bytes (fl (V.take k))) := by
  have := s_sl_hi h hlo hhi hv hj (by omega) (by rw [fl_len]; unfold lim; omega)
  rw [Int.toNat_natCast, fl_take] at this
  exact this
theorem hd_lo {V : List (Nat × Nat)} {k : Nat} {lo hi : Option Expr} (h : view e = .slice (kd e 0) lo hi) (hlo : lo = some (kd e 1)) (hhi : hi = none) (hv : EvS n c ρ σ₀ (kd e 0) (.bytes (fl V))) (hj : EvS n c ρ σ₀ (kd e 1) (.int ((5 * k : Nat) : Int))) (hl : V.length ≤ 8) : EvS (n + 1) c ρ σ₀ e (.bytes (fl (V.drop k))) := by
  have := s_sl_lo h hlo hhi hv hj (by omega) (by rw [fl_len]; unfold lim; omega)
  rw [Int.toNat_natCast, fl_drop] at this
  exact this
theorem hd_mid {V : List (Nat × Nat)} {j k : Nat} {lo hi : Option Expr} (h : view e = .slice (kd e 0) lo hi) (hlo : lo = some (kd e 1)) (hhi : hi = some (kd e 2)) (hv : EvS n c ρ σ₀ (kd e 0) (.bytes (fl V))) (hi' : EvS n c ρ σ₀ (kd e 1) (.int ((5 * j : Nat) : Int))) (hj : EvS n c ρ σ₀ (kd e 2) (.int ((5 * k : Nat) : Int))) (hl : V.length ≤ 8) : EvS (n + 1) c ρ σ₀ e (.bytes (fl ((V.take k).drop j))) := by
  have := s_sl h hlo hhi hv hi' hj (by omega) (by omega) (by rw [fl_len]; unfold lim; omega)
  rw [Int.toNat_natCast, Int.toNat_natCast, fl_take, fl_drop] at this
  exact this
end
end Mine.Internal
end
section
set_option maxRecDepth 100000
set_option backward.match.sparseCases false
namespace Mine.Internal
open PySem PyProof.Rows
noncomputable def flds (P : PC) : List (List UInt8) := [fl P.Q, fl (q1 P.Q P.l P.r), fl (q2 P.Q P.c), fl (q2 P.Q P.c) ++ [34] ++ byS P.S]
noncomputable def fstr (P : PC) : List (List Nat) := (flds P).map fun y => y.map UInt8.toNat
noncomputable def E6 (P : PC) : PEnv := (nFields, .ls ((fstr P).map .str)) :: E5 P
noncomputable def E7 (P : PC) : PEnv := (nGiven, .ls ((fstr P).map .str)) :: E6 P
noncomputable def E8 (P : PC) : PEnv := (nHalves, .ls (bl (q2 P.Q P.c))) :: E7 P
section
variable {n : Nat} {c : Cx} {ρ : Rho} {σ σ₀ : Sto} {e : Expr} {P : PC}
theorem hd_hi' {V : List (Nat × Nat)} {k : Nat} (h : view e = .slice (kd e 0) none (some (kd e 2))) (hv : EvS n c ρ σ₀ (kd e 0) (.bytes (fl V))) (hj : EvS n c ρ σ₀ (kd e 2) (.int ((5 * k : Nat) : Int))) (hl : V.length ≤ 8) : EvS (n + 1) c ρ σ₀ e (.bytes (fl (V.take k))) := hd_hi h rfl rfl hv hj hl
theorem hd_lo' {V : List (Nat × Nat)} {k : Nat} (h : view e = .slice (kd e 0) (some (kd e 1)) none) (hv : EvS n c ρ σ₀ (kd e 0) (.bytes (fl V))) (hj : EvS n c ρ σ₀ (kd e 1) (.int ((5 * k : Nat) : Int))) (hl : V.length ≤ 8) : EvS (n + 1) c ρ σ₀ e (.bytes (fl (V.drop k))) := hd_lo h rfl rfl hv hj hl
theorem hd_mid' {V : List (Nat × Nat)} {j k : Nat} (h : view e = .slice (kd e 0) (some (kd e 1)) (some (kd e 2))) (hv : EvS n c ρ σ₀ (kd e 0) (.bytes (fl V))) (hi' : EvS n c ρ σ₀ (kd e 1) (.int ((5 * j : Nat) : Int))) (hj : EvS n c ρ σ₀ (kd e 2) (.int ((5 * k : Nat) : Int))) (hl : V.length ≤ 8) : EvS (n + 1) c ρ σ₀ e (.bytes (fl ((V.take k).drop j))) := hd_mid h rfl rfl hv hi' hj hl
theorem x_about {V : List (Nat × Nat)} (h : view e = .call (Str.ofString "_law_about") [kd e 0]) (hk : c.sc.names.lookup (Str.ofString "_law_about") = some NameKind.globalImplicit) (hs : isStar (kd e 0) = false) (ha : EsS n c ρ σ₀ (kd e 0) (.bytes (fl V))) (hl : V.length ≤ 8) : EsS (n + 1) c ρ σ₀ e (.bytes (fl V.reverse)) :=
  x_call (g := fAbout) h hk (by kernel_rfl) (.cons hs ha .nil) (fAbout_ok hl)
theorem Q_len : P.Q.length = 8 := qs_len _ _
theorem q1_len {Q : List (Nat × Nat)} {l r : Nat} (h : l ≤ r) : (q1 Q l r).length = Q.length := by
  unfold q1
  rw [List.length_append, List.length_append, List.length_reverse, ← List.length_append, show Q.take l = (Q.take r).take l by rw [List.take_take, Nat.min_eq_left h], List.take_append_drop, ← List.length_append, List.take_append_drop]
theorem q2_len {Q : List (Nat × Nat)} {c : Nat} : (q2 Q c).length = Q.length := by
  unfold q2
  rw [List.length_append, List.length_reverse, List.length_reverse, ← List.length_append, List.take_append_drop]
theorem st19 (K : P.Ok) (hF : Has ρ σ (E3 P)) : ∃ ρ' σ', (recN T3 14).ex lC ρ σ (nth lB 19) = some (.next, ρ', σ') ∧ G σ σ' ∧ Has ρ' σ' (E4 P) := by
  have h8 := K.r8
  have hlr := K.lr
  have hq : P.Q.length = 8 := Q_len
  have hd : ∀ {n : Nat} {e : Expr}, view e = .name nHead → EvS (n + 1) lC ρ σ e (.bytes (fl P.Q)) := fun h => hF.nmS nHead _ (by kernel_rfl) h
  have le : ∀ {n : Nat} {e : Expr}, view e = .name nLeft → EvS (n + 1) lC ρ σ e (.int (P.l : Int)) := fun h => hF.nmS nLeft _ (by kernel_rfl) h
  have ri : ∀ {n : Nat} {e : Expr}, view e = .name nRight → EvS (n + 1) lC ρ σ e (.int (P.r : Int)) := fun h => hF.nmS nRight _ (by kernel_rfl) h
  refine stepS (n := 13) (y := nOnce) (p := .bytes (fl (q1 P.Q P.l P.r))) hF (by kernel_rfl) (by kernel_rfl) (by kernel_rfl) (by kernel_rfl)
    (x_bin (n := 12) (op := .Add) (a := .bytes (fl (P.Q.take P.l) ++ fl ((P.Q.take P.r).drop P.l).reverse)) (b := .bytes (fl (P.Q.drop P.r))) (by kernel_rfl)
      (x_bin (n := 11) (op := .Add) (a := .bytes (fl (P.Q.take P.l))) (b := .bytes (fl ((P.Q.take P.r).drop P.l).reverse)) (by kernel_rfl)
        (x_ev (n := 10) (by kernel_rfl) (hd_hi' (n := 9) (by kernel_rfl) (hd (by kernel_rfl)) (s_mul5 (n := 7) (by kernel_rfl) (by kernel_rfl) (le (by kernel_rfl)) (by first | exact Nat.le_of_eq hq | exact h8 | exact Nat.le_trans hlr h8 | exact Nat.le_trans (Nat.le_of_lt hlr) h8 | omega)) (by first | exact Nat.le_of_eq hq | exact h8 | exact Nat.le_trans hlr h8 | exact Nat.le_trans (Nat.le_of_lt hlr) h8 | omega)))
        (x_about (n := 10) (by kernel_rfl) (by kernel_rfl) (by kernel_rfl) (x_ev (n := 9) (by kernel_rfl)
          (hd_mid' (n := 8) (by kernel_rfl) (hd (by kernel_rfl)) (s_mul5 (n := 6) (by kernel_rfl) (by kernel_rfl) (le (by kernel_rfl)) (by first | exact Nat.le_of_eq hq | exact h8 | exact Nat.le_trans hlr h8 | exact Nat.le_trans (Nat.le_of_lt hlr) h8 | omega)) (s_mul5 (n := 6) (by kernel_rfl) (by kernel_rfl) (ri (by kernel_rfl)) (by first | exact Nat.le_of_eq hq | exact h8 | exact Nat.le_trans hlr h8 | exact Nat.le_trans (Nat.le_of_lt hlr) h8 | omega)) (by first | exact Nat.le_of_eq hq | exact h8 | exact Nat.le_trans hlr h8 | exact Nat.le_trans (Nat.le_of_lt hlr) h8 | omega)))
          (dr_le (tk_le (Nat.le_of_eq hq))))
        (addB_any (sm_le (fl_le (tk_le (Nat.le_of_eq hq))) (fl_le (rv_le (dr_le (tk_le (Nat.le_of_eq hq))))) (by decide))))
      (x_ev (n := 11) (by kernel_rfl) (hd_lo' (n := 10) (by kernel_rfl) (hd (by kernel_rfl)) (s_mul5 (n := 8) (by kernel_rfl) (by kernel_rfl) (ri (by kernel_rfl)) (by first | exact Nat.le_of_eq hq | exact h8 | exact Nat.le_trans hlr h8 | exact Nat.le_trans (Nat.le_of_lt hlr) h8 | omega)) (by first | exact Nat.le_of_eq hq | exact h8 | exact Nat.le_trans hlr h8 | exact Nat.le_trans (Nat.le_of_lt hlr) h8 | omega)))
      (fun σ => ?_))
  have := addB_any (u := fl (P.Q.take P.l) ++ fl ((P.Q.take P.r).drop P.l).reverse) (v := fl (P.Q.drop P.r)) (sm_le (ap_le (fl_le (tk_le (Nat.le_of_eq hq))) (fl_le (rv_le (dr_le (tk_le (Nat.le_of_eq hq)))))) (fl_le (dr_le (Nat.le_of_eq hq))) (by decide)) σ
  refine this.symm ▸ ?_
  unfold q1
  rw [fl_app, fl_app]
theorem st20 (K : P.Ok) (hF : Has ρ σ (E4 P)) : ∃ ρ' σ', (recN T3 14).ex lC ρ σ (nth lB 20) = some (.next, ρ', σ') ∧ G σ σ' ∧ Has ρ' σ' (E5 P) := by
  have h8 := K.c8
  have hq : P.Q.length = 8 := Q_len
  have hd : ∀ {n : Nat} {e : Expr}, view e = .name nHead → EvS (n + 1) lC ρ σ e (.bytes (fl P.Q)) := fun h => hF.nmS nHead _ (by kernel_rfl) h
  have cu : ∀ {n : Nat} {e : Expr}, view e = .name nCut → EvS (n + 1) lC ρ σ e (.int (P.c : Int)) := fun h => hF.nmS nCut _ (by kernel_rfl) h
  refine stepS (n := 13) (y := nTwice) (p := .bytes (fl (q2 P.Q P.c))) hF (by kernel_rfl) (by kernel_rfl) (by kernel_rfl) (by kernel_rfl)
    (x_bin (n := 12) (op := .Add) (a := .bytes (fl (P.Q.take P.c).reverse)) (b := .bytes (fl (P.Q.drop P.c).reverse)) (by kernel_rfl)
      (x_about (n := 11) (by kernel_rfl) (by kernel_rfl) (by kernel_rfl) (x_ev (n := 10) (by kernel_rfl)
        (hd_hi' (n := 9) (by kernel_rfl) (hd (by kernel_rfl)) (s_mul5 (n := 7) (by kernel_rfl) (by kernel_rfl) (cu (by kernel_rfl)) (by first | exact Nat.le_of_eq hq | exact h8 | exact Nat.le_of_lt h8 | omega)) (by first | exact Nat.le_of_eq hq | exact h8 | exact Nat.le_of_lt h8 | omega))) (tk_le (Nat.le_of_eq hq)))
      (x_about (n := 11) (by kernel_rfl) (by kernel_rfl) (by kernel_rfl) (x_ev (n := 10) (by kernel_rfl)
        (hd_lo' (n := 9) (by kernel_rfl) (hd (by kernel_rfl)) (s_mul5 (n := 7) (by kernel_rfl) (by kernel_rfl) (cu (by kernel_rfl)) (by first | exact Nat.le_of_eq hq | exact h8 | exact Nat.le_of_lt h8 | omega)) (by first | exact Nat.le_of_eq hq | exact h8 | exact Nat.le_of_lt h8 | omega))) (dr_le (Nat.le_of_eq hq)))
      (fun σ => ?_))
  have := addB_any (u := fl (P.Q.take P.c).reverse) (v := fl (P.Q.drop P.c).reverse) (sm_le (fl_le (rv_le (tk_le (Nat.le_of_eq hq)))) (fl_le (rv_le (dr_le (Nat.le_of_eq hq)))) (by decide)) σ
  refine this.symm ▸ ?_
  unfold q2
  rw [fl_app]
theorem flds_ok (K : P.Ok) : ∀ y ∈ flds P, asciiOk y = true ∧ y.length ≤ 60 := by
  have ok := qs_ok K.hS P.N
  have hq : P.Q.length = 8 := Q_len
  intro y hy
  unfold flds at hy
  simp only [List.mem_cons, List.not_mem_nil, or_false] at hy
  rcases hy with rfl | rfl | rfl | rfl
  · exact ⟨fl_ascii ok, by rw [fl_len, hq]; omega⟩
  · exact ⟨fl_ascii (q1_sub ok), by rw [fl_len, q1_len K.lr, hq]; omega⟩
  · exact ⟨fl_ascii (q2_sub ok), by rw [fl_len, q2_len, hq]; omega⟩
  · exact ⟨ascii_app (ascii_app (fl_ascii (q2_sub ok)) rfl) (byS_ascii K.hS), by rw [List.length_append, List.length_append, fl_len, q2_len, hq, byS_len K.hS]; decide⟩
theorem fstr_ok (K : P.Ok) : ∀ y ∈ fstr P, y.length ≤ 60 := by
  intro y hy
  refine elEA (List.mem_map.mp hy) fun z hz eq80x1 => ?_
  subst eq80x1
  rw [List.length_map]; exact (flds_ok K z hz).2
theorem st21 (K : P.Ok) (hF : Has ρ σ (E5 P)) : ∃ ρ' σ', (recN T3 14).ex lC ρ σ (nth lB 21) = some (.next, ρ', σ') ∧ G σ σ' ∧ Has ρ' σ' (E6 P) := by
  have hc : cmpS (nth lB 21) = some (nFields, (cc 21).2.1, (cc 21).2.2.1, (cc 21).2.2.2.1, (cc 21).2.2.2.2.1, (cc 21).2.2.2.2.2) := by kernel_rfl
  have hok := flds_ok K
  have hq : P.Q.length = 8 := Q_len
  have ht : tuP (cc 21).2.2.2.1 = some [kd (cc 21).2.2.2.1 0, kd (cc 21).2.2.2.1 1, kd (cc 21).2.2.2.1 2, kd (cc 21).2.2.2.1 3] := by kernel_rfl
  obtain ⟨m, σ₁, e₁, g₁, h₁⟩ := src_tup (n := 12) (c := lC) (ρ := ρ) (σ := σ) (vs := (flds P).map .bytes) ht
    (.cons (by kernel_rfl) (hF.nmS nHead _ (by kernel_rfl) (by kernel_rfl)) (.cons (by kernel_rfl) (hF.nmS nOnce _ (by kernel_rfl) (by kernel_rfl)) (.cons (by kernel_rfl) (hF.nmS nTwice _ (by kernel_rfl) (by kernel_rfl))
      (.cons (by kernel_rfl) (s_bin (n := 11) (op := .Add) (a := .bytes (fl (q2 P.Q P.c) ++ [34])) (b := .bytes (byS P.S)) (by kernel_rfl)
        (s_bin (n := 10) (op := .Add) (a := .bytes (fl (q2 P.Q P.c))) (b := .bytes [34]) (by kernel_rfl) (hF.nmS nTwice _ (by kernel_rfl) (by kernel_rfl)) (s_k (by kernel_rfl)) (addB_any (by rw [fl_len, q2_len, hq]; decide)))
        (hF.nmS nRow _ (by kernel_rfl) (by kernel_rfl)) (addB_any (by rw [List.length_append, fl_len, q2_len, hq, byS_len K.hS]; decide))) .nil)))) (by simp [flds])
  refine stepC (n := 13) (q := 4) (v := fun i => .bytes ((flds P).getD i [])) (f := fun i => some (some (.str (((flds P).getD i []).map UInt8.toNat)))) hF hc (by kernel_rfl) (by kernel_rfl) (by kernel_rfl) (by kernel_rfl) trivial e₁ g₁ (by omega)
    (fun i σ hi g => nx_tup (g.get h₁) (by
      have : i < (flds P).length := hi
      rw [List.getElem?_map, List.getD_eq_getElem?_getD, List.getElem?_eq_getElem this]; rfl)) (fun σ g => nx_tupE (g.get h₁) (by simp [flds])) (fun i hi HF => ?_) (by kernel_rfl)
  have hm : (flds P).getD i [] ∈ flds P := by
    have : i < (flds P).length := hi
    rw [List.getD_eq_getElem?_getD, List.getElem?_eq_getElem this]; exact List.getElem_mem this
  refine turn_elt' (by kernel_rfl) ?_
  exact s_decode (n := 12) (y := (flds P).getD i []) (by kernel_rfl) (by kernel_rfl) (HF.nmS (cc 21).2.2.1 _ (by kernel_rfl) (by kernel_rfl)) (s_k (by kernel_rfl)) (hok _ hm).1 (by have := (hok _ hm).2; unfold lim; omega)
theorem st22 (hF : Has ρ σ (E6 P)) : ∃ ρ' σ', (recN T3 14).ex lC ρ σ (nth lB 22) = some (.next, ρ', σ') ∧ G σ σ' ∧ Has ρ' σ' (E7 P) := by
  have h := x_addL (n := 12) (c := lC) (ρ := ρ) (σ₀ := σ) (e := asE (nth lB 22)) (xs := (fstr P).map .str) (ys := []) (by kernel_rfl) (x_evL (n := 11) (by kernel_rfl) (hF.nmL nFields _ (by kernel_rfl) (by kernel_rfl))) (x_evL (n := 11) (by kernel_rfl) (l_dsp (by kernel_rfl))) (by simp [fstr, flds, lim])
  rw [List.append_nil] at h
  exact stepL (n := 13) (y := nGiven) hF (by kernel_rfl) (by kernel_rfl) (by kernel_rfl) (by kernel_rfl) h
theorem bl_len (V : List (Nat × Nat)) : (bl V).length = V.length := by simp [bl]
theorem st23 (K : P.Ok) (hF : Has ρ σ (E7 P)) : ∃ ρ' σ', (recN T3 14).ex lC ρ σ (nth lB 23) = some (.next, ρ', σ') ∧ G σ σ' ∧ Has ρ' σ' (E8 P) := by
  have hq : P.Q.length = 8 := Q_len
  have wo : ∀ {n : Nat} {e : Expr}, view e = .name nWords → EvL (n + 1) lC ρ σ e (bl P.Q) := fun h => hF.nmL nWords _ (by kernel_rfl) h
  have cu : ∀ {n : Nat} {e : Expr}, view e = .name nCut → EvS (n + 1) lC ρ σ e (.int (P.c : Int)) := fun h => hF.nmS nCut _ (by kernel_rfl) h
  have h8 : (bl P.Q).length ≤ 8 := by rw [bl_len, hq]; exact Nat.le_refl 8
  have hlen : (bl P.Q).length ≤ lim := Nat.le_trans h8 (by decide)
  have h := x_addL (n := 12) (c := lC) (ρ := ρ) (σ₀ := σ) (e := asE (nth lB 23)) (xs := ((bl P.Q).take ((P.c : Int)).toNat).reverse) (ys := ((bl P.Q).drop ((P.c : Int)).toNat).reverse) (by kernel_rfl)
    (x_evL (n := 11) (by kernel_rfl) (l_rev (n := 10) (by kernel_rfl) (l_sl_hi (n := 9) (lo := none) (hi := some (kd (kd (kd (asE (nth lB 23)) 0) 0) 2)) (by kernel_rfl) rfl rfl (wo (by kernel_rfl)) (cu (by kernel_rfl)) (Int.natCast_nonneg _) hlen) (Nat.le_trans (tk_le h8) (by decide))))
    (x_evL (n := 11) (by kernel_rfl) (l_rev (n := 10) (by kernel_rfl) (l_sl_lo (n := 9) (lo := some (kd (kd (kd (asE (nth lB 23)) 1) 0) 1)) (hi := none) (by kernel_rfl) rfl rfl (wo (by kernel_rfl)) (cu (by kernel_rfl)) (Int.natCast_nonneg _) hlen) (Nat.le_trans (dr_le h8) (by decide))))
    (sm_le (rv_le (tk_le h8)) (rv_le (dr_le h8)) (by decide))
  have e : ((bl P.Q).take ((P.c : Int)).toNat).reverse ++ ((bl P.Q).drop ((P.c : Int)).toNat).reverse = bl (q2 P.Q P.c) := by
    rw [Int.toNat_natCast]
    unfold bl q2
    simp only [List.map_append, List.map_take, List.map_drop, List.map_reverse]
  rw [e] at h
  exact stepL (n := 13) (y := nHalves) hF (by kernel_rfl) (by kernel_rfl) (by kernel_rfl) (by kernel_rfl) h
end
end Mine.Internal
end
section
set_option maxRecDepth 100000
set_option backward.match.sparseCases false
namespace Mine.Internal
open PySem PyProof.Rows
noncomputable def lls (P : PC) : List (List (List UInt8)) := [P.Q.map wb, (q1 P.Q P.l P.r).map wb, (q2 P.Q P.c).map wb, (q2 P.Q P.c).map wb ++ [[34], byS P.S]]
noncomputable def lld (P : PC) : List (List PV) := (lls P).map fun ss => ss.map .bytes
noncomputable def gd (P : PC) : List Bool := [P.low == [], P.closes.contains true, true, P.low == []]
noncomputable def duev (P : PC) : List (List Nat) := (List.range 4).map fun i => if (gd P).getD i false then (fstr P).getD i [] else noVal
noncomputable def keptv (P : PC) : List (List Nat) := (fstr P).map fun x => if check x then x else noVal
noncomputable def E9 (P : PC) (ks : List Nat) : PEnv := (nLaid, .ls (ks.map .ref)) :: E8 P
noncomputable def E10 (P : PC) (ks : List Nat) : PEnv := (nGood, .ls ((gd P).map .bool)) :: E9 P ks
noncomputable def E11 (P : PC) (ks : List Nat) : PEnv := (nDue, .ls ((duev P).map .str)) :: E10 P ks
theorem Ats.at {σ : Sto} : ∀ {ks : List Nat} {vss : List (List PV)}, Ats σ ks vss → ∀ i, i < vss.length → σ[ks.getD i 0]? = some (.list (vss.getD i []))
  | [], [], _, i, hi => absurd hi (Nat.not_lt_zero _)
  | k :: ks, vs :: vss, h, 0, _ => h.1
  | k :: ks, vs :: vss, h, i + 1, hi => Ats.at h.2 i (by simpa using hi)
  | [], _ :: _, h, _, _ => h.elim
  | _ :: _, [], h, _, _ => h.elim
section
variable {ρ : Rho} {σ : Sto} {P : PC} {ks : List Nat}
theorem st24 (K : P.Ok) (hF : Has ρ σ (E8 P)) : ∃ ρ' σ', (recN T3 14).ex lC ρ σ (nth lB 24) = some (.next, ρ', σ') ∧ G σ σ' ∧ ∃ ks : List Nat, Has ρ' σ' (E9 P ks) ∧ Ats σ' ks (lld P) ∧ ks.length = 4 := by
  have hq : P.Q.length = 8 := Q_len
  have wo : ∀ {n : Nat} {e : Expr}, view e = .name nWords → EvL (n + 1) lC ρ σ e (bl P.Q) := fun h => hF.nmL nWords _ (by kernel_rfl) h
  have ha : ∀ {n : Nat} {e : Expr}, view e = .name nHalves → EvL (n + 1) lC ρ σ e (bl (q2 P.Q P.c)) := fun h => hF.nmL nHalves _ (by kernel_rfl) h
  have le : ∀ {n : Nat} {e : Expr}, view e = .name nLeft → EvS (n + 1) lC ρ σ e (.int (P.l : Int)) := fun h => hF.nmS nLeft _ (by kernel_rfl) h
  have ri : ∀ {n : Nat} {e : Expr}, view e = .name nRight → EvS (n + 1) lC ρ σ e (.int (P.r : Int)) := fun h => hF.nmS nRight _ (by kernel_rfl) h
  have h8 : (bl P.Q).length ≤ 8 := by rw [bl_len, hq]; exact Nat.le_refl 8
  have hlen : (bl P.Q).length ≤ lim := Nat.le_trans h8 (by decide)
  have h1 : EvL 11 lC ρ σ (kd (asE (nth lB 24)) 1) (bl (q1 P.Q P.l P.r)) := by
    have h := l_add (n := 10) (c := lC) (ρ := ρ) (σ₀ := σ) (e := kd (asE (nth lB 24)) 1) (xs := (bl P.Q).take ((P.l : Int)).toNat ++ (((bl P.Q).take ((P.r : Int)).toNat).drop ((P.l : Int)).toNat).reverse) (ys := (bl P.Q).drop ((P.r : Int)).toNat) (by kernel_rfl)
      (l_add (n := 9) (by kernel_rfl)
        (l_sl_hi (n := 8) (lo := none) (hi := some (kd (kd (kd (kd (asE (nth lB 24)) 1) 0) 0) 2)) (by kernel_rfl) rfl rfl (wo (by kernel_rfl)) (le (by kernel_rfl)) (Int.natCast_nonneg _) hlen)
        (l_rev (n := 8) (by kernel_rfl) (l_sl (n := 7) (lo := some (kd (kd (kd (kd (kd (asE (nth lB 24)) 1) 0) 1) 0) 1)) (hi := some (kd (kd (kd (kd (kd (asE (nth lB 24)) 1) 0) 1) 0) 2)) (by kernel_rfl) rfl rfl (wo (by kernel_rfl)) (le (by kernel_rfl)) (ri (by kernel_rfl)) (Int.natCast_nonneg _) (Int.natCast_nonneg _) hlen)
          (Nat.le_trans (dr_le (tk_le h8)) (by decide)))
        (sm_le (tk_le h8) (rv_le (dr_le (tk_le h8))) (by decide)))
      (l_sl_lo (n := 9) (lo := some (kd (kd (kd (asE (nth lB 24)) 1) 1) 1)) (hi := none) (by kernel_rfl) rfl rfl (wo (by kernel_rfl)) (ri (by kernel_rfl)) (Int.natCast_nonneg _) hlen)
      (sm_le (ap_le (tk_le h8) (rv_le (dr_le (tk_le h8)))) (dr_le h8) (by decide))
    have e : (bl P.Q).take ((P.l : Int)).toNat ++ (((bl P.Q).take ((P.r : Int)).toNat).drop ((P.l : Int)).toNat).reverse ++ (bl P.Q).drop ((P.r : Int)).toNat = bl (q1 P.Q P.l P.r) := by
      rw [Int.toNat_natCast, Int.toNat_natCast]
      unfold bl q1
      simp only [List.map_append, List.map_take, List.map_drop, List.map_reverse]
    rw [e] at h
    exact h
  have h3 : EvL 11 lC ρ σ (kd (asE (nth lB 24)) 3) (bl (q2 P.Q P.c) ++ [.bytes [34], .bytes (byS P.S)]) :=
    l_add (n := 10) (by kernel_rfl) (ha (by kernel_rfl)) (l_list (n := 9) (es := [kd (kd (kd (asE (nth lB 24)) 3) 1) 0, kd (kd (kd (asE (nth lB 24)) 3) 1) 1]) (by kernel_rfl)
      (.cons (by kernel_rfl) (s_k (by kernel_rfl)) (.cons (by kernel_rfl) (hF.nmS nRow _ (by kernel_rfl) (by kernel_rfl)) .nil)) (by simp)) (by rw [bl_len, q2_len, hq]; simp [lim])
  have hl : lld P = [bl P.Q, bl (q1 P.Q P.l P.r), bl (q2 P.Q P.c), bl (q2 P.Q P.c) ++ [.bytes [34], .bytes (byS P.S)]] := by
    simp [lld, lls, bl]
  have := stepLL (n := 11) (s := nth lB 24) (y := nLaid) (es := [kd (asE (nth lB 24)) 0, kd (asE (nth lB 24)) 1, kd (asE (nth lB 24)) 2, kd (asE (nth lB 24)) 3]) (vss := lld P) hF (by kernel_rfl) (by kernel_rfl) (by kernel_rfl) (by kernel_rfl) (by kernel_rfl) (by kernel_rfl)
    (by rw [hl]; exact .cons (by kernel_rfl) (wo (by kernel_rfl)) (.cons (by kernel_rfl) h1 (.cons (by kernel_rfl) (ha (by kernel_rfl)) (.cons (by kernel_rfl) h3 .nil)))) (by rw [hl]; simp)
  refine elEEAAEAA this fun ρ' σ' e g ks h a l => ?_
  try clear this
  exact ⟨ρ', σ', e, g, ks, h, a, by rw [l, hl]; rfl⟩
theorem st25 (hF : Has ρ σ (E9 P ks)) : ∃ ρ' σ', (recN T3 14).ex lC ρ σ (nth lB 25) = some (.next, ρ', σ') ∧ G σ σ' ∧ Has ρ' σ' (E10 P ks) := by
  refine stepL (n := 13) (y := nGood) hF (by kernel_rfl) (by kernel_rfl) (by kernel_rfl) (by kernel_rfl) (x_evL (n := 12) (by kernel_rfl)
    (l_list (n := 11) (es := [kd (asE (nth lB 25)) 0, kd (asE (nth lB 25)) 1, kd (asE (nth lB 25)) 2, kd (asE (nth lB 25)) 3]) (by kernel_rfl)
      (.cons (by kernel_rfl) (s_cmpL (n := 10) (op := .Eq) (xs := P.low.map .int) (ys := []) (by kernel_rfl) (hF.nmL nLow _ (by kernel_rfl) (by kernel_rfl)) (l_dsp (by kernel_rfl)) (fun σ m k hm hk => eqL_int (bs := []) σ m k hm hk))
        (.cons (by kernel_rfl) (s_in (n := 10) (d := true) (bs := P.closes) (by kernel_rfl) (s_k (by kernel_rfl)) (hF.nmL nClo _ (by kernel_rfl) (by kernel_rfl)))
          (.cons (by kernel_rfl) (s_k (by kernel_rfl))
            (.cons (by kernel_rfl) (s_cmpL (n := 10) (op := .Eq) (xs := P.low.map .int) (ys := []) (by kernel_rfl) (hF.nmL nLow _ (by kernel_rfl) (by kernel_rfl)) (l_dsp (by kernel_rfl)) (fun σ m k hm hk => eqL_int (bs := []) σ m k hm hk)) .nil)))) (by simp [gd])))
theorem joins (i : Nat) (hi : i < 4) : joinB [] ((lls P).getD i []) = (flds P).getD i [] := by
  match i, hi with
  | 0, _ => exact joinB_fl _
  | 1, _ => exact joinB_fl _
  | 2, _ => exact joinB_fl _
  | 3, _ =>
    refine (?_ : joinB [] ((q2 P.Q P.c).map wb ++ [[34], byS P.S]) = fl (q2 P.Q P.c) ++ [34] ++ byS P.S)
    rw [joinB_flat, List.flatten_append]
    simp [fl]
theorem lls_len (K : P.Ok) (i : Nat) (hi : i < 4) : 2 ≤ ((lls P).getD i []).length := by
  have hq : P.Q.length = 8 := Q_len
  match i, hi with
  | 0, _ => show 2 ≤ (P.Q.map wb).length; rw [List.length_map, hq]; decide
  | 1, _ => show 2 ≤ ((q1 P.Q P.l P.r).map wb).length; rw [List.length_map, q1_len K.lr, hq]; decide
  | 2, _ => show 2 ≤ ((q2 P.Q P.c).map wb).length; rw [List.length_map, q2_len, hq]; decide
  | 3, _ => show 2 ≤ ((q2 P.Q P.c).map wb ++ [[34], byS P.S]).length; rw [List.length_append]; simp
theorem st26 (K : P.Ok) (hks : ks.length = 4) (hA : Ats σ ks (lld P)) (hF : Has ρ σ (E10 P ks)) : ∃ ρ' σ', (recN T3 14).ex lC ρ σ (nth lB 26) = some (.next, ρ', σ') ∧ G σ σ' ∧ Has ρ' σ' (E11 P ks) := by
  have hc : cmpS (nth lB 26) = some (nDue, (cc 26).2.1, (cc 26).2.2.1, (cc 26).2.2.2.1, (cc 26).2.2.2.2.1, (cc 26).2.2.2.2.2) := by kernel_rfl
  refine elEA (prng_ok (c := lC) (F := []) (R := (recP 13).p) (r := (0, 1, 4)) (e := (cc 26).2.2.2.1) (recP_ok 13).ev (has_nil (ρ := ρ) (σ := σ)) (by kernel_rfl) σ .rfl') fun σ₁ e₁ g₁ => ?_
  dsimp only at e₁
  refine stepC (n := 13) (q := 4) (v := fun i => .int (0 + i * 1)) (f := fun i => some (some (.str (if (gd P).getD i false then (fstr P).getD i [] else noVal)))) hF hc (by kernel_rfl) (by kernel_rfl) (by kernel_rfl) (by kernel_rfl) trivial e₁ g₁ (by omega)
    (fun i σ hi _ => nx_rng hi) (fun σ _ => nx_rng_end (by omega)) (fun i hi HF => ?_) (by kernel_rfl)
  have ht : ((0 : Int) + (i : Int) * 1).toNat = i := by omega
  have hat := (hA.grow g₁).at i (show i < (lld P).length from hi)
  have hll : (lld P).getD i [] = ((lls P).getD i []).map .bytes := by
    have : i < (lls P).length := hi
    unfold lld
    rw [List.getD_eq_getElem?_getD, List.getElem?_map, List.getD_eq_getElem?_getD, List.getElem?_eq_getElem this]; rfl
  rw [hll] at hat
  have hm : (flds P).getD i [] ∈ flds P := by
    have : i < (flds P).length := hi
    rw [List.getD_eq_getElem?_getD, List.getElem?_eq_getElem this]; exact List.getElem_mem this
  have hok := flds_ok K _ hm
  have hfs : (fstr P).getD i [] = ((flds P).getD i []).map UInt8.toNat := by
    have : i < (flds P).length := hi
    unfold fstr
    rw [List.getD_eq_getElem?_getD, List.getElem?_map, List.getD_eq_getElem?_getD, List.getElem?_eq_getElem this]; rfl
  have kk : ∀ {n : Nat} {e : Expr}, view e = .name (cc 26).2.2.1 → EvS (n + 1) ⟨relab (cc 26).2.2.2.2.2 lC.sc, false⟩ (upd (freeOf (cc 26).2.2.2.2.2 ρ) (cc 26).2.2.1 (.int (0 + i * 1))) σ₁ e (.int (0 + i * 1)) := fun h => HF.nmS (cc 26).2.2.1 _ (by kernel_rfl) h
  refine turn_elt' (by kernel_rfl) ?_
  refine s_ite (n := 12) (u := (gd P).getD i false) (by kernel_rfl)
    (t_ev (n := 11) (p := .bool ((gd P).getD i false)) (by kernel_rfl) (s_idx (n := 10) (k := 0 + i * 1) (vs := (gd P).map .bool) (by kernel_rfl) (HF.nmL nGood _ (by kernel_rfl) (by kernel_rfl)) (kk (by kernel_rfl)) (by omega) (by simp [gd, lim]) ?_) rfl)
    (fun hg => ?_) (fun hg => ?_)
  · have : i < (gd P).length := hi
    rw [ht, List.getElem?_map, List.getD_eq_getElem?_getD, List.getElem?_eq_getElem this]; rfl
  · rw [hg, if_pos rfl, hfs]
    have hj := s_join (n := 10) (c := ⟨relab (cc 26).2.2.2.2.2 lC.sc, false⟩) (ρ := upd (freeOf (cc 26).2.2.2.2.2 ρ) (cc 26).2.2.1 (.int (0 + i * 1))) (σ₀ := σ₁) (e := kd (kd (cc 26).2.1 1) 0) (ss := (lls P).getD i []) (by kernel_rfl) (by kernel_rfl) (s_k (by kernel_rfl))
      (l_of_s (m := ks.getD i 0) (s_idx (n := 9) (k := 0 + i * 1) (vs := ks.map .ref) (by kernel_rfl) (HF.nmL nLaid _ (by kernel_rfl) (by kernel_rfl)) (kk (by kernel_rfl)) (by omega) (by rw [List.length_map, hks]; decide)
        (by rw [ht, List.getElem?_map, List.getD_eq_getElem?_getD, List.getElem?_eq_getElem (by omega)]; rfl)) hat)
      (by rw [joins i hi]; have := hok.2; unfold lim; omega) (lls_len K i hi)
    rw [joins i hi] at hj
    exact s_decode (n := 11) (by kernel_rfl) (by kernel_rfl) hj (s_k (by kernel_rfl)) hok.1 (by have := hok.2; unfold lim; omega)
  · rw [hg, if_neg Bool.false_ne_true]
    exact s_k (n := 11) (by kernel_rfl)
theorem kept_due (K : P.Ok) : keptv P = duev P := by
  have ok : okQ P.Q := qs_ok K.hS P.N
  have c0 : check ((fl P.Q).map UInt8.toNat) = (P.low == []) := by
    rw [fl_nat ok]
    refine (f0 K.hS).trans (K.k0.trans ?_)
    cases P.low <;> rfl
  have c1 : check ((fl (q1 P.Q P.l P.r)).map UInt8.toNat) = P.closes.contains true := by
    rw [fl_nat (q1_sub ok)]
    exact (f1 K.hS).trans K.k1
  have c2 : check ((fl (q2 P.Q P.c)).map UInt8.toNat) = true := by
    rw [fl_nat (q2_sub ok)]
    exact (f2 K.hS).trans K.k2
  have c3 : check ((fl (q2 P.Q P.c) ++ [34] ++ byS P.S).map UInt8.toNat) = (P.low == []) := by
    rw [List.map_append, List.map_append, fl_nat (q2_sub ok), byS_nat K.hS, List.append_assoc]
    refine (f3 K.hS).trans (K.k3.trans ?_)
    cases P.low <;> rfl
  show [if check ((fl P.Q).map UInt8.toNat) then (fl P.Q).map UInt8.toNat else noVal, if check ((fl (q1 P.Q P.l P.r)).map UInt8.toNat) then (fl (q1 P.Q P.l P.r)).map UInt8.toNat else noVal, if check ((fl (q2 P.Q P.c)).map UInt8.toNat) then (fl (q2 P.Q P.c)).map UInt8.toNat else noVal, if check ((fl (q2 P.Q P.c) ++ [34] ++ byS P.S).map UInt8.toNat) then (fl (q2 P.Q P.c) ++ [34] ++ byS P.S).map UInt8.toNat else noVal] =
    [if (P.low == []) = true then (fl P.Q).map UInt8.toNat else noVal, if P.closes.contains true = true then (fl (q1 P.Q P.l P.r)).map UInt8.toNat else noVal, if true = true then (fl (q2 P.Q P.c)).map UInt8.toNat else noVal, if (P.low == []) = true then (fl (q2 P.Q P.c) ++ [34] ++ byS P.S).map UInt8.toNat else noVal]
  rw [c0, c1, c2, c3]
end
end Mine.Internal
end
section
set_option maxRecDepth 100000
set_option backward.match.sparseCases false
namespace Mine.Internal
open PySem PyProof.Rows
noncomputable def E12 (P : PC) (ks : List Nat) : PEnv := (nKept, .ls ((keptv P).map .str)) :: E11 P ks
section
variable {ρ : Rho} {σ : Sto} {P : PC} {ks : List Nat}
theorem st27 (K : P.Ok) (hF : Has ρ σ (E11 P ks)) : ∃ ρ' σ' m k, (recN T3 14).ex lC ρ σ (nth lB 27) = some (.next, ρ', σ') ∧ Has ρ' σ' (E12 P ks) ∧ ρ'.lookup nKept = some (.ref m) ∧ ρ'.lookup nFields = some (.ref k) ∧ m ≠ k := by
  refine elEA (hF (nFields, .ls ((fstr P).map .str)) (mem_lookup (by kernel_rfl))) fun k h1 h2 => ?_
  have hp := fPre_ok (σ := σ) (ss := fstr P) (m := k) (by simp [fstr, flds]) (fun x hx => by have := fstr_ok K x hx; omega) h2
  have hkv : ((fstr P).map fun x => PV.str (if check x then x else noVal)) = (keptv P).map .str := by unfold keptv; rw [List.map_map]; rfl
  rw [hkv] at hp
  have he : (recN T3 13).es lC ρ σ (asE (nth lB 27)) = some (.ref σ.length, σ ++ [.list ((keptv P).map .str)]) := by
    have hv : view (asE (nth lB 27)) = .call (Str.ofString "_pre_parse_validation") [kd (asE (nth lB 27)) 0] := by kernel_rfl
    have hn : view (kd (asE (nth lB 27)) 0) = .name nFields := by kernel_rfl
    have ea : (recN T3 11).ev lC ρ σ (kd (asE (nth lB 27)) 0) = some (.ref k, σ) := (ev_of (n := 10) hn).trans (congrArg (Option.map fun v => (v, σ)) h1)
    exact (es_ev (by kernel_rfl)).trans ((ev_callF (g := fPre) hv (by kernel_rfl) rfl (evs_cons (by kernel_rfl) ea evs_nil)).trans hp)
  have hlt : k < σ.length := (List.getElem?_eq_some_iff.mp h2).1
  have hn : asN (nth lB 27) = nKept := by kernel_rfl
  refine ⟨upd ρ nKept (.ref σ.length), σ ++ [.list ((keptv P).map .str)], σ.length, k, ?_, ?_, ?_, ?_, by omega⟩
  · have := ex_asg (T := T3) (n := 13) (s := nth lB 27) (c := lC) (by kernel_rfl) (by kernel_rfl) he
    rw [hn] at this
    exact this
  · exact (hF.grow (.mk _)).setL (by kernel_rfl) get_new
  · rw [lookup_upd, if_pos rfl]
  · rw [lookup_upd, if_neg (by decide +kernel)]; exact h1
theorem st28 (K : P.Ok) (hF : Has ρ σ (E12 P ks)) {m k : Nat} (hm : ρ.lookup nKept = some (.ref m)) (hk : ρ.lookup nFields = some (.ref k)) (hne : m ≠ k) : ∃ σ', (recN T3 14).ex lC ρ σ (nth lB 28) = some (.ret (.bool true), ρ, σ') := by
  refine elEA (hF (nFields, .ls ((fstr P).map .str)) (mem_lookup (by kernel_rfl))) fun k' l1 i1 => ?_
  refine elEA (hF (nKept, .ls ((keptv P).map .str)) (mem_lookup (by kernel_rfl))) fun m' l2 i2 => ?_
  rw [hk] at l1; cases l1
  rw [hm] at l2; cases l2
  have d1 : keptv P ≠ [] := by simp [keptv, fstr, flds]
  have d2 : fstr P ≠ [] := by simp [fstr, flds]
  have a1 : EvS 11 lC ρ σ (kd (retE (nth lB 28)) 0) (.bool true) := by
    have h := s_cmpL (n := 10) (c := lC) (ρ := ρ) (σ₀ := σ) (e := kd (retE (nth lB 28)) 0) (op := .Eq) (xs := (keptv P).map .str) (ys := (duev P).map .str) (by kernel_rfl) (hF.nmL nKept _ (by kernel_rfl) (by kernel_rfl)) (hF.nmL nDue _ (by kernel_rfl) (by kernel_rfl)) (fun σ m k hm hk => eqL_str d1 σ m k hm hk)
    rw [kept_due K, beq_self_eq_true] at h
    exact h
  have a2 : EvS 11 lC ρ σ (kd (retE (nth lB 28)) 1) (.bool true) := by
    have h := s_cmpL (n := 10) (c := lC) (ρ := ρ) (σ₀ := σ) (e := kd (retE (nth lB 28)) 1) (op := .Eq) (xs := (fstr P).map .str) (ys := (fstr P).map .str) (by kernel_rfl) (hF.nmL nFields _ (by kernel_rfl) (by kernel_rfl)) (hF.nmL nGiven _ (by kernel_rfl) (by kernel_rfl)) (fun σ m k hm hk => eqL_str d2 σ m k hm hk)
    rw [beq_self_eq_true] at h
    exact h
  have a3 : EvS 11 lC ρ σ (kd (retE (nth lB 28)) 2) (.bool true) := fun τ g => by
    refine ⟨τ, ?_, .rfl'⟩
    have hv : view (kd (retE (nth lB 28)) 2) = .cmp .IsNot (kd (kd (retE (nth lB 28)) 2) 0) (kd (kd (retE (nth lB 28)) 2) 1) := by kernel_rfl
    have v0 : view (kd (kd (retE (nth lB 28)) 2) 0) = .name nKept := by kernel_rfl
    have v1 : view (kd (kd (retE (nth lB 28)) 2) 1) = .name nFields := by kernel_rfl
    have e0 : (recN T3 10).ev lC ρ τ (kd (kd (retE (nth lB 28)) 2) 0) = some (.ref m, τ) := (ev_of (n := 9) v0).trans (congrArg (Option.map fun v => (v, τ)) hm)
    have e1 : (recN T3 10).ev lC ρ τ (kd (kd (retE (nth lB 28)) 2) 1) = some (.ref k, τ) := (ev_of (n := 9) v1).trans (congrArg (Option.map fun v => (v, τ)) hk)
    have hc : cmpop .IsNot (.ref m) (.ref k) τ = some true := (bind_of (listAt_of (g.get i2))).trans ((bind_of (listAt_of (g.get i1))).trans (congrArg some (bne_iff_ne.mpr hne)))
    exact (ev_of (n := 10) hv).trans ((bnd_of e0).trans ((bnd_of e1).trans (congrArg (Option.map fun t => (PV.bool t, τ)) hc)))
  have h : EvS 12 lC ρ σ (retE (nth lB 28)) (.bool true) := s_and3 (n := 11) (u := true) (v := true) (w := true) (by kernel_rfl) a1 a2 a3
  refine elEA (h σ .rfl') fun σ' e' _ => ?_
  exact ⟨σ', ex_ret (n := 13) (by kernel_rfl) ((es_ev (by kernel_rfl)).trans e')⟩
theorem runC (K : P.Ok) (hF : Has ρ σ (E0 P)) : ∃ ρ' σ', exs (recN T3 14) lC ρ σ (lB.drop 16) = some (.ret (.bool true), ρ', σ') := by
  have hs : lB.drop 16 = [nth lB 16, nth lB 17, nth lB 18, nth lB 19, nth lB 20, nth lB 21, nth lB 22, nth lB 23, nth lB 24, nth lB 25, nth lB 26, nth lB 27, nth lB 28] := by kernel_rfl
  refine hs.symm ▸ ?_
  refine elEEAA (st16 K hF) fun ρ₁ σ₁ e₁ _ H₁ => ?_
  refine elEEAA (st17 K H₁) fun ρ₂ σ₂ e₂ _ H₂ => ?_
  refine elEEAA (st18 K H₂) fun ρ₃ σ₃ e₃ _ H₃ => ?_
  refine elEEAA (st19 K H₃) fun ρ₄ σ₄ e₄ _ H₄ => ?_
  refine elEEAA (st20 K H₄) fun ρ₅ σ₅ e₅ _ H₅ => ?_
  refine elEEAA (st21 K H₅) fun ρ₆ σ₆ e₆ _ H₆ => ?_
  refine elEEAA (st22 H₆) fun ρ₇ σ₇ e₇ _ H₇ => ?_
  refine elEEAA (st23 K H₇) fun ρ₈ σ₈ e₈ _ H₈ => ?_
  refine elEEAAEAA (st24 K H₈) fun ρ₉ σ₉ e₉ _ ks H₉ A₉ L₉ => ?_
  refine elEEAA (st25 H₉) fun ρ₁₀ σ₁₀ e₁₀ g₁₀ H₁₀ => ?_
  refine elEEAA (st26 K L₉ (A₉.grow g₁₀) H₁₀) fun ρ₁₁ σ₁₁ e₁₁ _ H₁₁ => ?_
  obtain ⟨ρ₁₂, σ₁₂, m, k, e₁₂, H₁₂, lm, lk, hne⟩ := st27 K H₁₁
  obtain ⟨σ₁₃, e₁₃⟩ := st28 K H₁₂ lm lk hne
  refine ⟨ρ₁₂, σ₁₃, ?_⟩
  rw [exs_next e₁, exs_next e₂, exs_next e₃, exs_next e₄, exs_next e₅, exs_next e₆, exs_next e₇, exs_next e₈, exs_next e₉, exs_next e₁₀, exs_next e₁₁, exs_next e₁₂]
  exact exs_ret e₁₃
end
theorem chk_ok {S N : List Int} {ρ : Rho} {σ : Sto} {F : PEnv} (hS : S ∈ rows) (hN : N.length = 8) (hF : HasD ρ σ F) (h1 : F.lookup nNum = some (.ls (N.map .int))) (h2 : F.lookup nSig = some (.ls (S.map .int))) (h3 : F.lookup nRow = some (.sc (.bytes (byS S)))) (hc : chk S F = true) : ∃ P : PC, P.Ok ∧ Has ρ σ (E0 P) := by
  replace hc : chkO S F = some true := beq_iff_eq.mp hc
  refine bindE hc fun l hl zz => ?_
  clear hc
  refine bindE zz fun r hr hc => ?_
  clear zz
  refine bindE hc fun tops' ht zz => ?_
  clear hc
  refine bindE zz fun closes' hcl hc => ?_
  clear zz
  refine bindE hc fun low' hlo zz => ?_
  clear hc
  rename _ => hc
  replace hc := Option.some.inj hc
  unfold condS at hc
  simp only [Bool.and_eq_true, decide_eq_true_eq, beq_iff_eq, List.all_eq_true, Bool.not_eq_true'] at hc
  refine elAA hc fun pt85x1 pt85x2 b10 => ?_
  try clear hc
  obtain ⟨⟨b1, b2⟩, b3⟩ := pt85x1
  obtain ⟨⟨⟨⟨⟨b4, b5⟩, b6⟩, b7⟩, b8⟩, b9⟩ := pt85x2
  have hpos : 0 < tops'.length := by
    cases tops' with
    | nil => cases b6
    | cons => simp
  have hk0 : 0 ≤ (N.foldl (· + ·) 0) % (tops'.length : Int) := Int.emod_nonneg _ (by omega)
  have hk1 : (N.foldl (· + ·) 0) % (tops'.length : Int) < tops'.length := Int.emod_lt_of_pos _ (by omega)
  have hkl : ((N.foldl (· + ·) 0) % (tops'.length : Int)).toNat < tops'.length := by omega
  have hmem : tops'[((N.foldl (· + ·) 0) % (tops'.length : Int)).toNat] ∈ tops' := List.getElem_mem hkl
  obtain ⟨⟨⟨t1, t2⟩, t3⟩, t4⟩ := b10 _ hmem
  have hemp : ∀ x : List Int, (x.map PV.int).isEmpty = x.isEmpty := by intro x; cases x <;> rfl
  rw [hemp] at b8 t4
  refine ⟨⟨S, N, l.toNat, r.toNat, (tops'[((N.foldl (· + ·) 0) % (tops'.length : Int)).toNat]).toNat, tops', closes', low'⟩, ⟨hS, hN, b4, b5, by show Int.toNat _ ≤ 8; omega, hpos, b7, b3, ?_, b8, b9, t3, t4⟩, ?_⟩
  · refine (?_ : tops'[((N.foldl (· + ·) 0) % (tops'.length : Int)).toNat]? = some (((tops'[((N.foldl (· + ·) 0) % (tops'.length : Int)).toNat]).toNat : Nat) : Int))
    rw [List.getElem?_eq_getElem hkl, Int.toNat_of_nonneg t1]
  · intro f hf
    have fact : ∀ {y : Str} {d : DV}, F.lookup y = some d → Fact ρ σ (y, d) := fun h => hF.has _ (mem_lookup h)
    unfold E0 at hf
    simp only [List.mem_cons, List.not_mem_nil, or_false, Int.toNat_of_nonneg b1, Int.toNat_of_nonneg b2] at hf
    rcases hf with rfl | rfl | rfl | rfl | rfl | rfl | rfl | rfl
    · exact fact h1
    · exact fact h2
    · exact fact h3
    · exact fact (lkI_ok hl)
    · exact fact (lkI_ok hr)
    · exact fact (lkInts ht)
    · exact fact (lkBools hcl)
    · exact fact (lkInts hlo)
theorem run_law {ns : List Int} (hn : ns.length ≤ 63) : ∃ n ρ' σ', exs (recN T3 n) ⟨fS (Str.ofString "law"), true⟩ [(Str.ofString "script", .xl ns)] [] (fB (Str.ofString "law")) = some (.ret (.bool true), ρ', σ') := by
  obtain ⟨N, ρ₁, σ₁, F, hN, e₁, H₁, h1, h2, h3, h4, hS⟩ := runB hn
  refine elEA (chk_ok hS hN H₁ h1 h2 h3 h4) fun P K hF => ?_
  refine elEE (runC K hF) fun ρ₂ σ₂ e₂ => ?_
  refine ⟨14, ρ₂, σ₂, ?_⟩
  have h := exs_app (b := lB.drop 16) e₁
  rw [List.take_append_drop] at h
  exact h.trans e₂
end Mine.Internal
end
theorem PySem.Challenge.cw_pg0065_01_holds : PySem.Challenge.rw_pg0065_01.Holds :=
  Mine.Internal.holds_of fun _ hn => Mine.Internal.run_law hn
