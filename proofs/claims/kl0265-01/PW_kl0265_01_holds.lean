import PyProof.Rows.All
import Wide.All
import OpenK.AllK
import Wide.FinOn
import Open.Tops
import Lean
import PySem.Challenge.RW_kl0265_01
section
open PySem PySem.W PyProof.Rows
set_option Elab.async false
set_option maxRecDepth 100000
set_option linter.unusedVariables false
namespace Mine
abbrev pw : Program := PySem.Challenge.pw_kl0265_01
noncomputable def st (i : Nat) : Stmt := (pw.main.body[i]?).getD (.Pass default)
noncomputable def fpar : Stmt → Arguments | .FunctionDef _ a .. => a | _ => default
noncomputable def fbody : Stmt → List Stmt | .FunctionDef _ _ b .. => b | _ => []
noncomputable def fscope : Stmt → Scope | .FunctionDef _ _ _ _ _ _ s .. => s | _ => default
noncomputable def cbody : Stmt → List Stmt | .ClassDef _ _ _ b .. => b | _ => []
noncomputable def mth (i : Nat) : Stmt := ((cbody (st 2))[i]?).getD (.Pass default)
noncomputable def top6.env_1 : Env := { scope := pw.main.scope, locals := mainNs, globals := mainNs, cells := [], code := .ref 13, frame := some 14 }
noncomputable def top6.o_2 : Params → Obj := fun P => { cls := Value.type "tuple", data := Data.seq #[] }
noncomputable def top6.o_3 : Params → Obj := fun P => { cls := Value.none, data := Data.fields #[] }
noncomputable def top6.o_4 : Params → Obj := fun P => { cls := Value.type "code", data := Data.fields #[Value.str (Str.ofString "<module>") 182, Value.str (Str.ofString "<module>") 183, Value.str (Str.ofString "/claim/cut.py") 184, Value.int 1 0, Value.int 0 0, Value.int 0 0, Value.int 0 0, Value.int 0 0, Value.ref 11, Value.bool Bool.false, Value.int 181 0, Value.ref 12, Value.none, Value.none, Value.none, Value.none, Value.int 185 0, Value.int 1 0, Value.str (Str.ofString "/claim/cut.py") 186] }
noncomputable def top6.o_5 : Params → Obj := fun P => { cls := Value.type "frame", slots := #[Option.some (Value.ref 13), Option.some (Value.ref 3), Option.some (Value.ref 3), Option.none, Option.some (Value.str (Str.ofString "__main__") 164), Option.none, Option.some (Value.ref 0)] }
noncomputable def top6.o_8 : Params → Obj := fun P => { cls := Value.type "dict", data := Data.dict #[{ hash := PyData.keyHash P (Str.ofString "__name__"), key := Value.str (Str.ofString "__name__") 165, val := Value.str (Str.ofString "cpy313.tabnanny") 194 }, { hash := PyData.keyHash P (Str.ofString "__doc__"), key := Value.str (Str.ofString "__doc__") 166, val := Value.none }, { hash := PyData.keyHash P (Str.ofString "__package__"), key := Value.str (Str.ofString "__package__") 167, val := Value.none }, { hash := PyData.keyHash P (Str.ofString "__loader__"), key := Value.str (Str.ofString "__loader__") 168, val := Value.builtin "__main__.__loader__#opaque" }, { hash := PyData.keyHash P (Str.ofString "__spec__"), key := Value.str (Str.ofString "__spec__") 169, val := Value.none }, { hash := PyData.keyHash P (Str.ofString "__annotations__"), key := Value.str (Str.ofString "__annotations__") 170, val := Value.ref 6 }, { hash := PyData.keyHash P (Str.ofString "__builtins__"), key := Value.str (Str.ofString "__builtins__") 171, val := Value.ref 4 }, { hash := PyData.keyHash P (Str.ofString "__file__"), key := Value.str (Str.ofString "__file__") 173, val := Value.str (Str.ofString "/claim/cut.py") 172 }, { hash := PyData.keyHash P (Str.ofString "__cached__"), key := Value.str (Str.ofString "__cached__") 174, val := Value.none }, { hash := PyData.keyHash P (Str.ofString "_wall"), key := Value.str (Str.ofString "_wall") 193, val := Value.ref 21 }] 10 }
noncomputable def top6.o_9 : Params → Obj := fun P => { cls := Value.none, data := Data.fields #[Value.int 1 0, Value.int 0 0, Value.ref 20] }
noncomputable def top6.o_10 : Params → Obj := fun P => { cls := Value.type "tuple", data := Data.seq #[] }
noncomputable def top6.o_11 : Params → Obj := fun P => { cls := Value.none, data := Data.fields #[] }
noncomputable def top6.o_12 : Params → Obj := fun P => { cls := Value.type "tuple", data := Data.seq #[Value.str (Str.ofString "k") 190] }
noncomputable def top6.o_13 : Params → Obj := fun P => { cls := Value.type "tuple", data := Data.seq #[] }
noncomputable def top6.o_14 : Params → Obj := fun P => { cls := Value.none, data := Data.func { name := Str.ofString "_wall", qualname := Str.ofString "_wall", params := fpar (st 0), body := FuncBody.stmts (fbody (st 0)), scope := fscope (st 0), globals := 0, closure := [], defaults := Value.none, kwdefaults := Value.none } }
noncomputable def top6.o_15 : Params → Obj := fun P => { cls := Value.type "code", data := Data.fields #[Value.str (Str.ofString "_wall") 187, Value.str (Str.ofString "_wall") 188, Value.str (Str.ofString "/claim/cut.py") 189, Value.int 1 0, Value.int 1 0, Value.int 0 0, Value.int 0 0, Value.int 3 0, Value.ref 15, Value.bool Bool.true, Value.int 181 0, Value.ref 16, Value.none, Value.ref 17, Value.ref 18, Value.ref 19, Value.int 191 0, Value.int 1 0, Value.str (Str.ofString "/claim/cut.py") 192] }
noncomputable def top6.o_16 : Params → Obj := fun P => { cls := Value.type "function", data := Data.func { name := Str.ofString "_wall", qualname := Str.ofString "_wall", params := fpar (st 0), body := FuncBody.stmts (fbody (st 0)), scope := fscope (st 0), globals := 3, closure := [], defaults := Value.none, kwdefaults := Value.none, pyModule := Value.str (Str.ofString "__main__") 164, code := Value.ref 20 } }
noncomputable def top6.o_21 : Params → Obj := fun P => { cls := Value.type "dict", data := Data.dict #[{ hash := PyData.keyHash P (Str.ofString "__name__"), key := Value.str (Str.ofString "__name__") 165, val := Value.str (Str.ofString "cpy313.tabnanny") 194 }, { hash := PyData.keyHash P (Str.ofString "__doc__"), key := Value.str (Str.ofString "__doc__") 166, val := Value.none }, { hash := PyData.keyHash P (Str.ofString "__package__"), key := Value.str (Str.ofString "__package__") 167, val := Value.none }, { hash := PyData.keyHash P (Str.ofString "__loader__"), key := Value.str (Str.ofString "__loader__") 168, val := Value.builtin "__main__.__loader__#opaque" }, { hash := PyData.keyHash P (Str.ofString "__spec__"), key := Value.str (Str.ofString "__spec__") 169, val := Value.none }, { hash := PyData.keyHash P (Str.ofString "__annotations__"), key := Value.str (Str.ofString "__annotations__") 170, val := Value.ref 6 }, { hash := PyData.keyHash P (Str.ofString "__builtins__"), key := Value.str (Str.ofString "__builtins__") 171, val := Value.ref 4 }, { hash := PyData.keyHash P (Str.ofString "__file__"), key := Value.str (Str.ofString "__file__") 173, val := Value.str (Str.ofString "/claim/cut.py") 172 }, { hash := PyData.keyHash P (Str.ofString "__cached__"), key := Value.str (Str.ofString "__cached__") 174, val := Value.none }, { hash := PyData.keyHash P (Str.ofString "_wall"), key := Value.str (Str.ofString "_wall") 193, val := Value.ref 21 }, { hash := PyData.keyHash P (Str.ofString "Whitespace"), key := Value.str (Str.ofString "Whitespace") 295, val := Value.ref 83 }] 11 }
noncomputable def top6.o_22 : Params → Obj := fun P => { cls := Value.none, data := Data.fields #[Value.int 1 0, Value.int 0 0, Value.ref 20, Value.int 5 0, Value.int 0 0, Value.ref 27] }
noncomputable def top6.o_23 : Params → Obj := fun P => { cls := Value.type "tuple", data := Data.seq #[] }
noncomputable def top6.o_24 : Params → Obj := fun P => { cls := Value.type "builtin_function_or_method", data := Data.fields #[Value.builtin "type.__prepare__", Value.type "type"] }
noncomputable def top6.o_25 : Params → Obj := fun P => { cls := Value.type "dict", data := Data.dict #[{ hash := PyData.keyHash P (Str.ofString "__module__"), key := Value.str (Str.ofString "__module__") 203, val := Value.str (Str.ofString "cpy313.tabnanny") 194 }, { hash := PyData.keyHash P (Str.ofString "__qualname__"), key := Value.str (Str.ofString "__qualname__") 205, val := Value.str (Str.ofString "Whitespace") 204 }, { hash := PyData.keyHash P (Str.ofString "__firstlineno__"), key := Value.str (Str.ofString "__firstlineno__") 207, val := Value.int 5 206 }, { hash := PyData.keyHash P (Str.ofString "S"), key := Value.str (Str.ofString "S") 211, val := Value.str (Str.ofString " ") 209 }, { hash := PyData.keyHash P (Str.ofString "T"), key := Value.str (Str.ofString "T") 212, val := Value.str (Str.ofString "\t") 210 }, { hash := PyData.keyHash P (Str.ofString "__init__"), key := Value.str (Str.ofString "__init__") 227, val := Value.ref 38 }, { hash := PyData.keyHash P (Str.ofString "longest_run_of_spaces"), key := Value.str (Str.ofString "longest_run_of_spaces") 236, val := Value.ref 45 }, { hash := PyData.keyHash P (Str.ofString "indent_level"), key := Value.str (Str.ofString "indent_level") 248, val := Value.ref 52 }, { hash := PyData.keyHash P (Str.ofString "equal"), key := Value.str (Str.ofString "equal") 256, val := Value.ref 59 }, { hash := PyData.keyHash P (Str.ofString "not_equal_witness"), key := Value.str (Str.ofString "not_equal_witness") 264, val := Value.ref 66 }, { hash := PyData.keyHash P (Str.ofString "less"), key := Value.str (Str.ofString "less") 274, val := Value.ref 73 }, { hash := PyData.keyHash P (Str.ofString "not_less_witness"), key := Value.str (Str.ofString "not_less_witness") 282, val := Value.ref 80 }, { hash := PyData.keyHash P (Str.ofString "__static_attributes__"), key := Value.str (Str.ofString "__static_attributes__") 288, val := Value.ref 81 }] 13 }
noncomputable def top6.o_26 : Params → Obj := fun P => { cls := Value.type "tuple", data := Data.seq #[] }
noncomputable def top6.o_27 : Params → Obj := fun P => { cls := Value.none, data := Data.fields #[Value.int 8 0, Value.int 4 0, Value.ref 37, Value.int 31 0, Value.int 4 0, Value.ref 44, Value.int 35 0, Value.int 4 0, Value.ref 51, Value.int 42 0, Value.int 4 0, Value.ref 58, Value.int 45 0, Value.int 4 0, Value.ref 65, Value.int 48 0, Value.int 4 0, Value.ref 72, Value.int 59 0, Value.int 4 0, Value.ref 79] }
noncomputable def top6.o_28 : Params → Obj := fun P => { cls := Value.type "code", data := Data.fields #[Value.str (Str.ofString "Whitespace") 198, Value.str (Str.ofString "Whitespace") 199, Value.str (Str.ofString "/claim/cut.py") 200, Value.int 5 0, Value.int 0 0, Value.int 0 0, Value.int 0 0, Value.int 0 0, Value.ref 25, Value.bool Bool.false, Value.int 181 0, Value.ref 26, Value.none, Value.none, Value.none, Value.none, Value.int 201 0, Value.int 5 0, Value.str (Str.ofString "/claim/cut.py") 202] }
noncomputable def top6.o_29 : Params → Obj := fun P => { cls := Value.type "frame", slots := #[Option.some (Value.ref 27), Option.some (Value.ref 3), Option.some (Value.ref 24), Option.none, Option.some (Value.str (Str.ofString "cpy313.tabnanny") 194), Option.none, Option.some (Value.ref 0)] }
noncomputable def top6.o_30 : Params → Obj := fun P => { cls := Value.type "str_ascii_iterator", data := Data.fields #[Value.none, Value.int 2 0] }
noncomputable def top6.o_31 : Params → Obj := fun P => { cls := Value.type "tuple", data := Data.seq #[] }
noncomputable def top6.o_32 : Params → Obj := fun P => { cls := Value.type "StopIteration", data := Data.fields #[Value.ref 30, Value.none, Value.none, Value.none, Value.bool Bool.false, Value.none] }
noncomputable def top6.o_33 : Params → Obj := fun P => { cls := Value.type "tuple", data := Data.seq #[] }
noncomputable def top6.o_34 : Params → Obj := fun P => { cls := Value.none, data := Data.fields #[] }
noncomputable def top6.o_35 : Params → Obj := fun P => { cls := Value.type "tuple", data := Data.seq #[Value.str (Str.ofString "self") 216, Value.str (Str.ofString "ws") 217, Value.str (Str.ofString "S") 218, Value.str (Str.ofString "T") 219, Value.str (Str.ofString "count") 220, Value.str (Str.ofString "b") 221, Value.str (Str.ofString "n") 222, Value.str (Str.ofString "nt") 223, Value.str (Str.ofString "ch") 224] }
noncomputable def top6.o_36 : Params → Obj := fun P => { cls := Value.type "tuple", data := Data.seq #[] }
noncomputable def top6.o_37 : Params → Obj := fun P => { cls := Value.none, data := Data.func { name := Str.ofString "__init__", qualname := Str.ofString "Whitespace.__init__", params := fpar (mth 1), body := FuncBody.stmts (fbody (mth 1)), scope := fscope (mth 1), globals := 0, closure := [], defaults := Value.none, kwdefaults := Value.none } }
noncomputable def top6.o_38 : Params → Obj := fun P => { cls := Value.type "code", data := Data.fields #[Value.str (Str.ofString "__init__") 213, Value.str (Str.ofString "Whitespace.__init__") 214, Value.str (Str.ofString "/claim/cut.py") 215, Value.int 8 0, Value.int 2 0, Value.int 0 0, Value.int 0 0, Value.int 3 0, Value.ref 32, Value.bool Bool.true, Value.int 181 0, Value.ref 33, Value.none, Value.ref 34, Value.ref 35, Value.ref 36, Value.int 225 0, Value.int 8 0, Value.str (Str.ofString "/claim/cut.py") 226] }
noncomputable def top6.o_39 : Params → Obj := fun P => { cls := Value.type "function", data := Data.func { name := Str.ofString "__init__", qualname := Str.ofString "Whitespace.__init__", params := fpar (mth 1), body := FuncBody.stmts (fbody (mth 1)), scope := fscope (mth 1), globals := 3, closure := [], defaults := Value.none, kwdefaults := Value.none, pyModule := Value.str (Str.ofString "cpy313.tabnanny") 194, code := Value.ref 37 } }
noncomputable def top6.o_40 : Params → Obj := fun P => { cls := Value.type "tuple", data := Data.seq #[] }
noncomputable def top6.o_41 : Params → Obj := fun P => { cls := Value.none, data := Data.fields #[] }
noncomputable def top6.o_42 : Params → Obj := fun P => { cls := Value.type "tuple", data := Data.seq #[Value.str (Str.ofString "self") 231, Value.str (Str.ofString "count") 232, Value.str (Str.ofString "trailing") 233] }
noncomputable def top6.o_43 : Params → Obj := fun P => { cls := Value.type "tuple", data := Data.seq #[] }
noncomputable def top6.o_44 : Params → Obj := fun P => { cls := Value.none, data := Data.func { name := Str.ofString "longest_run_of_spaces", qualname := Str.ofString "Whitespace.longest_run_of_spaces", params := fpar (mth 2), body := FuncBody.stmts (fbody (mth 2)), scope := fscope (mth 2), globals := 0, closure := [], defaults := Value.none, kwdefaults := Value.none } }
noncomputable def top6.o_45 : Params → Obj := fun P => { cls := Value.type "code", data := Data.fields #[Value.str (Str.ofString "longest_run_of_spaces") 228, Value.str (Str.ofString "Whitespace.longest_run_of_spaces") 229, Value.str (Str.ofString "/claim/cut.py") 230, Value.int 31 0, Value.int 1 0, Value.int 0 0, Value.int 0 0, Value.int 3 0, Value.ref 39, Value.bool Bool.true, Value.int 181 0, Value.ref 40, Value.none, Value.ref 41, Value.ref 42, Value.ref 43, Value.int 234 0, Value.int 31 0, Value.str (Str.ofString "/claim/cut.py") 235] }
noncomputable def top6.o_46 : Params → Obj := fun P => { cls := Value.type "function", data := Data.func { name := Str.ofString "longest_run_of_spaces", qualname := Str.ofString "Whitespace.longest_run_of_spaces", params := fpar (mth 2), body := FuncBody.stmts (fbody (mth 2)), scope := fscope (mth 2), globals := 3, closure := [], defaults := Value.none, kwdefaults := Value.none, pyModule := Value.str (Str.ofString "cpy313.tabnanny") 194, code := Value.ref 44 } }
noncomputable def top6.o_47 : Params → Obj := fun P => { cls := Value.type "tuple", data := Data.seq #[] }
noncomputable def top6.o_48 : Params → Obj := fun P => { cls := Value.none, data := Data.fields #[] }
noncomputable def top6.o_49 : Params → Obj := fun P => { cls := Value.type "tuple", data := Data.seq #[Value.str (Str.ofString "self") 240, Value.str (Str.ofString "tabsize") 241, Value.str (Str.ofString "count") 242, Value.str (Str.ofString "trailing") 243, Value.str (Str.ofString "il") 244, Value.str (Str.ofString "i") 245] }
noncomputable def top6.o_50 : Params → Obj := fun P => { cls := Value.type "tuple", data := Data.seq #[] }
noncomputable def top6.o_51 : Params → Obj := fun P => { cls := Value.none, data := Data.func { name := Str.ofString "indent_level", qualname := Str.ofString "Whitespace.indent_level", params := fpar (mth 3), body := FuncBody.stmts (fbody (mth 3)), scope := fscope (mth 3), globals := 0, closure := [], defaults := Value.none, kwdefaults := Value.none } }
noncomputable def top6.o_52 : Params → Obj := fun P => { cls := Value.type "code", data := Data.fields #[Value.str (Str.ofString "indent_level") 237, Value.str (Str.ofString "Whitespace.indent_level") 238, Value.str (Str.ofString "/claim/cut.py") 239, Value.int 35 0, Value.int 2 0, Value.int 0 0, Value.int 0 0, Value.int 3 0, Value.ref 46, Value.bool Bool.true, Value.int 181 0, Value.ref 47, Value.none, Value.ref 48, Value.ref 49, Value.ref 50, Value.int 246 0, Value.int 35 0, Value.str (Str.ofString "/claim/cut.py") 247] }
noncomputable def top6.o_53 : Params → Obj := fun P => { cls := Value.type "function", data := Data.func { name := Str.ofString "indent_level", qualname := Str.ofString "Whitespace.indent_level", params := fpar (mth 3), body := FuncBody.stmts (fbody (mth 3)), scope := fscope (mth 3), globals := 3, closure := [], defaults := Value.none, kwdefaults := Value.none, pyModule := Value.str (Str.ofString "cpy313.tabnanny") 194, code := Value.ref 51 } }
noncomputable def top6.o_54 : Params → Obj := fun P => { cls := Value.type "tuple", data := Data.seq #[] }
noncomputable def top6.o_55 : Params → Obj := fun P => { cls := Value.none, data := Data.fields #[] }
noncomputable def top6.o_56 : Params → Obj := fun P => { cls := Value.type "tuple", data := Data.seq #[Value.str (Str.ofString "self") 252, Value.str (Str.ofString "other") 253] }
noncomputable def top6.o_57 : Params → Obj := fun P => { cls := Value.type "tuple", data := Data.seq #[] }
noncomputable def top6.o_58 : Params → Obj := fun P => { cls := Value.none, data := Data.func { name := Str.ofString "equal", qualname := Str.ofString "Whitespace.equal", params := fpar (mth 4), body := FuncBody.stmts (fbody (mth 4)), scope := fscope (mth 4), globals := 0, closure := [], defaults := Value.none, kwdefaults := Value.none } }
noncomputable def top6.o_59 : Params → Obj := fun P => { cls := Value.type "code", data := Data.fields #[Value.str (Str.ofString "equal") 249, Value.str (Str.ofString "Whitespace.equal") 250, Value.str (Str.ofString "/claim/cut.py") 251, Value.int 42 0, Value.int 2 0, Value.int 0 0, Value.int 0 0, Value.int 3 0, Value.ref 53, Value.bool Bool.true, Value.int 181 0, Value.ref 54, Value.none, Value.ref 55, Value.ref 56, Value.ref 57, Value.int 254 0, Value.int 42 0, Value.str (Str.ofString "/claim/cut.py") 255] }
noncomputable def top6.o_60 : Params → Obj := fun P => { cls := Value.type "function", data := Data.func { name := Str.ofString "equal", qualname := Str.ofString "Whitespace.equal", params := fpar (mth 4), body := FuncBody.stmts (fbody (mth 4)), scope := fscope (mth 4), globals := 3, closure := [], defaults := Value.none, kwdefaults := Value.none, pyModule := Value.str (Str.ofString "cpy313.tabnanny") 194, code := Value.ref 58 } }
noncomputable def top6.o_61 : Params → Obj := fun P => { cls := Value.type "tuple", data := Data.seq #[] }
noncomputable def top6.o_62 : Params → Obj := fun P => { cls := Value.none, data := Data.fields #[] }
noncomputable def top6.o_63 : Params → Obj := fun P => { cls := Value.type "tuple", data := Data.seq #[Value.str (Str.ofString "self") 260, Value.str (Str.ofString "other") 261] }
noncomputable def top6.o_64 : Params → Obj := fun P => { cls := Value.type "tuple", data := Data.seq #[] }
noncomputable def top6.o_65 : Params → Obj := fun P => { cls := Value.none, data := Data.func { name := Str.ofString "not_equal_witness", qualname := Str.ofString "Whitespace.not_equal_witness", params := fpar (mth 5), body := FuncBody.stmts (fbody (mth 5)), scope := fscope (mth 5), globals := 0, closure := [], defaults := Value.none, kwdefaults := Value.none } }
noncomputable def top6.o_66 : Params → Obj := fun P => { cls := Value.type "code", data := Data.fields #[Value.str (Str.ofString "not_equal_witness") 257, Value.str (Str.ofString "Whitespace.not_equal_witness") 258, Value.str (Str.ofString "/claim/cut.py") 259, Value.int 45 0, Value.int 2 0, Value.int 0 0, Value.int 0 0, Value.int 3 0, Value.ref 60, Value.bool Bool.true, Value.int 181 0, Value.ref 61, Value.none, Value.ref 62, Value.ref 63, Value.ref 64, Value.int 262 0, Value.int 45 0, Value.str (Str.ofString "/claim/cut.py") 263] }
noncomputable def top6.o_67 : Params → Obj := fun P => { cls := Value.type "function", data := Data.func { name := Str.ofString "not_equal_witness", qualname := Str.ofString "Whitespace.not_equal_witness", params := fpar (mth 5), body := FuncBody.stmts (fbody (mth 5)), scope := fscope (mth 5), globals := 3, closure := [], defaults := Value.none, kwdefaults := Value.none, pyModule := Value.str (Str.ofString "cpy313.tabnanny") 194, code := Value.ref 65 } }
noncomputable def top6.o_68 : Params → Obj := fun P => { cls := Value.type "tuple", data := Data.seq #[] }
noncomputable def top6.o_69 : Params → Obj := fun P => { cls := Value.none, data := Data.fields #[] }
noncomputable def top6.o_70 : Params → Obj := fun P => { cls := Value.type "tuple", data := Data.seq #[Value.str (Str.ofString "self") 268, Value.str (Str.ofString "other") 269, Value.str (Str.ofString "n") 270, Value.str (Str.ofString "ts") 271] }
noncomputable def top6.o_71 : Params → Obj := fun P => { cls := Value.type "tuple", data := Data.seq #[] }
noncomputable def top6.o_72 : Params → Obj := fun P => { cls := Value.none, data := Data.func { name := Str.ofString "less", qualname := Str.ofString "Whitespace.less", params := fpar (mth 6), body := FuncBody.stmts (fbody (mth 6)), scope := fscope (mth 6), globals := 0, closure := [], defaults := Value.none, kwdefaults := Value.none } }
noncomputable def top6.o_73 : Params → Obj := fun P => { cls := Value.type "code", data := Data.fields #[Value.str (Str.ofString "less") 265, Value.str (Str.ofString "Whitespace.less") 266, Value.str (Str.ofString "/claim/cut.py") 267, Value.int 48 0, Value.int 2 0, Value.int 0 0, Value.int 0 0, Value.int 3 0, Value.ref 67, Value.bool Bool.true, Value.int 181 0, Value.ref 68, Value.none, Value.ref 69, Value.ref 70, Value.ref 71, Value.int 272 0, Value.int 48 0, Value.str (Str.ofString "/claim/cut.py") 273] }
noncomputable def top6.o_74 : Params → Obj := fun P => { cls := Value.type "function", data := Data.func { name := Str.ofString "less", qualname := Str.ofString "Whitespace.less", params := fpar (mth 6), body := FuncBody.stmts (fbody (mth 6)), scope := fscope (mth 6), globals := 3, closure := [], defaults := Value.none, kwdefaults := Value.none, pyModule := Value.str (Str.ofString "cpy313.tabnanny") 194, code := Value.ref 72 } }
noncomputable def top6.o_75 : Params → Obj := fun P => { cls := Value.type "tuple", data := Data.seq #[] }
noncomputable def top6.o_76 : Params → Obj := fun P => { cls := Value.none, data := Data.fields #[] }
noncomputable def top6.o_77 : Params → Obj := fun P => { cls := Value.type "tuple", data := Data.seq #[Value.str (Str.ofString "self") 278, Value.str (Str.ofString "other") 279] }
noncomputable def top6.o_78 : Params → Obj := fun P => { cls := Value.type "tuple", data := Data.seq #[] }
noncomputable def top6.o_79 : Params → Obj := fun P => { cls := Value.none, data := Data.func { name := Str.ofString "not_less_witness", qualname := Str.ofString "Whitespace.not_less_witness", params := fpar (mth 7), body := FuncBody.stmts (fbody (mth 7)), scope := fscope (mth 7), globals := 0, closure := [], defaults := Value.none, kwdefaults := Value.none } }
noncomputable def top6.o_80 : Params → Obj := fun P => { cls := Value.type "code", data := Data.fields #[Value.str (Str.ofString "not_less_witness") 275, Value.str (Str.ofString "Whitespace.not_less_witness") 276, Value.str (Str.ofString "/claim/cut.py") 277, Value.int 59 0, Value.int 2 0, Value.int 0 0, Value.int 0 0, Value.int 3 0, Value.ref 74, Value.bool Bool.true, Value.int 181 0, Value.ref 75, Value.none, Value.ref 76, Value.ref 77, Value.ref 78, Value.int 280 0, Value.int 59 0, Value.str (Str.ofString "/claim/cut.py") 281] }
noncomputable def top6.o_81 : Params → Obj := fun P => { cls := Value.type "function", data := Data.func { name := Str.ofString "not_less_witness", qualname := Str.ofString "Whitespace.not_less_witness", params := fpar (mth 7), body := FuncBody.stmts (fbody (mth 7)), scope := fscope (mth 7), globals := 3, closure := [], defaults := Value.none, kwdefaults := Value.none, pyModule := Value.str (Str.ofString "cpy313.tabnanny") 194, code := Value.ref 79 } }
noncomputable def top6.o_82 : Params → Obj := fun P => { cls := Value.type "tuple", data := Data.seq #[Value.str (Str.ofString "is_simple") 283, Value.str (Str.ofString "n") 284, Value.str (Str.ofString "norm") 285, Value.str (Str.ofString "nt") 286, Value.str (Str.ofString "raw") 287] }
noncomputable def top6.o_83 : Params → Obj := fun P => { cls := Value.type "dict", data := Data.dict #[{ hash := PyData.keyHash P (Str.ofString "__module__"), key := Value.str (Str.ofString "__module__") 203, val := Value.str (Str.ofString "cpy313.tabnanny") 194 }, { hash := PyData.keyHash P (Str.ofString "__firstlineno__"), key := Value.str (Str.ofString "__firstlineno__") 207, val := Value.int 5 206 }, { hash := PyData.keyHash P (Str.ofString "S"), key := Value.str (Str.ofString "S") 211, val := Value.str (Str.ofString " ") 209 }, { hash := PyData.keyHash P (Str.ofString "T"), key := Value.str (Str.ofString "T") 212, val := Value.str (Str.ofString "\t") 210 }, { hash := PyData.keyHash P (Str.ofString "__init__"), key := Value.str (Str.ofString "__init__") 227, val := Value.ref 38 }, { hash := PyData.keyHash P (Str.ofString "longest_run_of_spaces"), key := Value.str (Str.ofString "longest_run_of_spaces") 236, val := Value.ref 45 }, { hash := PyData.keyHash P (Str.ofString "indent_level"), key := Value.str (Str.ofString "indent_level") 248, val := Value.ref 52 }, { hash := PyData.keyHash P (Str.ofString "equal"), key := Value.str (Str.ofString "equal") 256, val := Value.ref 59 }, { hash := PyData.keyHash P (Str.ofString "not_equal_witness"), key := Value.str (Str.ofString "not_equal_witness") 264, val := Value.ref 66 }, { hash := PyData.keyHash P (Str.ofString "less"), key := Value.str (Str.ofString "less") 274, val := Value.ref 73 }, { hash := PyData.keyHash P (Str.ofString "not_less_witness"), key := Value.str (Str.ofString "not_less_witness") 282, val := Value.ref 80 }, { hash := PyData.keyHash P (Str.ofString "__static_attributes__"), key := Value.str (Str.ofString "__static_attributes__") 288, val := Value.ref 81 }, { hash := PyData.keyHash P (Str.ofString "__dict__"), key := Value.str (Str.ofString "__dict__") 290, val := Value.ref 84 }, { hash := PyData.keyHash P (Str.ofString "__weakref__"), key := Value.str (Str.ofString "__weakref__") 292, val := Value.ref 85 }, { hash := PyData.keyHash P (Str.ofString "__doc__"), key := Value.str (Str.ofString "__doc__") 293, val := Value.none }] 4 }
noncomputable def top6.o_84 : Params → Obj := fun P => { cls := Value.type "type", data := Data.cls { name := Str.ofString "Whitespace", bases := [Value.type "object"], mro := [Value.ref 83, Value.type "object"], ns := 82, qualname := Str.ofString "Whitespace" }, slots := #[Option.none, Option.none, Option.some (Value.str (Str.ofString "Whitespace") 196), Option.some (Value.str (Str.ofString "Whitespace") 204), Option.some (Value.builtin "object.__new__"), Option.some (Value.bool Bool.true)] }
noncomputable def top6.o_85 : Params → Obj := fun P => { cls := Value.type "getset_descriptor", data := Data.fields #[Value.str (Str.ofString "__dict__") 289, Value.ref 83, Value.builtin "function.__dict__", Value.builtin "function.__dict__#set"] }
noncomputable def top6.o_86 : Params → Obj := fun P => { cls := Value.type "getset_descriptor", data := Data.fields #[Value.str (Str.ofString "__weakref__") 291, Value.ref 83, Value.builtin "ExceptionGroup.__weakref__", Value.none] }
noncomputable def top6.o_87 : Params → Obj := fun P => { cls := Value.type "super", data := Data.fields #[Value.ref 83, Value.ref 83, Value.ref 83] }
noncomputable def top6.o_88 : Params → Obj := fun P => { cls := Value.type "builtin_function_or_method", data := Data.fields #[Value.builtin "object.__init_subclass__", Value.ref 83] }
noncomputable def top6.o_95 : Params → Obj := fun P => { cls := Value.type "dict", data := Data.dict #[{ hash := PyData.keyHash P (Str.ofString "__name__"), key := Value.str (Str.ofString "__name__") 165, val := Value.str (Str.ofString "cpy313.stringprep") 307 }, { hash := PyData.keyHash P (Str.ofString "__doc__"), key := Value.str (Str.ofString "__doc__") 166, val := Value.none }, { hash := PyData.keyHash P (Str.ofString "__package__"), key := Value.str (Str.ofString "__package__") 167, val := Value.none }, { hash := PyData.keyHash P (Str.ofString "__loader__"), key := Value.str (Str.ofString "__loader__") 168, val := Value.builtin "__main__.__loader__#opaque" }, { hash := PyData.keyHash P (Str.ofString "__spec__"), key := Value.str (Str.ofString "__spec__") 169, val := Value.none }, { hash := PyData.keyHash P (Str.ofString "__annotations__"), key := Value.str (Str.ofString "__annotations__") 170, val := Value.ref 6 }, { hash := PyData.keyHash P (Str.ofString "__builtins__"), key := Value.str (Str.ofString "__builtins__") 171, val := Value.ref 4 }, { hash := PyData.keyHash P (Str.ofString "__file__"), key := Value.str (Str.ofString "__file__") 173, val := Value.str (Str.ofString "/claim/cut.py") 172 }, { hash := PyData.keyHash P (Str.ofString "__cached__"), key := Value.str (Str.ofString "__cached__") 174, val := Value.none }, { hash := PyData.keyHash P (Str.ofString "_wall"), key := Value.str (Str.ofString "_wall") 193, val := Value.ref 21 }, { hash := PyData.keyHash P (Str.ofString "Whitespace"), key := Value.str (Str.ofString "Whitespace") 295, val := Value.ref 83 }, { hash := PyData.keyHash P (Str.ofString "_parse_varint"), key := Value.str (Str.ofString "_parse_varint") 306, val := Value.ref 94 }] 12 }
noncomputable def top6.o_96 : Params → Obj := fun P => { cls := Value.none, data := Data.fields #[Value.int 1 0, Value.int 0 0, Value.ref 20, Value.int 5 0, Value.int 0 0, Value.ref 27, Value.int 62 0, Value.int 0 0, Value.ref 93] }
noncomputable def top6.o_97 : Params → Obj := fun P => { cls := Value.type "tuple", data := Data.seq #[] }
noncomputable def top6.o_98 : Params → Obj := fun P => { cls := Value.none, data := Data.fields #[] }
noncomputable def top6.o_99 : Params → Obj := fun P => { cls := Value.type "tuple", data := Data.seq #[Value.str (Str.ofString "iterator") 301, Value.str (Str.ofString "b") 302, Value.str (Str.ofString "val") 303] }
noncomputable def top6.o_100 : Params → Obj := fun P => { cls := Value.type "tuple", data := Data.seq #[] }
noncomputable def top6.o_101 : Params → Obj := fun P => { cls := Value.none, data := Data.func { name := Str.ofString "_parse_varint", qualname := Str.ofString "_parse_varint", params := fpar (st 4), body := FuncBody.stmts (fbody (st 4)), scope := fscope (st 4), globals := 0, closure := [], defaults := Value.none, kwdefaults := Value.none } }
noncomputable def top6.o_102 : Params → Obj := fun P => { cls := Value.type "code", data := Data.fields #[Value.str (Str.ofString "_parse_varint") 298, Value.str (Str.ofString "_parse_varint") 299, Value.str (Str.ofString "/claim/cut.py") 300, Value.int 62 0, Value.int 1 0, Value.int 0 0, Value.int 0 0, Value.int 3 0, Value.ref 88, Value.bool Bool.true, Value.int 181 0, Value.ref 89, Value.none, Value.ref 90, Value.ref 91, Value.ref 92, Value.int 304 0, Value.int 62 0, Value.str (Str.ofString "/claim/cut.py") 305] }
noncomputable def top6.o_103 : Params → Obj := fun P => { cls := Value.type "function", data := Data.func { name := Str.ofString "_parse_varint", qualname := Str.ofString "_parse_varint", params := fpar (st 4), body := FuncBody.stmts (fbody (st 4)), scope := fscope (st 4), globals := 3, closure := [], defaults := Value.none, kwdefaults := Value.none, pyModule := Value.str (Str.ofString "cpy313.dis") 296, code := Value.ref 93 } }
noncomputable def top6.tree_6 : Params → BT := fun P => BT.node (boot_o_0 P) (BT.node (boot_o_1 P) (BT.node (boot_o_3 P) (BT.node (boot_o_7 P) BT.nil BT.nil) (BT.node (top6.o_2 P) BT.nil BT.nil)) (BT.node (boot_o_5 P) (BT.node (boot_o_9 P) BT.nil BT.nil) (BT.node (top6.o_4 P) BT.nil BT.nil))) (BT.node (boot_o_2 P) (BT.node (boot_o_4 P) (BT.node (boot_o_8 P) BT.nil BT.nil) (BT.node (top6.o_3 P) BT.nil BT.nil)) (BT.node (boot_o_6 P) (BT.node (boot_o_10 P) BT.nil BT.nil) (BT.node (top6.o_5 P) BT.nil BT.nil)))
noncomputable def top6.tree_17 : Params → BT := fun P => BT.node (boot_o_0 P) (BT.node (boot_o_1 P) (BT.node (top6.o_8 P) (BT.node (boot_o_7 P) (BT.node (top6.o_10 P) BT.nil BT.nil) BT.nil) (BT.node (top6.o_2 P) (BT.node (top6.o_14 P) BT.nil BT.nil) BT.nil)) (BT.node (boot_o_5 P) (BT.node (boot_o_9 P) (BT.node (top6.o_12 P) BT.nil BT.nil) BT.nil) (BT.node (top6.o_4 P) (BT.node (top6.o_16 P) BT.nil BT.nil) BT.nil))) (BT.node (boot_o_2 P) (BT.node (boot_o_4 P) (BT.node (boot_o_8 P) (BT.node (top6.o_11 P) BT.nil BT.nil) BT.nil) (BT.node (top6.o_9 P) (BT.node (top6.o_15 P) BT.nil BT.nil) BT.nil)) (BT.node (boot_o_6 P) (BT.node (boot_o_10 P) (BT.node (top6.o_13 P) BT.nil BT.nil) BT.nil) (BT.node (top6.o_5 P) BT.nil BT.nil)))
noncomputable def top6.tree_89 : Params → BT := fun P => BT.node (boot_o_0 P) (BT.node (boot_o_1 P) (BT.node (top6.o_21 P) (BT.node (boot_o_7 P) (BT.node (top6.o_10 P) (BT.node (top6.o_32 P) (BT.node (top6.o_64 P) BT.nil BT.nil) BT.nil) (BT.node (top6.o_48 P) (BT.node (top6.o_80 P) BT.nil BT.nil) BT.nil)) (BT.node (top6.o_24 P) (BT.node (top6.o_40 P) (BT.node (top6.o_72 P) BT.nil BT.nil) BT.nil) (BT.node (top6.o_56 P) (BT.node (top6.o_88 P) BT.nil BT.nil) BT.nil))) (BT.node (top6.o_2 P) (BT.node (top6.o_14 P) (BT.node (top6.o_36 P) (BT.node (top6.o_68 P) BT.nil BT.nil) BT.nil) (BT.node (top6.o_52 P) (BT.node (top6.o_84 P) BT.nil BT.nil) BT.nil)) (BT.node (top6.o_28 P) (BT.node (top6.o_44 P) (BT.node (top6.o_76 P) BT.nil BT.nil) BT.nil) (BT.node (top6.o_60 P) BT.nil BT.nil)))) (BT.node (boot_o_5 P) (BT.node (boot_o_9 P) (BT.node (top6.o_12 P) (BT.node (top6.o_34 P) (BT.node (top6.o_66 P) BT.nil BT.nil) BT.nil) (BT.node (top6.o_50 P) (BT.node (top6.o_82 P) BT.nil BT.nil) BT.nil)) (BT.node (top6.o_26 P) (BT.node (top6.o_42 P) (BT.node (top6.o_74 P) BT.nil BT.nil) BT.nil) (BT.node (top6.o_58 P) BT.nil BT.nil))) (BT.node (top6.o_4 P) (BT.node (top6.o_16 P) (BT.node (top6.o_38 P) (BT.node (top6.o_70 P) BT.nil BT.nil) BT.nil) (BT.node (top6.o_54 P) (BT.node (top6.o_86 P) BT.nil BT.nil) BT.nil)) (BT.node (top6.o_30 P) (BT.node (top6.o_46 P) (BT.node (top6.o_78 P) BT.nil BT.nil) BT.nil) (BT.node (top6.o_62 P) BT.nil BT.nil))))) (BT.node (boot_o_2 P) (BT.node (boot_o_4 P) (BT.node (boot_o_8 P) (BT.node (top6.o_11 P) (BT.node (top6.o_33 P) (BT.node (top6.o_65 P) BT.nil BT.nil) BT.nil) (BT.node (top6.o_49 P) (BT.node (top6.o_81 P) BT.nil BT.nil) BT.nil)) (BT.node (top6.o_25 P) (BT.node (top6.o_41 P) (BT.node (top6.o_73 P) BT.nil BT.nil) BT.nil) (BT.node (top6.o_57 P) BT.nil BT.nil))) (BT.node (top6.o_22 P) (BT.node (top6.o_15 P) (BT.node (top6.o_37 P) (BT.node (top6.o_69 P) BT.nil BT.nil) BT.nil) (BT.node (top6.o_53 P) (BT.node (top6.o_85 P) BT.nil BT.nil) BT.nil)) (BT.node (top6.o_29 P) (BT.node (top6.o_45 P) (BT.node (top6.o_77 P) BT.nil BT.nil) BT.nil) (BT.node (top6.o_61 P) BT.nil BT.nil)))) (BT.node (boot_o_6 P) (BT.node (boot_o_10 P) (BT.node (top6.o_13 P) (BT.node (top6.o_35 P) (BT.node (top6.o_67 P) BT.nil BT.nil) BT.nil) (BT.node (top6.o_51 P) (BT.node (top6.o_83 P) BT.nil BT.nil) BT.nil)) (BT.node (top6.o_27 P) (BT.node (top6.o_43 P) (BT.node (top6.o_75 P) BT.nil BT.nil) BT.nil) (BT.node (top6.o_59 P) BT.nil BT.nil))) (BT.node (top6.o_5 P) (BT.node (top6.o_23 P) (BT.node (top6.o_39 P) (BT.node (top6.o_71 P) BT.nil BT.nil) BT.nil) (BT.node (top6.o_55 P) (BT.node (top6.o_87 P) BT.nil BT.nil) BT.nil)) (BT.node (top6.o_31 P) (BT.node (top6.o_47 P) (BT.node (top6.o_79 P) BT.nil BT.nil) BT.nil) (BT.node (top6.o_63 P) BT.nil BT.nil)))))
noncomputable def top6.tree_104 : Params → BT := fun P => BT.node (boot_o_0 P) (BT.node (boot_o_1 P) (BT.node (top6.o_95 P) (BT.node (boot_o_7 P) (BT.node (top6.o_10 P) (BT.node (top6.o_32 P) (BT.node (top6.o_64 P) BT.nil BT.nil) BT.nil) (BT.node (top6.o_48 P) (BT.node (top6.o_80 P) BT.nil BT.nil) BT.nil)) (BT.node (top6.o_24 P) (BT.node (top6.o_40 P) (BT.node (top6.o_72 P) BT.nil BT.nil) BT.nil) (BT.node (top6.o_56 P) (BT.node (top6.o_88 P) BT.nil BT.nil) BT.nil))) (BT.node (top6.o_2 P) (BT.node (top6.o_14 P) (BT.node (top6.o_36 P) (BT.node (top6.o_68 P) BT.nil BT.nil) BT.nil) (BT.node (top6.o_52 P) (BT.node (top6.o_84 P) BT.nil BT.nil) BT.nil)) (BT.node (top6.o_28 P) (BT.node (top6.o_44 P) (BT.node (top6.o_76 P) BT.nil BT.nil) BT.nil) (BT.node (top6.o_60 P) (BT.node (top6.o_100 P) BT.nil BT.nil) BT.nil)))) (BT.node (boot_o_5 P) (BT.node (boot_o_9 P) (BT.node (top6.o_12 P) (BT.node (top6.o_34 P) (BT.node (top6.o_66 P) BT.nil BT.nil) BT.nil) (BT.node (top6.o_50 P) (BT.node (top6.o_82 P) BT.nil BT.nil) BT.nil)) (BT.node (top6.o_26 P) (BT.node (top6.o_42 P) (BT.node (top6.o_74 P) BT.nil BT.nil) BT.nil) (BT.node (top6.o_58 P) (BT.node (top6.o_98 P) BT.nil BT.nil) BT.nil))) (BT.node (top6.o_4 P) (BT.node (top6.o_16 P) (BT.node (top6.o_38 P) (BT.node (top6.o_70 P) BT.nil BT.nil) BT.nil) (BT.node (top6.o_54 P) (BT.node (top6.o_86 P) BT.nil BT.nil) BT.nil)) (BT.node (top6.o_30 P) (BT.node (top6.o_46 P) (BT.node (top6.o_78 P) BT.nil BT.nil) BT.nil) (BT.node (top6.o_62 P) (BT.node (top6.o_102 P) BT.nil BT.nil) BT.nil))))) (BT.node (boot_o_2 P) (BT.node (boot_o_4 P) (BT.node (boot_o_8 P) (BT.node (top6.o_11 P) (BT.node (top6.o_33 P) (BT.node (top6.o_65 P) BT.nil BT.nil) BT.nil) (BT.node (top6.o_49 P) (BT.node (top6.o_81 P) BT.nil BT.nil) BT.nil)) (BT.node (top6.o_25 P) (BT.node (top6.o_41 P) (BT.node (top6.o_73 P) BT.nil BT.nil) BT.nil) (BT.node (top6.o_57 P) (BT.node (top6.o_97 P) BT.nil BT.nil) BT.nil))) (BT.node (top6.o_96 P) (BT.node (top6.o_15 P) (BT.node (top6.o_37 P) (BT.node (top6.o_69 P) BT.nil BT.nil) BT.nil) (BT.node (top6.o_53 P) (BT.node (top6.o_85 P) BT.nil BT.nil) BT.nil)) (BT.node (top6.o_29 P) (BT.node (top6.o_45 P) (BT.node (top6.o_77 P) BT.nil BT.nil) BT.nil) (BT.node (top6.o_61 P) (BT.node (top6.o_101 P) BT.nil BT.nil) BT.nil)))) (BT.node (boot_o_6 P) (BT.node (boot_o_10 P) (BT.node (top6.o_13 P) (BT.node (top6.o_35 P) (BT.node (top6.o_67 P) BT.nil BT.nil) BT.nil) (BT.node (top6.o_51 P) (BT.node (top6.o_83 P) BT.nil BT.nil) BT.nil)) (BT.node (top6.o_27 P) (BT.node (top6.o_43 P) (BT.node (top6.o_75 P) BT.nil BT.nil) BT.nil) (BT.node (top6.o_59 P) (BT.node (top6.o_99 P) BT.nil BT.nil) BT.nil))) (BT.node (top6.o_5 P) (BT.node (top6.o_23 P) (BT.node (top6.o_39 P) (BT.node (top6.o_71 P) BT.nil BT.nil) BT.nil) (BT.node (top6.o_55 P) (BT.node (top6.o_87 P) BT.nil BT.nil) BT.nil)) (BT.node (top6.o_31 P) (BT.node (top6.o_47 P) (BT.node (top6.o_79 P) BT.nil BT.nil) BT.nil) (BT.node (top6.o_63 P) (BT.node (top6.o_103 P) BT.nil BT.nil) BT.nil)))))
end Mine
end
section
open PySem PySem.W PyProof.Rows
set_option Elab.async false
set_option maxRecDepth 100000
namespace Mine
set_option linter.unusedVariables false

noncomputable abbrev bE : List Stmt := behindTheImports pw
noncomputable abbrev cE : Code := .body bE top6.env_1
abbrev q0 : Pos := { line := 0, col := 0, endLine := 0, endCol := 0 }
noncomputable abbrev T5 (P : Params) : BT := top6.tree_104 P
noncomputable abbrev S (T : Params → BT) (n k : Nat) (w : World) (os : OsState) : SharedT := { tree := T w.params, n := n, life := {}, gens := { toList := [] }, drawn := {}, toks := k, os := os }
noncomputable def q6_3 (P : Params) : Obj := ⟨(.type "dict"), none, (.dict #[⟨PyData.keyHash P (Str.ofString "__name__"), (.str (Str.ofString "__name__") 165), (.str (Str.ofString "cpy313.stringprep") 307)⟩, ⟨PyData.keyHash P (Str.ofString "__doc__"), (.str (Str.ofString "__doc__") 166), .none⟩, ⟨PyData.keyHash P (Str.ofString "__package__"), (.str (Str.ofString "__package__") 167), .none⟩, ⟨PyData.keyHash P (Str.ofString "__loader__"), (.str (Str.ofString "__loader__") 168), (.builtin "__main__.__loader__#opaque")⟩, ⟨PyData.keyHash P (Str.ofString "__spec__"), (.str (Str.ofString "__spec__") 169), .none⟩, ⟨PyData.keyHash P (Str.ofString "__annotations__"), (.str (Str.ofString "__annotations__") 170), (.ref 6)⟩, ⟨PyData.keyHash P (Str.ofString "__builtins__"), (.str (Str.ofString "__builtins__") 171), (.ref 4)⟩, ⟨PyData.keyHash P (Str.ofString "__file__"), (.str (Str.ofString "__file__") 173), (.str (Str.ofString "/claim/cut.py") 172)⟩, ⟨PyData.keyHash P (Str.ofString "__cached__"), (.str (Str.ofString "__cached__") 174), .none⟩, ⟨PyData.keyHash P (Str.ofString "_wall"), (.str (Str.ofString "_wall") 193), (.ref 21)⟩, ⟨PyData.keyHash P (Str.ofString "Whitespace"), (.str (Str.ofString "Whitespace") 295), (.ref 83)⟩, ⟨PyData.keyHash P (Str.ofString "_parse_varint"), (.str (Str.ofString "_parse_varint") 306), (.ref 94)⟩, ⟨PyData.keyHash P (Str.ofString "b1_set"), (.str (Str.ofString "b1_set") 368), (.ref 102)⟩] 13), #[]⟩
noncomputable def q6_95 (P : Params) : Obj := ⟨(.type "list"), none, (.seq #[(.int 173 309), (.int 847 310), (.int 6150 311), (.int 6155 312), (.int 6156 313), (.int 6157 314), (.int 8203 315), (.int 8204 316), (.int 8205 317), (.int 8288 318), (.int 65279 319)] 0), #[]⟩
noncomputable def q6_96 (P : Params) : Obj := ⟨(.type "range"), none, (.fields #[(.int 65024 320), (.int 65040 321), (.int 1 322)]), #[]⟩
noncomputable def q6_97 (P : Params) : Obj := ⟨(.type "list"), none, (.seq #[(.int 65024 325), (.int 65025 326), (.int 65026 327), (.int 65027 328), (.int 65028 329), (.int 65029 330), (.int 65030 331), (.int 65031 332), (.int 65032 333), (.int 65033 334), (.int 65034 335), (.int 65035 336), (.int 65036 337), (.int 65037 338), (.int 65038 339), (.int 65039 340)] 18), #[]⟩
noncomputable def q6_98 (P : Params) : Obj := ⟨(.type "range_iterator"), none, (.fields #[(.int 65040 0), (.int 0 0), (.int 1 0)]), #[]⟩
noncomputable def q6_99 (P : Params) : Obj := ⟨(.type "tuple"), none, (.seq #[] 0), #[]⟩
noncomputable def q6_100 (P : Params) : Obj := ⟨(.type "StopIteration"), none, (.fields #[(.ref 99), .none, .none, .none, (.bool false), .none]), #[]⟩
noncomputable def q6_101 (P : Params) : Obj := ⟨(.type "list"), none, (.seq #[(.int 173 309), (.int 847 310), (.int 6150 311), (.int 6155 312), (.int 6156 313), (.int 6157 314), (.int 8203 315), (.int 8204 316), (.int 8205 317), (.int 8288 318), (.int 65279 319), (.int 65024 325), (.int 65025 326), (.int 65026 327), (.int 65027 328), (.int 65028 329), (.int 65029 330), (.int 65030 331), (.int 65031 332), (.int 65032 333), (.int 65033 334), (.int 65034 335), (.int 65035 336), (.int 65036 337), (.int 65037 338), (.int 65038 339), (.int 65039 340)] 0), #[]⟩
noncomputable def q6_102 (P : Params) : Obj := ⟨(.type "set"), none, (.set #[(65024, (.int 65024 325)), (65025, (.int 65025 326)), (65026, (.int 65026 327)), (65027, (.int 65027 328)), (65028, (.int 65028 329)), (65029, (.int 65029 330)), (6150, (.int 6150 311)), (65030, (.int 65030 331)), (65031, (.int 65031 332)), (65032, (.int 65032 333)), (65033, (.int 65033 334)), (6155, (.int 6155 312)), (6156, (.int 6156 313)), (6157, (.int 6157 314)), (8203, (.int 8203 315)), (8204, (.int 8204 316)), (8205, (.int 8205 317)), (65034, (.int 65034 335)), (65035, (.int 65035 336)), (65036, (.int 65036 337)), (65037, (.int 65037 338)), (65038, (.int 65038 339)), (65039, (.int 65039 340)), (173, (.int 173 309)), (847, (.int 847 310)), (8288, (.int 8288 318)), (65279, (.int 65279 319))] 29 { mask := 127, place := #[0, 1, 2, 3, 4, 5, 6, 7, 8, 9, 10, 11, 12, 13, 14, 15, 16, 17, 18, 19, 20, 21, 22, 45, 79, 96, 127], dummies := #[], finger := 0, led := !P.followText "set-order", moves := 2, plain := true }), #[]⟩
noncomputable def q6_103 (P : Params) : Obj := ⟨(.type "list_iterator"), none, (.fields #[.none, (.int 27 0)]), #[]⟩
noncomputable def q6_104 (P : Params) : Obj := ⟨(.type "tuple"), none, (.seq #[] 0), #[]⟩
noncomputable def q6_105 (P : Params) : Obj := ⟨(.type "StopIteration"), none, (.fields #[(.ref 104), .none, .none, .none, (.bool false), .none]), #[]⟩
noncomputable def T6 (P : Params) : BT := (.node (PySem.W.boot_o_0 P) (.node (PySem.W.boot_o_1 P) (.node (q6_3 P) (.node (PySem.W.boot_o_7 P) (.node (Mine.top6.o_10 P) (.node (Mine.top6.o_32 P) (.node (Mine.top6.o_64 P) .nil .nil) (.node (q6_95 P) .nil .nil)) (.node (Mine.top6.o_48 P) (.node (Mine.top6.o_80 P) .nil .nil) .nil)) (.node (Mine.top6.o_24 P) (.node (Mine.top6.o_40 P) (.node (Mine.top6.o_72 P) .nil .nil) (.node (q6_103 P) .nil .nil)) (.node (Mine.top6.o_56 P) (.node (Mine.top6.o_88 P) .nil .nil) .nil))) (.node (Mine.top6.o_2 P) (.node (Mine.top6.o_14 P) (.node (Mine.top6.o_36 P) (.node (Mine.top6.o_68 P) .nil .nil) (.node (q6_99 P) .nil .nil)) (.node (Mine.top6.o_52 P) (.node (Mine.top6.o_84 P) .nil .nil) .nil)) (.node (Mine.top6.o_28 P) (.node (Mine.top6.o_44 P) (.node (Mine.top6.o_76 P) .nil .nil) .nil) (.node (Mine.top6.o_60 P) (.node (Mine.top6.o_100 P) .nil .nil) .nil)))) (.node (PySem.W.boot_o_5 P) (.node (PySem.W.boot_o_9 P) (.node (Mine.top6.o_12 P) (.node (Mine.top6.o_34 P) (.node (Mine.top6.o_66 P) .nil .nil) (.node (q6_97 P) .nil .nil)) (.node (Mine.top6.o_50 P) (.node (Mine.top6.o_82 P) .nil .nil) .nil)) (.node (Mine.top6.o_26 P) (.node (Mine.top6.o_42 P) (.node (Mine.top6.o_74 P) .nil .nil) (.node (q6_105 P) .nil .nil)) (.node (Mine.top6.o_58 P) (.node (Mine.top6.o_98 P) .nil .nil) .nil))) (.node (Mine.top6.o_4 P) (.node (Mine.top6.o_16 P) (.node (Mine.top6.o_38 P) (.node (Mine.top6.o_70 P) .nil .nil) (.node (q6_101 P) .nil .nil)) (.node (Mine.top6.o_54 P) (.node (Mine.top6.o_86 P) .nil .nil) .nil)) (.node (Mine.top6.o_30 P) (.node (Mine.top6.o_46 P) (.node (Mine.top6.o_78 P) .nil .nil) .nil) (.node (Mine.top6.o_62 P) (.node (Mine.top6.o_102 P) .nil .nil) .nil))))) (.node (PySem.W.boot_o_2 P) (.node (PySem.W.boot_o_4 P) (.node (PySem.W.boot_o_8 P) (.node (Mine.top6.o_11 P) (.node (Mine.top6.o_33 P) (.node (Mine.top6.o_65 P) .nil .nil) (.node (q6_96 P) .nil .nil)) (.node (Mine.top6.o_49 P) (.node (Mine.top6.o_81 P) .nil .nil) .nil)) (.node (Mine.top6.o_25 P) (.node (Mine.top6.o_41 P) (.node (Mine.top6.o_73 P) .nil .nil) (.node (q6_104 P) .nil .nil)) (.node (Mine.top6.o_57 P) (.node (Mine.top6.o_97 P) .nil .nil) .nil))) (.node (Mine.top6.o_96 P) (.node (Mine.top6.o_15 P) (.node (Mine.top6.o_37 P) (.node (Mine.top6.o_69 P) .nil .nil) (.node (q6_100 P) .nil .nil)) (.node (Mine.top6.o_53 P) (.node (Mine.top6.o_85 P) .nil .nil) .nil)) (.node (Mine.top6.o_29 P) (.node (Mine.top6.o_45 P) (.node (Mine.top6.o_77 P) .nil .nil) .nil) (.node (Mine.top6.o_61 P) (.node (Mine.top6.o_101 P) .nil .nil) .nil)))) (.node (PySem.W.boot_o_6 P) (.node (PySem.W.boot_o_10 P) (.node (Mine.top6.o_13 P) (.node (Mine.top6.o_35 P) (.node (Mine.top6.o_67 P) .nil .nil) (.node (q6_98 P) .nil .nil)) (.node (Mine.top6.o_51 P) (.node (Mine.top6.o_83 P) .nil .nil) .nil)) (.node (Mine.top6.o_27 P) (.node (Mine.top6.o_43 P) (.node (Mine.top6.o_75 P) .nil .nil) .nil) (.node (Mine.top6.o_59 P) (.node (Mine.top6.o_99 P) .nil .nil) .nil))) (.node (Mine.top6.o_5 P) (.node (Mine.top6.o_23 P) (.node (Mine.top6.o_39 P) (.node (Mine.top6.o_71 P) .nil .nil) (.node (q6_102 P) .nil .nil)) (.node (Mine.top6.o_55 P) (.node (Mine.top6.o_87 P) .nil .nil) .nil)) (.node (Mine.top6.o_31 P) (.node (Mine.top6.o_47 P) (.node (Mine.top6.o_79 P) .nil .nil) .nil) (.node (Mine.top6.o_63 P) (.node (Mine.top6.o_103 P) .nil .nil) .nil))))))
noncomputable def q7_3 (P : Params) : Obj := ⟨(.type "dict"), none, (.dict #[⟨PyData.keyHash P (Str.ofString "__name__"), (.str (Str.ofString "__name__") 165), (.str (Str.ofString "cpy313.stringprep") 307)⟩, ⟨PyData.keyHash P (Str.ofString "__doc__"), (.str (Str.ofString "__doc__") 166), .none⟩, ⟨PyData.keyHash P (Str.ofString "__package__"), (.str (Str.ofString "__package__") 167), .none⟩, ⟨PyData.keyHash P (Str.ofString "__loader__"), (.str (Str.ofString "__loader__") 168), (.builtin "__main__.__loader__#opaque")⟩, ⟨PyData.keyHash P (Str.ofString "__spec__"), (.str (Str.ofString "__spec__") 169), .none⟩, ⟨PyData.keyHash P (Str.ofString "__annotations__"), (.str (Str.ofString "__annotations__") 170), (.ref 6)⟩, ⟨PyData.keyHash P (Str.ofString "__builtins__"), (.str (Str.ofString "__builtins__") 171), (.ref 4)⟩, ⟨PyData.keyHash P (Str.ofString "__file__"), (.str (Str.ofString "__file__") 173), (.str (Str.ofString "/claim/cut.py") 172)⟩, ⟨PyData.keyHash P (Str.ofString "__cached__"), (.str (Str.ofString "__cached__") 174), .none⟩, ⟨PyData.keyHash P (Str.ofString "_wall"), (.str (Str.ofString "_wall") 193), (.ref 21)⟩, ⟨PyData.keyHash P (Str.ofString "Whitespace"), (.str (Str.ofString "Whitespace") 295), (.ref 83)⟩, ⟨PyData.keyHash P (Str.ofString "_parse_varint"), (.str (Str.ofString "_parse_varint") 306), (.ref 94)⟩, ⟨PyData.keyHash P (Str.ofString "b1_set"), (.str (Str.ofString "b1_set") 368), (.ref 102)⟩, ⟨PyData.keyHash P (Str.ofString "in_table_b1"), (.str (Str.ofString "in_table_b1") 375), (.ref 112)⟩] 14), #[]⟩
noncomputable def q7_12 (P : Params) : Obj := ⟨.none, none, (.fields #[(.int 1 0), (.int 0 0), (.ref 20), (.int 5 0), (.int 0 0), (.ref 27), (.int 62 0), (.int 0 0), (.ref 93), (.int 72 0), (.int 0 0), (.ref 111)]), #[]⟩
noncomputable def q7_106 (P : Params) : Obj := ⟨(.type "tuple"), none, (.seq #[] 0), #[]⟩
noncomputable def q7_107 (P : Params) : Obj := ⟨.none, none, (.fields #[]), #[]⟩
noncomputable def q7_108 (P : Params) : Obj := ⟨(.type "tuple"), none, (.seq #[(.str (Str.ofString "code") 372)] 0), #[]⟩
noncomputable def q7_109 (P : Params) : Obj := ⟨(.type "tuple"), none, (.seq #[] 0), #[]⟩
noncomputable def q7_110 (P : Params) : Obj := ⟨.none, none, (.func { name := (Str.ofString "in_table_b1"), qualname := (Str.ofString "in_table_b1"), params := fpar (st 7), body := .stmts (fbody (st 7)), scope := fscope (st 7), globals := 0, closure := [], defaults := .none, kwdefaults := .none, doc := .none, pyModule := .none, annotations := none, code := .none, closureTuple := .none, builtins := 0 }), #[]⟩
noncomputable def q7_111 (P : Params) : Obj := ⟨(.type "code"), none, (.fields #[(.str (Str.ofString "in_table_b1") 369), (.str (Str.ofString "in_table_b1") 370), (.str (Str.ofString "/claim/cut.py") 371), (.int 72 0), (.int 1 0), (.int 0 0), (.int 0 0), (.int 3 0), (.ref 106), (.bool true), (.int 181 0), (.ref 107), .none, (.ref 108), (.ref 109), (.ref 110), (.int 373 0), (.int 72 0), (.str (Str.ofString "/claim/cut.py") 374)]), #[]⟩
noncomputable def q7_112 (P : Params) : Obj := ⟨(.type "function"), none, (.func { name := (Str.ofString "in_table_b1"), qualname := (Str.ofString "in_table_b1"), params := fpar (st 7), body := .stmts (fbody (st 7)), scope := fscope (st 7), globals := 3, closure := [], defaults := .none, kwdefaults := .none, doc := .none, pyModule := (.str (Str.ofString "cpy313.stringprep") 307), annotations := none, code := (.ref 111), closureTuple := .none, builtins := 0 }), #[]⟩
noncomputable def T7 (P : Params) : BT := (.node (PySem.W.boot_o_0 P) (.node (PySem.W.boot_o_1 P) (.node (q7_3 P) (.node (PySem.W.boot_o_7 P) (.node (Mine.top6.o_10 P) (.node (Mine.top6.o_32 P) (.node (Mine.top6.o_64 P) .nil .nil) (.node (q6_95 P) .nil .nil)) (.node (Mine.top6.o_48 P) (.node (Mine.top6.o_80 P) .nil .nil) (.node (q7_111 P) .nil .nil))) (.node (Mine.top6.o_24 P) (.node (Mine.top6.o_40 P) (.node (Mine.top6.o_72 P) .nil .nil) (.node (q6_103 P) .nil .nil)) (.node (Mine.top6.o_56 P) (.node (Mine.top6.o_88 P) .nil .nil) .nil))) (.node (Mine.top6.o_2 P) (.node (Mine.top6.o_14 P) (.node (Mine.top6.o_36 P) (.node (Mine.top6.o_68 P) .nil .nil) (.node (q6_99 P) .nil .nil)) (.node (Mine.top6.o_52 P) (.node (Mine.top6.o_84 P) .nil .nil) .nil)) (.node (Mine.top6.o_28 P) (.node (Mine.top6.o_44 P) (.node (Mine.top6.o_76 P) .nil .nil) (.node (q7_107 P) .nil .nil)) (.node (Mine.top6.o_60 P) (.node (Mine.top6.o_100 P) .nil .nil) .nil)))) (.node (PySem.W.boot_o_5 P) (.node (PySem.W.boot_o_9 P) (.node (Mine.top6.o_12 P) (.node (Mine.top6.o_34 P) (.node (Mine.top6.o_66 P) .nil .nil) (.node (q6_97 P) .nil .nil)) (.node (Mine.top6.o_50 P) (.node (Mine.top6.o_82 P) .nil .nil) .nil)) (.node (Mine.top6.o_26 P) (.node (Mine.top6.o_42 P) (.node (Mine.top6.o_74 P) .nil .nil) (.node (q6_105 P) .nil .nil)) (.node (Mine.top6.o_58 P) (.node (Mine.top6.o_98 P) .nil .nil) .nil))) (.node (Mine.top6.o_4 P) (.node (Mine.top6.o_16 P) (.node (Mine.top6.o_38 P) (.node (Mine.top6.o_70 P) .nil .nil) (.node (q6_101 P) .nil .nil)) (.node (Mine.top6.o_54 P) (.node (Mine.top6.o_86 P) .nil .nil) .nil)) (.node (Mine.top6.o_30 P) (.node (Mine.top6.o_46 P) (.node (Mine.top6.o_78 P) .nil .nil) (.node (q7_109 P) .nil .nil)) (.node (Mine.top6.o_62 P) (.node (Mine.top6.o_102 P) .nil .nil) .nil))))) (.node (PySem.W.boot_o_2 P) (.node (PySem.W.boot_o_4 P) (.node (PySem.W.boot_o_8 P) (.node (Mine.top6.o_11 P) (.node (Mine.top6.o_33 P) (.node (Mine.top6.o_65 P) .nil .nil) (.node (q6_96 P) .nil .nil)) (.node (Mine.top6.o_49 P) (.node (Mine.top6.o_81 P) .nil .nil) (.node (q7_112 P) .nil .nil))) (.node (Mine.top6.o_25 P) (.node (Mine.top6.o_41 P) (.node (Mine.top6.o_73 P) .nil .nil) (.node (q6_104 P) .nil .nil)) (.node (Mine.top6.o_57 P) (.node (Mine.top6.o_97 P) .nil .nil) .nil))) (.node (q7_12 P) (.node (Mine.top6.o_15 P) (.node (Mine.top6.o_37 P) (.node (Mine.top6.o_69 P) .nil .nil) (.node (q6_100 P) .nil .nil)) (.node (Mine.top6.o_53 P) (.node (Mine.top6.o_85 P) .nil .nil) .nil)) (.node (Mine.top6.o_29 P) (.node (Mine.top6.o_45 P) (.node (Mine.top6.o_77 P) .nil .nil) (.node (q7_108 P) .nil .nil)) (.node (Mine.top6.o_61 P) (.node (Mine.top6.o_101 P) .nil .nil) .nil)))) (.node (PySem.W.boot_o_6 P) (.node (PySem.W.boot_o_10 P) (.node (Mine.top6.o_13 P) (.node (Mine.top6.o_35 P) (.node (Mine.top6.o_67 P) .nil .nil) (.node (q6_98 P) .nil .nil)) (.node (Mine.top6.o_51 P) (.node (Mine.top6.o_83 P) .nil .nil) .nil)) (.node (Mine.top6.o_27 P) (.node (Mine.top6.o_43 P) (.node (Mine.top6.o_75 P) .nil .nil) (.node (q7_106 P) .nil .nil)) (.node (Mine.top6.o_59 P) (.node (Mine.top6.o_99 P) .nil .nil) .nil))) (.node (Mine.top6.o_5 P) (.node (Mine.top6.o_23 P) (.node (Mine.top6.o_39 P) (.node (Mine.top6.o_71 P) .nil .nil) (.node (q6_102 P) .nil .nil)) (.node (Mine.top6.o_55 P) (.node (Mine.top6.o_87 P) .nil .nil) .nil)) (.node (Mine.top6.o_31 P) (.node (Mine.top6.o_47 P) (.node (Mine.top6.o_79 P) .nil .nil) (.node (q7_110 P) .nil .nil)) (.node (Mine.top6.o_63 P) (.node (Mine.top6.o_103 P) .nil .nil) .nil))))))
end Mine
end
section
open PySem PySem.W PyProof.Rows
set_option Elab.async false
set_option maxRecDepth 100000
namespace Mine
/-- the machine's run of the top from a state and a thread -/
noncomputable abbrev Go (w : World) (N : Nat) (s : Shared) (t : Thread) : Option Shared := topRun treeTable pw w 11 (some (.ref 6)) N s t
noncomputable abbrev thr {α : Type} (x : Sem α) (K : α → Sem Fin) (H : Value → Sem Fin) (gd : Bool → Bool) (lv : List Value → List Value) (p : Pos) : Thread := ⟨x.wrap K H gd lv, cE, p, [topFrame q0]⟩
/-- `x` runs from `s` (standing at `p`) to the value `a` in at most `B` steps of the machine -/
noncomputable def Rn {α : Type} (w : World) (B : Nat) (x : Sem α) (s : Shared) (p : Pos) (a : α) (s' : Shared) (p' : Pos) : Prop :=
  ∀ (K : α → Sem Fin) (H : Value → Sem Fin) (gd : Bool → Bool) (lv : List Value → List Value) (N : Nat) (r : Shared),
    Go w N s' ⟨K a, cE, p', [topFrame q0]⟩ = some r → Go w (B + N) s (thr x K H gd lv p) = some r

section
variable {α β : Type} {w : World} {s s' s₁ : Shared} {p p' p₁ : Pos}
theorem Rn.pure {a : α} : Rn w 0 (Pure.pure a) s p a s p := fun K H gd lv N r h => by rw [Nat.zero_add]; exact h
theorem Rn.pure' {a : α} : Rn w 0 (.pure a) s p a s p := Rn.pure
theorem Rn.more {B B' : Nat} {x : Sem α} {a : α} (h : Rn w B x s p a s' p') (le : B ≤ B') : Rn w B' x s p a s' p' := fun K H gd lv N r e => by
  have := topRun_mono (B' - B) _ _ _ _ (h K H gd lv N r e)
  rw [show B + N + (B' - B) = B' + N by omega] at this
  exact this
theorem Rn.bind {B₁ B₂ : Nat} {x : Sem α} {f : α → Sem β} {a : α} {b : β} (h₁ : Rn w B₁ x s p a s₁ p₁) (h₂ : Rn w B₂ (f a) s₁ p₁ b s' p') : Rn w (B₁ + B₂) (x >>= f) s p b s' p' := fun K H gd lv N r e => by
  have e2 := h₂ K H gd lv N r e
  have e1 := h₁ (fun a => (f a).wrap K H gd lv) (fun e => H e) gd lv (B₂ + N) r e2
  rw [show B₁ + B₂ + N = B₁ + (B₂ + N) by omega]
  unfold thr at e1 ⊢
  rw [Sem.bind_eq_wrap', Sem.wrap_wrap]
  exact e1
theorem Rn.keep {B : Nat} {x : Sem α} {a : α} {vs : List Value} (h : Rn w B x s p a s' p') : Rn w B (x.keep vs) s p a s' p' := fun K H gd lv N r e => by
  have e1 := h K H gd (fun l => lv (vs ++ l)) N r e
  unfold thr at e1 ⊢
  rw [Sem.keep_eq_wrap, Sem.wrap_wrap]
  exact e1
theorem Rn.holding {B : Nat} {x : Sem α} {a : α} {vs : List Value} (h : Rn w B x s p a s' p') : Rn w B (PySem.holding vs x) s p a s' p' := by
  unfold PySem.holding
  split
  · exact h
  · exact h.keep
theorem Rn.onRaise {B : Nat} {x : Sem α} {a : α} {g : Value → Sem Unit} (h : Rn w B x s p a s' p') : Rn w B (x.onRaise g) s p a s' p' := fun K H gd lv N r e => by
  have e1 := h K (fun e => ((g e).bind fun _ => .raise e : Sem α).wrap K H gd lv) gd lv N r e
  unfold thr at e1 ⊢
  rw [Sem.onRaise_eq_wrap, Sem.wrap_wrap]
  exact e1
theorem Rn.eq {B : Nat} {x y : Sem α} {a : α} (h : Rn w B x s p a s' p') (e : y = x) : Rn w B y s p a s' p' := e ▸ h
/-- one step of the machine -/
theorem go_one {c : Sem Fin} {p : Pos} {s' : Shared} {t' : Thread} {N : Nat} {r : Shared} (hk : stepOk 11 (some (.ref 6)) ⟨c, cE, p, [topFrame q0]⟩ = true)
    (hs : step (denote treeTable) pw w s ⟨c, cE, p, [topFrame q0]⟩ = .go s' t') (h : Go w N s' t' = some r) : Go w (1 + N) s ⟨c, cE, p, [topFrame q0]⟩ = some r := by
  rw [Nat.add_comm]
  unfold Go topRun
  have : through ⟨c, cE, p, [topFrame q0]⟩ = false := rfl
  rw [this, hk, hs]
  exact h
theorem Rn.rule {B : Nat} {tag : String} {k : Unit → Sem α} {a : α} (h : Rn w B (k ()) s p a s' p') : Rn w (1 + B) (.rule tag k) s p a s' p' := fun K H gd lv N r e => by
  rw [Nat.add_assoc]
  obtain ⟨hp, gs, d, t, os⟩ := s
  exact go_one rfl rfl (h K H gd lv N r e)
theorem Rn.rule' {tag : String} : Rn w 1 (PySem.rule tag) s p () s p := Rn.rule (B := 0) .pure'
theorem Rn.at {q : Pos} : Rn w 1 (standAt q) s p () s q := fun K H gd lv N r e => by
  obtain ⟨hp, gs, d, t, os⟩ := s
  exact go_one rfl rfl e
theorem Rn.fresh : Rn w 1 PySem.fresh s p s.toks { s with toks := s.toks + 1 } p := fun K H gd lv N r e => by
  obtain ⟨hp, gs, d, t, os⟩ := s
  exact go_one rfl rfl e
theorem Rn.load {a : Addr} {part : Option Value} {o : Obj} (ho : s.heap.get? a = some o) : Rn w 1 (loadPart a part) s p o s p := fun K H gd lv N r e => by
  obtain ⟨hp, gs, d, t, os⟩ := s
  refine go_one rfl ?_ e
  show step _ _ _ ⟨hp, gs, d, t, os⟩ ⟨.load a part _, _, _, _⟩ = _
  simp only [step]
  have ho' : hp.get? a = some o := ho
  rw [ho']; rfl
theorem Rn.update {a : Addr} {part : Option Value} {f : Obj → Obj} {o : Obj} (ho : s.heap.get? a = some o) (ha : 11 ≤ a) : Rn w 1 (updatePart a part f) s p () { s with heap := s.heap.update a f } p := fun K H gd lv N r e => by
  obtain ⟨hp, gs, d, t, os⟩ := s
  refine go_one ?_ ?_ e
  · show (_ && (Nat.ble 11 a || a == mainNs || a == cStatics || some (Value.ref 6) == some (.ref a))) = true
    rw [Nat.ble_eq_true_of_le ha]; rfl
  · show step _ _ _ ⟨hp, gs, d, t, os⟩ ⟨.update a part f _, _, _, _⟩ = _
    have ho' : hp.get? a = some o := ho
    simp only [step]
    rw [ho']; rfl
theorem Rn.alloc {o : Obj} : Rn w 1 (PySem.alloc o) s p s.heap.objs.size { s with heap := s.heap.push o } p := fun K H gd lv N r e => by
  obtain ⟨hp, gs, d, t, os⟩ := s
  exact go_one rfl rfl e
theorem Rn.mkInt {i : Int} : Rn w 1 (PySem.mkInt i) s p (.int i s.toks) { s with toks := s.toks + 1 } p := Rn.bind (B₂ := 0) Rn.fresh Rn.pure
theorem Rn.mkText {x : Str} : Rn w 1 (PySem.mkText x) s p (.str x s.toks) { s with toks := s.toks + 1 } p := Rn.bind (B₂ := 0) Rn.fresh Rn.pure
end
end Mine
end
section
open PySem PySem.W PyProof.Rows
set_option Elab.async false
set_option maxRecDepth 100000
namespace Mine
noncomputable def rawH (k : Int) : Int := (if ((if k < 0 then -(((k.natAbs % (2 ^ 61 - 1 : Nat) : Nat) : Int)) else ((k.natAbs % (2 ^ 61 - 1 : Nat) : Nat) : Int)) == -1) = true then -2 else (if k < 0 then -(((k.natAbs % (2 ^ 61 - 1 : Nat) : Nat) : Int)) else ((k.natAbs % (2 ^ 61 - 1 : Nat) : Nat) : Int)))
abbrev HashAt (w : World) : Prop := ∀ (k : Int) (t : Tok) (hp : Heap) (gs : Array GenState) (d : Drawn) (tk : Nat) (os : OsState) (p : Pos) (K : Int → Sem Fin) (H : Value → Sem Fin) (gd : Bool → Bool) (lv : List Value → List Value) (N : Nat),
    Go w (N + 5) ⟨hp, gs, d, tk, os⟩ (thr (pyHash (.int k t)) K H gd lv p) = Go w N ⟨hp, gs, d, tk + 1, os⟩ (thr (pyHashByItsType.reduced (rawH k)) K H gd lv p)
theorem go_hash : ∀ w, HashAt w := by
  refine byRow2 "special-get-raises" (P := HashAt) ?_ ?_
  · intro w k t hp gs d tk os p K H gd lv N
    kernel_rfl
  · intro w k t hp gs d tk os p K H gd lv N
    kernel_rfl

theorem rawH_nat {k : Int} (h0 : 0 ≤ k) (h1 : k < 2 ^ 60) : rawH k = k := by
  unfold rawH
  have hk : ((k.natAbs % (2 ^ 61 - 1 : Nat) : Nat) : Int) = k := by
    rw [Nat.mod_eq_of_lt (by omega)]; omega
  rw [if_neg (show ¬ k < 0 by omega), hk]
  have : (k == -1) = false := by
    rw [beq_eq_false_iff_ne]; omega
  rw [this]; rfl
theorem reduced_nat {k : Int} (h0 : 0 ≤ k) (h1 : k < 2 ^ 60) : pyHashByItsType.reduced k = pure k := by
  unfold pyHashByItsType.reduced
  have a : decide (-(2 ^ 63 : Int) ≤ k) = true := decide_eq_true (by omega)
  have b : decide (k < 2 ^ 63) = true := decide_eq_true (by omega)
  rw [if_pos (by rw [a, b]; rfl)]
  have : (k == -1) = false := by
    rw [beq_eq_false_iff_ne]; omega
  rw [this]; rfl
section
variable {w : World} {s s' : Shared} {p p' : Pos}
theorem Rn.hash {k : Int} {t : Tok} (h0 : 0 ≤ k) (h1 : k < 2 ^ 60) : Rn w 5 (pyHash (.int k t)) s p k { s with toks := s.toks + 1 } p := fun K H gd lv N r e => by
  obtain ⟨hp, gs, d, tk, os⟩ := s
  rw [Nat.add_comm, go_hash w]
  rw [rawH_nat h0 h1, reduced_nat h0 h1]
  exact e
/-- int keys, each its own hash, all below `k` -/
noncomputable def Under (es : Array DictEntry) (k : Int) : Prop := ∀ e ∈ es, e.hash < k
theorem places_none {es : Array DictEntry} {k : Int} (h : Under es k) : placesWithHash es.size (fun i => es[i]?.map (·.hash)) k = [] := by
  unfold placesWithHash
  rw [List.filter_eq_nil_iff]
  intro i hi hc
  dsimp only at hc
  cases he : es[i]? with
  | none => rw [he] at hc; simp at hc
  | some e =>
    rw [he] at hc
    have := h e (Array.mem_of_getElem? he)
    simp at hc
    omega
theorem Rn.dictEntries {a : Addr} {part : Option Value} {o : Obj} {es : Array DictEntry} {n : Nat} (ho : s.heap.get? a = some o) (hd : o.data = .dict es n) : Rn w 1 (PySem.dictEntries a part) s p es s p := by
  unfold PySem.dictEntries
  refine Rn.bind (B₂ := 0) (Rn.load ho) ?_
  rw [hd]; exact Rn.pure
theorem Rn.dictEpoch {a : Addr} {part : Option Value} {o : Obj} {es : Array DictEntry} {n : Nat} (ho : s.heap.get? a = some o) (hd : o.data = .dict es n) : Rn w 1 (PySem.dictEpoch a part) s p n s p := by
  unfold PySem.dictEpoch
  refine Rn.bind (B₂ := 0) (Rn.load ho) ?_
  rw [hd]; exact Rn.pure
theorem Rn.dictFind {a : Addr} {k : Int} {t : Tok} {o : Obj} {es : Array DictEntry} {n : Nat} (ho : s.heap.get? a = some o) (hd : o.data = .dict es n) (hu : Under es k) : Rn w 1 (PySem.dictFind a (.int k t) k) s p none s p := by
  unfold PySem.dictFind
  refine Rn.holding (Rn.bind (B₂ := 0) (Rn.dictEntries ho hd) ?_)
  dsimp only
  rw [places_none hu]
  exact Rn.pure
theorem get_update {h : Heap} {a : Addr} {o : Obj} {f : Obj → Obj} (ho : h.get? a = some o) (hf : (f o).isFreed = false) : (h.update a f).get? a = some (f o) := Heap.get?_update_self _ ho hf
theorem Rn.updateDictKeys {a : Addr} {part : Option Value} {f : Array DictEntry → Array DictEntry} {c : Value} {es : Array DictEntry} {n : Nat} (ho : s.heap.get? a = some ⟨c, none, .dict es n, #[]⟩) (ha : 11 ≤ a) (hz : (f es).size ≤ 1000) :
    Rn w 3 (PySem.updateDictKeys a f part) s p () { s with heap := s.heap.update a (Obj.mapDictKeys f) } p := by
  unfold PySem.updateDictKeys
  refine Rn.bind (B₁ := 1) (B₂ := 2) (Rn.load ho) ?_
  refine Rn.bind (B₁ := 1) (B₂ := 1) (Rn.update ho ha) ?_
  unfold lookBehind
  refine Rn.bind (B₁ := 1) (B₂ := 0) (Rn.load (get_update ho rfl)) ?_
  have : (Obj.mapDictKeys f ⟨c, none, .dict es n, #[]⟩).data.pastItsLine = none := by
    show (Data.dict (f es) (n + 1)).pastItsLine = none
    show (if (f es).size > sizeLine + 1 then some "dict:memory" else none) = none
    rw [if_neg]
    have := sizeLine_eq
    omega
  rw [this]
  exact Rn.pure
theorem Rn.dictSet {a : Addr} {k : Int} {t : Tok} {v : Value} {c : Value} {es : Array DictEntry} {n : Nat} (ho : s.heap.get? a = some ⟨c, none, .dict es n, #[]⟩) (ha : 11 ≤ a) (hu : Under es k) (hz : es.size < 1000) (h0 : 0 ≤ k) (h1 : k < 2 ^ 60) :
    Rn w 10 (PySem.dictSet a (.int k t) v) s p () { s with heap := s.heap.update a (Obj.mapDictKeys (·.push ⟨k, .int k t, v⟩)), toks := s.toks + 1 } p := by
  unfold PySem.dictSet
  refine Rn.holding (Rn.bind (B₁ := 5) (B₂ := 5) (Rn.hash h0 h1) ?_)
  unfold dictSetHashed
  refine Rn.holding (Rn.bind (B₁ := 1) (B₂ := 4) (Rn.dictFind (s := { s with toks := s.toks + 1 }) ho rfl hu) ?_)
  refine Rn.bind (B₁ := 1) (B₂ := 3) Rn.rule' ?_
  exact Rn.updateDictKeys (s := { s with toks := s.toks + 1 }) ho ha (by rw [Array.size_push]; omega)
end
end Mine
end
section
open PySem PySem.W PyProof.Rows
set_option Elab.async false
set_option maxRecDepth 100000
namespace Mine
/-- a heap with objects behind -/
noncomputable def hpl (H : Heap) (l : List Obj) : Heap := ⟨H.objs ++ l.toArray, H.life⟩
noncomputable def dO (es : List DictEntry) : Obj := ⟨.type "dict", none, .dict es.toArray es.length, #[]⟩
theorem hpl_nil (H : Heap) : hpl H [] = H := by
  obtain ⟨o, l⟩ := H
  unfold hpl
  simp
theorem hpl_size (H : Heap) (l : List Obj) : (hpl H l).objs.size = H.objs.size + l.length := by simp [hpl]
theorem hpl_push (H : Heap) (l : List Obj) (o : Obj) : (hpl H l).push o = hpl H (l ++ [o]) := by
  unfold hpl Heap.push
  simp
theorem alive_get {h : Heap} {a : Addr} {o : Obj} (e : h.objs[a]? = some o) (hf : o.isFreed = false) : h.get? a = some o := by
  unfold Heap.get?
  rw [e]
  obtain ⟨c, d, dt, sl⟩ := o
  cases dt <;> first | rfl | cases hf
theorem hpl_get (H : Heap) (pre post : List Obj) (o : Obj) (hf : o.isFreed = false) : (hpl H (pre ++ o :: post)).get? (H.objs.size + pre.length) = some o := by
  refine alive_get ?_ hf
  unfold hpl
  dsimp only
  rw [Array.getElem?_append_right (by omega), Nat.add_sub_cancel_left]
  simp
theorem hpl_update (H : Heap) (pre post : List Obj) (o : Obj) (f : Obj → Obj) : (hpl H (pre ++ o :: post)).update (H.objs.size + pre.length) f = hpl H (pre ++ f o :: post) := by
  unfold hpl Heap.update
  dsimp only
  congr 1
  apply Array.ext_getElem?
  intro i
  rw [Array.getElem?_modify]
  by_cases h : i < H.objs.size
  · rw [Array.getElem?_append_left h, Array.getElem?_append_left h, if_neg (by omega)]
  · rw [Array.getElem?_append_right (by omega), Array.getElem?_append_right (by omega)]
    by_cases e : H.objs.size + pre.length = i
    · subst e
      rw [if_pos rfl, Nat.add_sub_cancel_left]
      simp
    · rw [if_neg e, List.getElem?_toArray, List.getElem?_toArray]
      rw [List.getElem?_append, List.getElem?_append]
      split
      · rfl
      · rename_i h2
        obtain ⟨j, hj⟩ : ∃ j, i - H.objs.size - pre.length = j + 1 := ⟨i - H.objs.size - pre.length - 1, by omega⟩
        rw [hj, List.getElem?_cons_succ, List.getElem?_cons_succ]
theorem dO_push (es : List DictEntry) (e : DictEntry) : Obj.mapDictKeys (·.push e) (dO es) = dO (es ++ [e]) := by
  unfold dO
  show (⟨_, _, .dict (es.toArray.push e) (es.length + 1), _⟩ : Obj) = _
  simp
noncomputable def ents (t : Nat) : List (Int × Str) → List DictEntry
  | [] => []
  | x :: r => ⟨x.1, .int x.1 t, .str x.2 (t + 1)⟩ :: ents (t + 3) r
/-- the display's value: the text, then the place again -/
noncomputable def valS (p : Pos) (x : Str) : Sem Value := do let v ← mkText x; standAt p; pure v
section
variable {w : World} {s s' : Shared} {p p' : Pos}

/-- a loop in the machine's monad, item by item -/
theorem Rn.forIn {β γ : Type} {f : β → γ → Sem (ForInStep γ)} {B : Nat} (St : Nat → Shared) (Ps : Nat → Pos) (bs : Nat → γ) : ∀ (l : List β) (n : Nat),
    (∀ i (x : β), l[i]? = some x → Rn w B (f x (bs (n + i))) (St (n + i)) (Ps (n + i)) (.yield (bs (n + i + 1))) (St (n + i + 1)) (Ps (n + i + 1))) →
    Rn w (B * l.length) (forIn l (bs n) f) (St n) (Ps n) (bs (n + l.length)) (St (n + l.length)) (Ps (n + l.length))
  | [], n, _ => by
    rw [List.forIn_nil]
    exact Rn.pure
  | x :: r, n, h => by
    rw [List.forIn_cons]
    have h0 := h 0 x rfl
    rw [Nat.add_zero] at h0
    rw [List.length_cons, Nat.mul_succ, Nat.add_comm (B * r.length)]
    refine Rn.bind h0 ?_
    have := Rn.forIn (f := f) (B := B) St Ps bs r (n + 1) (fun i x hx => by
      have := h (i + 1) x (by simpa using hx)
      rw [show n + (i + 1) = n + 1 + i by omega] at this
      exact this)
    rw [show n + 1 + r.length = n + (r.length + 1) by omega] at this
    exact this
theorem isFreed_dO (es : List DictEntry) : (dO es).isFreed = false := rfl
/-- storing an entry into the last dict of a heap -/
theorem Rn.setLast {H : Heap} {pre post : List Obj} {es : List DictEntry} {k : Int} {t : Nat} {v : Value} {gs : Array GenState} {d : Drawn} {tk : Nat} {os : OsState} (hH : 11 ≤ H.objs.size)
    (hu : ∀ e ∈ es, e.hash < k) (hz : es.length < 1000) (h0 : 0 ≤ k) (h1 : k < 2 ^ 60) :
    Rn w 10 (PySem.dictSet (H.objs.size + pre.length) (.int k t) v) ⟨hpl H (pre ++ dO es :: post), gs, d, tk, os⟩ p () ⟨hpl H (pre ++ dO (es ++ [⟨k, .int k t, v⟩]) :: post), gs, d, tk + 1, os⟩ p := by
  have := Rn.dictSet (w := w) (p := p) (s := ⟨hpl H (pre ++ dO es :: post), gs, d, tk, os⟩) (a := H.objs.size + pre.length) (k := k) (t := t) (v := v) (es := es.toArray) (n := es.length) (c := .type "dict")
    (hpl_get H pre post (dO es) rfl) (Nat.le_trans hH (Nat.le_add_right _ _)) (fun e he => hu e (by simpa using he)) (by simpa using hz) h0 h1
  dsimp only at this
  rw [hpl_update, dO_push] at this
  exact this
noncomputable def InRange (l : List (Int × Str)) : Prop := ∀ x ∈ l, 0 ≤ x.1 ∧ x.1 < 2 ^ 60
/-- keys that rise -/
noncomputable def Rise (l : List (Int × Str)) : Prop := l.Pairwise (fun a b => a.1 < b.1)
theorem ents_length (t : Nat) : ∀ l, (ents t l).length = l.length
  | [] => rfl
  | _ :: r => by rw [ents, List.length_cons, List.length_cons, ents_length]
theorem ents_append : ∀ (l r : List (Int × Str)) (t : Nat), ents t (l ++ r) = ents t l ++ ents (t + 3 * l.length) r
  | [], r, t => by simp [ents]
  | x :: l, r, t => by
    rw [List.cons_append, ents, ents, ents_append l r, List.cons_append, List.length_cons, show t + 3 + 3 * l.length = t + 3 * (l.length + 1) by omega]
theorem ents_hash (t : Nat) : ∀ l, (ents t l).map (·.hash) = l.map (·.1)
  | [] => rfl
  | _ :: r => by rw [ents, List.map_cons, List.map_cons, ents_hash]
noncomputable def pairOf (q : Pos) (x : Int × Str) : Sem Value × Sem Value := (mkInt x.1, valS q x.2)
theorem Rn.valS {q : Pos} {x : Str} : Rn w 2 (valS q x) s p (.str x s.toks) { s with toks := s.toks + 1 } q := by
  unfold Mine.valS
  refine Rn.bind (B₁ := 1) (B₂ := 1) Rn.mkText (Rn.bind (B₁ := 1) (B₂ := 0) Rn.at Rn.pure)
/-- a long part of a display -/
theorem Rn.subLong {H : Heap} {pre : List Obj} {q : Pos} {l : List (Int × Str)} {gs : Array GenState} {d : Drawn} {tk : Nat} {os : OsState} (hH : 11 ≤ H.objs.size) (hl : 15 < l.length) (hz : l.length < 1000) (hr : InRange l) (ha : Rise l) :
    Rn w (2 + 13 * l.length) (subDict (l.map (pairOf q))) ⟨hpl H pre, gs, d, tk, os⟩ q (H.objs.size + pre.length) ⟨hpl H (pre ++ [dO (ents tk l)]), gs, d, tk + 3 * l.length, os⟩ q := by
  unfold subDict
  rw [Nat.add_assoc 1 1]
  refine Rn.bind (B₁ := 1) Rn.alloc ?_
  dsimp only
  rw [hpl_push, hpl_size, if_neg (by rw [List.length_map]; omega)]
  rw [show 1 + 13 * l.length = (1 + 13 * l.length) + 0 by omega]
  refine Rn.bind (a := ()) (Rn.holding ?_) Rn.pure
  refine Rn.bind (B₁ := 1) Rn.rule' ?_
  rw [show 13 * l.length = 13 * l.length + 0 by omega]
  refine Rn.bind (a := PUnit.unit) ?_ Rn.pure
  have := Rn.forIn (w := w) (B := 13) (β := Sem Value × Sem Value) (γ := PUnit) (f := fun x __s => match x with
        | (k, v) => (do
          let kv ← k
          let vv ← PySem.holding [kv] v
          PySem.holding [kv, vv] (PySem.dictSet (H.objs.size + pre.length) kv vv)
          Pure.pure (ForInStep.yield PUnit.unit) : Sem (ForInStep PUnit)))
    (fun i => ⟨hpl H (pre ++ [dO (ents tk (l.take i))]), gs, d, tk + 3 * i, os⟩) (fun _ => q) (fun _ => PUnit.unit) (l.map (pairOf q)) 0 (fun i x hx => by
      rw [List.getElem?_map] at hx
      obtain ⟨⟨k, v⟩, hy, rfl⟩ := Option.map_eq_some_iff.mp hx
      have hlt : i < l.length := by
        rcases Nat.lt_or_ge i l.length with h | h
        · exact h
        · rw [List.getElem?_eq_none h] at hy; cases hy
      dsimp only [pairOf]
      rw [Nat.zero_add]
      refine Rn.bind (B₁ := 1) (B₂ := 12) Rn.mkInt ?_
      refine Rn.bind (B₁ := 2) (B₂ := 10) (Rn.holding Rn.valS) ?_
      have hmem : (k, v) ∈ l := List.mem_of_getElem? hy
      have hset := Rn.setLast (w := w) (p := q) (H := H) (pre := pre) (post := []) (es := ents tk (l.take i)) (k := k) (t := tk + 3 * i) (v := .str v (tk + 3 * i + 1)) (gs := gs) (d := d) (tk := tk + 3 * i + 1 + 1) (os := os) hH
        (fun e he => by
          have : e.hash ∈ (l.take i).map (·.1) := by rw [← ents_hash tk]; exact List.mem_map_of_mem he
          obtain ⟨y, hy1, hy2⟩ := List.mem_map.mp this
          rw [← hy2]
          obtain ⟨j, hj, rfl⟩ := List.mem_iff_getElem.mp hy1
          have hj' : j < i := by
            have := hj
            rw [List.length_take] at this
            omega
          rw [List.getElem_take]
          have hk : l[i] = (k, v) := by
            rw [List.getElem?_eq_getElem hlt] at hy
            exact Option.some.inj hy
          have := List.pairwise_iff_getElem.mp ha j i (by omega) hlt hj'
          rw [hk] at this
          exact this)
        (by rw [ents_length, List.length_take]; omega) (hr _ hmem).1 (hr _ hmem).2
      have e : ents tk (l.take i) ++ [⟨k, .int k (tk + 3 * i), .str v (tk + 3 * i + 1)⟩] = ents tk (l.take (i + 1)) := by
        rw [List.take_add_one, hy, ents_append, List.length_take, Nat.min_eq_left (by omega)]
        rfl
      rw [e] at hset
      rw [show tk + 3 * i + 1 + 1 + 1 = tk + 3 * (i + 1) by omega] at hset
      exact Rn.bind (B₁ := 10) (B₂ := 0) (Rn.holding hset) Rn.pure)
  rw [List.length_map, Nat.zero_add] at this
  rw [List.take_length] at this
  exact this

theorem Rn.dictPut {H : Heap} {pre post : List Obj} {es : List DictEntry} {k : Int} {t : Nat} {v : Value} {gs : Array GenState} {d : Drawn} {tk : Nat} {os : OsState} (hH : 11 ≤ H.objs.size)
    (hu : ∀ e ∈ es, e.hash < k) (hz : es.length < 1000) :
    Rn w 4 (PySem.dictPut (H.objs.size + pre.length) k (.int k t) v) ⟨hpl H (pre ++ dO es :: post), gs, d, tk, os⟩ p () ⟨hpl H (pre ++ dO (es ++ [⟨k, .int k t, v⟩]) :: post), gs, d, tk, os⟩ p := by
  unfold PySem.dictPut
  have ho := hpl_get H pre post (dO es) rfl
  refine Rn.bind (B₁ := 1) (B₂ := 3) (Rn.dictFind (s := ⟨hpl H (pre ++ dO es :: post), gs, d, tk, os⟩) ho rfl (fun e he => hu e (by simpa using he))) ?_
  have := Rn.updateDictKeys (w := w) (p := p) (part := none) (s := ⟨hpl H (pre ++ dO es :: post), gs, d, tk, os⟩) (f := (·.push ⟨k, .int k t, v⟩)) (c := .type "dict") (es := es.toArray) (n := es.length) ho (Nat.le_trans hH (Nat.le_add_right _ _)) (by rw [Array.size_push]; simp; omega)
  dsimp only at this
  rw [hpl_update, dO_push] at this
  exact this
theorem looks_iter : typeLookup (.type "dict") "__iter__" = pure (some (.builtin "dict.__iter__")) := by rw [typeLookup_type, builtinLookup_eq_fast]; kernel_rfl
theorem sub_dict : isSubtype (.type "dict") (.type "dict") = pure true := by kernel_rfl
/-- a sub-dict merged into the first one -/
theorem Rn.merge {H : Heap} {mid : List Obj} {l : List (Int × Str)} {es : List DictEntry} {gs : Array GenState} {d : Drawn} {tk : Nat} {os : OsState} {F : List DictEntry} (hH : 11 ≤ H.objs.size) (hne : es ≠ [])
    (hF : ∀ e ∈ F, ∃ t : Nat, e.key = .int e.hash t) (hz : es.length + F.length < 1000) (hr : (es ++ F).Pairwise (fun a b => a.hash < b.hash)) :
    Rn w (12 + 7 * F.length) (mergeMapping H.objs.size (.ref (H.objs.size + (mid.length + 1))) false) ⟨hpl H (dO es :: (mid ++ [dO F])), gs, d, tk, os⟩ p () ⟨hpl H (dO (es ++ F) :: (mid ++ [dO F])), gs, d, tk, os⟩ p := by
  have hsub : ∀ x : List DictEntry, (hpl H (dO x :: (mid ++ [dO F]))).get? (H.objs.size + (mid.length + 1)) = some (dO F) := fun x => by
    have := hpl_get H (dO x :: mid) [] (dO F) rfl
    simpa using this
  have hmain : ∀ x : List DictEntry, (hpl H (dO x :: (mid ++ [dO F]))).get? H.objs.size = some (dO x) := fun x => by
    have := hpl_get H [] (mid ++ [dO F]) (dO x) rfl
    simpa using this
  have hcls : ∀ x : List DictEntry, Rn w 1 (typeOf (.ref (H.objs.size + (mid.length + 1)))) ⟨hpl H (dO x :: (mid ++ [dO F])), gs, d, tk, os⟩ p (.type "dict") ⟨hpl H (dO x :: (mid ++ [dO F])), gs, d, tk, os⟩ p := fun x => by
    unfold typeOf
    refine Rn.bind (B₁ := 1) (B₂ := 0) (a := dO F) (Rn.load (s := ⟨hpl H (dO x :: (mid ++ [dO F])), gs, d, tk, os⟩) (hsub x)) ?_
    exact Rn.pure
  unfold mergeMapping isInstance specialOf
  rw [show 12 + 7 * F.length = 1 + (1 + (10 + 7 * F.length)) by omega]
  refine Rn.bind (B₁ := 1) (a := true) (s₁ := ⟨hpl H (dO es :: (mid ++ [dO F])), gs, d, tk, os⟩) (p₁ := p) ?_ ?_
  · refine Rn.bind (B₁ := 1) (B₂ := 0) (hcls es) ?_
    rw [sub_dict]; exact Rn.pure
  dsimp only
  rw [if_pos rfl]
  refine Rn.bind (B₁ := 1) (a := some (Value.builtin "dict.__iter__")) (s₁ := ⟨hpl H (dO es :: (mid ++ [dO F])), gs, d, tk, os⟩) (p₁ := p) ?_ ?_
  · refine Rn.bind (B₁ := 1) (B₂ := 0) (hcls es) ?_
    rw [looks_iter]; exact Rn.pure
  refine (Rn.bind (B₁ := 0) (B₂ := 10 + 7 * F.length) (a := true) (s₁ := ⟨hpl H (dO es :: (mid ++ [dO F])), gs, d, tk, os⟩) (p₁ := p) Rn.pure ?_).more (by omega)
  dsimp only
  rw [if_neg (by
    have : H.objs.size + (mid.length + 1) ≠ sysModules := by
      intro h
      have h2 : @Eq Nat (H.objs.size + (mid.length + 1)) 1 := h
      omega
    simpa using this)]
  refine (Rn.bind (B₁ := 1) (B₂ := 9 + 7 * F.length) (Rn.dictEntries (s := ⟨hpl H (dO es :: (mid ++ [dO F])), gs, d, tk, os⟩) (hmain es) rfl) ?_).more (by omega)
  rw [if_neg (by
    cases es with
    | nil => exact absurd rfl hne
    | cons a r => simp)]
  refine (Rn.bind (B₁ := 1) (B₂ := 8 + 7 * F.length) (Rn.dictEntries (s := ⟨hpl H (dO es :: (mid ++ [dO F])), gs, d, tk, os⟩) (hsub es) rfl) ?_).more (by omega)
  refine (Rn.bind (B₁ := 1) (B₂ := 7 + 7 * F.length) (Rn.dictEpoch (s := ⟨hpl H (dO es :: (mid ++ [dO F])), gs, d, tk, os⟩) (hsub es) rfl) ?_).more (by omega)
  refine (Rn.bind (B₁ := 7 * F.length) (B₂ := 0) (a := PUnit.unit) ?_ Rn.pure).more (by omega)
  have hpw := List.pairwise_append.mp hr
  have := Rn.forIn (w := w) (B := 7) (β := Nat) (γ := PUnit) (f := fun i __s => (do
      let __do_lift ← PySem.dictEntries (H.objs.size + (mid.length + 1))
      match __do_lift[i]? with
        | some e => do
          PySem.holding [e.key, e.val] (PySem.dictPut H.objs.size e.hash e.key e.val)
          let __do_lift ← PySem.dictEpoch (H.objs.size + (mid.length + 1))
          if (__do_lift != F.length) = true then do
              unsupported "dict.changed-during-merge"
              Pure.pure (ForInStep.yield PUnit.unit)
            else Pure.pure (ForInStep.yield PUnit.unit)
        | x => do
          unsupported "dict.changed-during-merge"
          Pure.pure (ForInStep.yield PUnit.unit) : Sem (ForInStep PUnit)))
    (fun i => ⟨hpl H (dO (es ++ F.take i) :: (mid ++ [dO F])), gs, d, tk, os⟩) (fun _ => p) (fun _ => PUnit.unit) (List.range F.length) 0 (fun i x hx => by
      have hlt : i < F.length := by
        rcases Nat.lt_or_ge i F.length with h | h
        · exact h
        · rw [List.getElem?_eq_none (by rw [List.length_range]; exact h)] at hx; cases hx
      have hxi : x = i := by
        rw [List.getElem?_range hlt] at hx
        exact (Option.some.inj hx).symm
      subst hxi
      rw [Nat.zero_add]
      refine Rn.bind (B₁ := 1) (B₂ := 6) (Rn.dictEntries (s := ⟨hpl H (dO (es ++ F.take x) :: (mid ++ [dO F])), gs, d, tk, os⟩) (hsub _) rfl) ?_
      rw [List.getElem?_toArray, List.getElem?_eq_getElem hlt]
      dsimp only
      obtain ⟨t, ht⟩ := hF F[x] (List.getElem_mem hlt)
      have hput := Rn.dictPut (w := w) (p := p) (H := H) (pre := []) (post := mid ++ [dO F]) (es := es ++ F.take x) (k := F[x].hash) (t := t) (v := F[x].val) (gs := gs) (d := d) (tk := tk) (os := os) hH (fun e he => by
          rcases List.mem_append.mp he with h | h
          · exact hpw.2.2 e h _ (List.getElem_mem hlt)
          · obtain ⟨j, hj, rfl⟩ := List.mem_iff_getElem.mp h
            rw [List.length_take] at hj
            rw [List.getElem_take]
            exact List.pairwise_iff_getElem.mp hpw.2.1 j x (by omega) hlt (by omega)) (by rw [List.length_append, List.length_take]; omega)
      rw [← ht] at hput
      have e2 : es ++ F.take x ++ [⟨F[x].hash, F[x].key, F[x].val⟩] = es ++ F.take (x + 1) := by
        rw [List.append_assoc, List.take_add_one, List.getElem?_eq_getElem hlt]; rfl
      rw [e2] at hput
      refine Rn.bind (B₁ := 4) (B₂ := 2) (Rn.holding hput) ?_
      refine Rn.bind (B₁ := 1) (B₂ := 1) (Rn.dictEpoch (s := ⟨hpl H (dO (es ++ F.take (x + 1)) :: (mid ++ [dO F])), gs, d, tk, os⟩) (hsub _) rfl) ?_
      rw [if_neg (by simp)]
      exact Rn.more Rn.pure (by omega))
  rw [List.length_range, Nat.zero_add, List.take_length] at this
  have e0 : es ++ F.take 0 = es := by simp
  rw [e0] at this
  have esz : F.toArray.size = F.length := by simp
  rw [esz]
  exact this
end
end Mine
end
section
open PySem PySem.W PyProof.Rows
set_option Elab.async false
set_option maxRecDepth 100000
set_option linter.unusedVariables false
namespace Mine
noncomputable def ents2 (t : Nat) : List (Int × Str) → List DictEntry
  | [] => []
  | x :: r => ⟨x.1, .int x.1 t, .str x.2 (t + 1)⟩ :: ents2 (t + 2) r
theorem ents2_length (t : Nat) : ∀ l, (ents2 t l).length = l.length
  | [] => rfl
  | _ :: r => by rw [ents2, List.length_cons, List.length_cons, ents2_length]
theorem ents2_hash (t : Nat) : ∀ l, (ents2 t l).map (·.hash) = l.map (·.1)
  | [] => rfl
  | _ :: r => by rw [ents2, List.map_cons, List.map_cons, ents2_hash]
theorem ents_int (t : Nat) : ∀ l, ∀ e ∈ ents t l, ∃ t : Nat, e.key = .int e.hash t
  | [], e, h => by simp [ents] at h
  | x :: r, e, h => by
    rw [ents] at h
    rcases List.mem_cons.mp h with rfl | h
    · exact ⟨t, rfl⟩
    · exact ents_int _ r e h
theorem ents2_int (t : Nat) : ∀ l, ∀ e ∈ ents2 t l, ∃ t : Nat, e.key = .int e.hash t
  | [], e, h => by simp [ents2] at h
  | x :: r, e, h => by
    rw [ents2] at h
    rcases List.mem_cons.mp h with rfl | h
    · exact ⟨t, rfl⟩
    · exact ents2_int _ r e h
noncomputable def vals2 (t : Nat) : List (Int × Str) → List (Value × Value)
  | [] => []
  | x :: r => (.int x.1 t, .str x.2 (t + 1)) :: vals2 (t + 2) r
section
variable {w : World} {s s' : Shared} {p p' : Pos}
theorem Rn.evalPairs {q : Pos} {h : Heap} {gs : Array GenState} {d : Drawn} {os : OsState} : ∀ (l : List (Int × Str)) (tk : Nat),
    Rn w (3 * l.length) (PySem.evalPairs (l.map (pairOf q))) ⟨h, gs, d, tk, os⟩ q (vals2 tk l) ⟨h, gs, d, tk + 2 * l.length, os⟩ q
  | [], tk => Rn.pure
  | x :: r, tk => by
    rw [List.map_cons]
    unfold PySem.evalPairs pairOf
    rw [List.length_cons, show 3 * (r.length + 1) = 1 + (2 + (3 * r.length + 0)) by omega]
    refine Rn.bind (B₁ := 1) Rn.mkInt ?_
    refine Rn.bind (B₁ := 2) (Rn.holding Rn.valS) ?_
    have := Rn.evalPairs (h := h) (gs := gs) (d := d) (os := os) (q := q) r (tk + 1 + 1)
    rw [show tk + 1 + 1 + 2 * r.length = tk + 2 * (r.length + 1) by omega] at this
    exact Rn.bind (B₁ := 3 * r.length) (Rn.holding this) Rn.pure
theorem Rn.storeAll {H : Heap} {pre : List Obj} {gs : Array GenState} {d : Drawn} {os : OsState} (hH : 11 ≤ H.objs.size) : ∀ (l : List (Int × Str)) (es : List DictEntry) (t tk : Nat), es.length + l.length < 1000 → InRange l →
    (es ++ ents2 t l).Pairwise (fun a b => a.hash < b.hash) →
    Rn w (10 * l.length) (ForIn.forIn (vals2 t l) PUnit.unit fun (x : Value × Value) (_ : PUnit) => (match x with | (k, v) => (do PySem.dictSet (H.objs.size + pre.length) k v; Pure.pure (ForInStep.yield PUnit.unit) : Sem (ForInStep PUnit))))
      ⟨hpl H (pre ++ [dO es]), gs, d, tk, os⟩ p PUnit.unit ⟨hpl H (pre ++ [dO (es ++ ents2 t l)]), gs, d, tk + l.length, os⟩ p
  | [], es, t, tk, _, _, _ => by
    rw [vals2, List.forIn_nil, ents2, List.append_nil]
    exact Rn.pure
  | x :: r, es, t, tk, hz, hr, ha => by
    rw [vals2, List.forIn_cons, List.length_cons, show 10 * (r.length + 1) = 10 + 10 * r.length by omega]
    rw [List.length_cons] at hz
    have hx := hr x (List.mem_cons_self)
    have hp := List.pairwise_append.mp ha
    have hset := Rn.setLast (w := w) (p := p) (H := H) (pre := pre) (post := []) (es := es) (k := x.1) (t := t) (v := .str x.2 (t + 1)) (gs := gs) (d := d) (tk := tk) (os := os) hH
      (fun e he => hp.2.2 e he ⟨x.1, .int x.1 t, .str x.2 (t + 1)⟩ (by rw [ents2]; exact List.mem_cons_self)) (by omega) hx.1 hx.2
    refine Rn.bind (B₁ := 10) (a := ForInStep.yield PUnit.unit) (Rn.bind (B₁ := 10) (B₂ := 0) hset Rn.pure) ?_
    have e : es ++ ents2 t (x :: r) = (es ++ [⟨x.1, .int x.1 t, .str x.2 (t + 1)⟩]) ++ ents2 (t + 2) r := by rw [ents2, List.append_assoc]; rfl
    rw [e] at ha ⊢
    have := Rn.storeAll (pre := pre) (gs := gs) (d := d) (os := os) hH r (es ++ [⟨x.1, .int x.1 t, .str x.2 (t + 1)⟩]) (t + 2) (tk + 1) (by rw [List.length_append]; simp; omega) (fun y hy => hr y (List.mem_cons_of_mem _ hy)) ha
    rw [show tk + 1 + r.length = tk + (r.length + 1) by omega] at this
    exact this
theorem rise_ents2 {l : List (Int × Str)} (t : Nat) (h : Rise l) : (ents2 t l).Pairwise (fun a b => a.hash < b.hash) := by
  have : ((ents2 t l).map (·.hash)).Pairwise (· < ·) := by
    rw [ents2_hash]; exact List.pairwise_map.mpr h
  exact List.pairwise_map.mp this
theorem Rn.subShort {H : Heap} {pre : List Obj} {q : Pos} {l : List (Int × Str)} {gs : Array GenState} {d : Drawn} {tk : Nat} {os : OsState} (hH : 11 ≤ H.objs.size) (hl : l.length ≤ 15) (hr : InRange l) (ha : Rise l) :
    Rn w (1 + 13 * l.length) (subDict (l.map (pairOf q))) ⟨hpl H pre, gs, d, tk, os⟩ q (H.objs.size + pre.length) ⟨hpl H (pre ++ [dO (ents2 tk l)]), gs, d, tk + 3 * l.length, os⟩ q := by
  unfold subDict
  refine Rn.bind (B₁ := 1) Rn.alloc ?_
  dsimp only
  rw [hpl_push, hpl_size, if_pos (by rw [List.length_map]; exact hl)]
  rw [show 13 * l.length = 13 * l.length + 0 by omega]
  refine Rn.bind (a := ()) (Rn.holding ?_) Rn.pure
  rw [show 13 * l.length = 3 * l.length + (10 * l.length + 0) by omega]
  refine Rn.bind (B₁ := 3 * l.length) (Rn.evalPairs l tk) (Rn.holding ?_)
  have := Rn.storeAll (w := w) (p := q) (pre := pre) (gs := gs) (d := d) (os := os) hH l [] tk (tk + 2 * l.length) (by simp; omega) hr (by rw [List.nil_append]; exact rise_ents2 _ ha)
  rw [List.nil_append, show tk + 2 * l.length + l.length = tk + 3 * l.length by omega] at this
  exact Rn.bind (a := PUnit.unit) this Rn.pure
end
end Mine
end
section
open PySem PySem.W PyProof.Rows
set_option Elab.async false
set_option maxRecDepth 100000
set_option linter.unusedVariables false
namespace Mine
abbrev DSt := Option Addr × List (Sem Value × Sem Value)
noncomputable def flushT (run : List (Sem Value × Sem Value)) (main : Option Addr) : Sem (Option Addr) := if run.isEmpty = true then pure main
      else
        match main with
        | none => do
          let a ← subDict run
          pure (some a)
        | some d => do
          let sub ← holding [Value.ref d] (subDict run)
          (holding [Value.ref d, Value.ref sub] (mergeMapping d (Value.ref sub) false)).onRaise fun x => do
              let _ ← holding [Value.ref d, x] (runValue (Code.builtin "proto.let_go" { }))
              pure ()
          pure (some d)
noncomputable def itemOf (q : Pos) (x : Int × Str) : Option (Sem Value) × Sem Value := (some (mkInt x.1), valS q x.2)
theorem gather {f : (Option (Sem Value) × Sem Value) → DSt → Sem (ForInStep DSt)}
    (h1 : ∀ (k v : Sem Value) (run : List (Sem Value × Sem Value)) (main : Option Addr), run.length + 1 < 17 → f (some k, v) (main, run) = pure (.yield (main, run ++ [(k, v)])))
    (h2 : ∀ (k v : Sem Value) (run : List (Sem Value × Sem Value)) (main : Option Addr), run.length + 1 = 17 → f (some k, v) (main, run) = (flushT (run ++ [(k, v)]) main >>= fun m => pure (.yield (m, []))))
    (q : Pos) (main : Option Addr) (rest : List (Option (Sem Value) × Sem Value)) : ∀ (l : List (Int × Str)) (run : List (Sem Value × Sem Value)), run.length + l.length = 17 → l ≠ [] →
      forIn (l.map (itemOf q) ++ rest) (main, run) f = (flushT (run ++ l.map (pairOf q)) main >>= fun m => forIn rest (m, []) f)
  | [], run, _, h => absurd rfl h
  | [x], run, hl, _ => by
    rw [List.map_cons, List.map_nil, List.cons_append, List.nil_append, List.forIn_cons]
    unfold itemOf
    rw [h2 _ _ _ _ (by simpa using hl), bind_assoc]
    simp only [pure_bind]
    rfl
  | x :: y :: r, run, hl, _ => by
    rw [List.map_cons, List.cons_append, List.forIn_cons]
    have e : f (itemOf q x) (main, run) = pure (.yield (main, run ++ [pairOf q x])) := h1 _ _ _ _ (by simp at hl; omega)
    rw [e, pure_bind]
    have := gather h1 h2 q main rest (y :: r) (run ++ [pairOf q x]) (by simp at hl ⊢; omega) (by simp)
    dsimp only
    rw [this, List.append_assoc]
    rfl
theorem gatherLast {f : (Option (Sem Value) × Sem Value) → DSt → Sem (ForInStep DSt)}
    (h1 : ∀ (k v : Sem Value) (run : List (Sem Value × Sem Value)) (main : Option Addr), run.length + 1 < 17 → f (some k, v) (main, run) = pure (.yield (main, run ++ [(k, v)])))
    (q : Pos) (main : Option Addr) : ∀ (l : List (Int × Str)) (run : List (Sem Value × Sem Value)), run.length + l.length < 17 →
      forIn (l.map (itemOf q)) (main, run) f = pure (main, run ++ l.map (pairOf q))
  | [], run, _ => by simp
  | x :: r, run, hl => by
    rw [List.map_cons, List.forIn_cons]
    have e : f (itemOf q x) (main, run) = pure (.yield (main, run ++ [pairOf q x])) := h1 _ _ _ _ (by simp at hl; omega)
    rw [e, pure_bind]
    have := gatherLast h1 q main r (run ++ [pairOf q x]) (by simp at hl ⊢; omega)
    dsimp only
    rw [this, List.append_assoc]
    rfl
noncomputable def subsOf (t : Nat) : List (List (Int × Str)) → List Obj
  | [] => []
  | c :: cs => dO (ents t c) :: subsOf (t + 51) cs
theorem rise_ents {l : List (Int × Str)} (t : Nat) (h : Rise l) : (ents t l).Pairwise (fun a b => a.hash < b.hash) := by
  have : ((ents t l).map (·.hash)).Pairwise (· < ·) := by
    rw [ents_hash]; exact List.pairwise_map.mpr h
  exact List.pairwise_map.mp this
section
variable {w : World} {s s' : Shared} {p p' : Pos}
theorem Rn.flushS {H : Heap} {mid : List Obj} {q : Pos} {es F : List DictEntry} {l : List (Int × Str)} {gs : Array GenState} {d : Drawn} {tk tk' B : Nat} {os : OsState} (hH : 11 ≤ H.objs.size) (hne : es ≠ []) (hl : l ≠ [])
    (hsub : Rn w B (subDict (l.map (pairOf q))) ⟨hpl H (dO es :: mid), gs, d, tk, os⟩ q (H.objs.size + (mid.length + 1)) ⟨hpl H (dO es :: mid ++ [dO F]), gs, d, tk', os⟩ q)
    (hF : ∀ e ∈ F, ∃ t : Nat, e.key = .int e.hash t) (hz : es.length + F.length < 1000) (hr : (es ++ F).Pairwise (fun a b => a.hash < b.hash)) :
    Rn w (B + (12 + 7 * F.length)) (flushT (l.map (pairOf q)) (some H.objs.size)) ⟨hpl H (dO es :: mid), gs, d, tk, os⟩ q (some H.objs.size) ⟨hpl H (dO (es ++ F) :: (mid ++ [dO F])), gs, d, tk', os⟩ q := by
  unfold flushT
  rw [if_neg (by
    cases l with
    | nil => exact absurd rfl hl
    | cons a r => simp)]
  dsimp only
  refine Rn.bind (B₁ := B) (Rn.holding hsub) ?_
  refine Rn.bind (B₁ := 12 + 7 * F.length) (B₂ := 0) (Rn.onRaise (Rn.holding (Rn.merge (l := l) hH hne hF hz hr))) ?_
  exact Rn.pure
/-- the display's parts of seventeen, behind the first -/
theorem Rn.chunks {H : Heap} {q : Pos} {gs : Array GenState} {d : Drawn} {os : OsState} (hH : 11 ≤ H.objs.size) {f : (Option (Sem Value) × Sem Value) → DSt → Sem (ForInStep DSt)}
    (h1 : ∀ (k v : Sem Value) (run : List (Sem Value × Sem Value)) (main : Option Addr), run.length + 1 < 17 → f (some k, v) (main, run) = Pure.pure (.yield (main, run ++ [(k, v)])))
    (h2 : ∀ (k v : Sem Value) (run : List (Sem Value × Sem Value)) (main : Option Addr), run.length + 1 = 17 → f (some k, v) (main, run) = (flushT (run ++ [(k, v)]) main >>= fun m => Pure.pure (.yield (m, []))))
    (last : List (Int × Str)) (hlast : last.length < 17) : ∀ (cs : List (List (Int × Str))) (es : List DictEntry) (mid : List Obj) (tk : Nat), (∀ c ∈ cs, c.length = 17) → es ≠ [] → es.length + 17 * cs.length < 1000 →
      (es ++ ents tk cs.flatten).Pairwise (fun a b => a.hash < b.hash) → InRange cs.flatten → Rise cs.flatten →
      Rn w (400 * cs.length) (ForIn.forIn (cs.flatten.map (itemOf q) ++ last.map (itemOf q)) (some H.objs.size, []) f) ⟨hpl H (dO es :: mid), gs, d, tk, os⟩ q (some H.objs.size, last.map (pairOf q))
        ⟨hpl H (dO (es ++ ents tk cs.flatten) :: (mid ++ subsOf tk cs)), gs, d, tk + 51 * cs.length, os⟩ q
  | [], es, mid, tk, _, _, _, _, _, _ => by
    rw [List.flatten_nil, List.map_nil, List.nil_append, gatherLast h1 q _ last [] (by simpa using hlast)]
    simp only [ents, subsOf, List.append_nil, List.length_nil, Nat.mul_zero, Nat.add_zero, List.nil_append]
    exact Rn.pure
  | c :: cs, es, mid, tk, hc, hne, hz, hr, hi, ha => by
    have hcl : c.length = 17 := hc c List.mem_cons_self
    rw [List.flatten_cons] at hr hi ha ⊢
    rw [List.map_append, List.append_assoc, gather h1 h2 q _ _ c [] (by simpa using hcl) (by intro e; rw [e] at hcl; cases hcl), List.nil_append]
    rw [ents_append, hcl] at hr ⊢
    have hac : Rise c := (List.pairwise_append.mp ha).1
    have har : Rise cs.flatten := (List.pairwise_append.mp ha).2.1
    rw [← List.append_assoc] at hr ⊢
    rw [List.length_cons] at hz ⊢
    have hsub := Rn.subLong (w := w) (H := H) (pre := dO es :: mid) (q := q) (l := c) (gs := gs) (d := d) (tk := tk) (os := os) hH (by omega) (by omega) (fun x hx => hi x (List.mem_append_left _ hx)) hac
    rw [hcl] at hsub
    have hfl := Rn.flushS (w := w) (H := H) (mid := mid) (q := q) (es := es) (F := ents tk c) (l := c) (gs := gs) (d := d) (tk := tk) (tk' := tk + 3 * 17) (os := os) hH hne (by intro e; rw [e] at hcl; cases hcl) hsub (ents_int tk c) (by rw [ents_length]; omega)
      (List.pairwise_append.mp hr).1
    have hrest := Rn.chunks (H := H) (q := q) (gs := gs) (d := d) (os := os) hH h1 h2 last hlast cs (es ++ ents tk c) (mid ++ [dO (ents tk c)]) (tk + 3 * 17) (fun c' h => hc c' (List.mem_cons_of_mem _ h)) (by simp [hne]) (by rw [List.length_append, ents_length]; omega)
      hr (fun x hx => hi x (List.mem_append_right _ hx)) har
    rw [ents_length, hcl] at hfl
    have hall := Rn.bind (f := fun m => ForIn.forIn (cs.flatten.map (itemOf q) ++ last.map (itemOf q)) (m, []) f) hfl hrest
    replace hall := hall.more (B' := 400 * (cs.length + 1)) (by omega)
    rw [List.append_assoc mid] at hall
    rw [show tk + 3 * 17 + 51 * cs.length = tk + 51 * (cs.length + 1) by omega] at hall
    exact hall
/-- the whole display: a first part of seventeen, further ones, a short end -/
theorem Rn.display {H : Heap} {q : Pos} {gs : Array GenState} {d : Drawn} {os : OsState} {tk : Nat} {c : List (Int × Str)} {cs : List (List (Int × Str))} {last : List (Int × Str)} (hH : 11 ≤ H.objs.size) (hc : c.length = 17) (hcs : ∀ c ∈ cs, c.length = 17)
    (hlast : 0 < last.length ∧ last.length ≤ 15) (hz : 17 * cs.length < 900) (hi : InRange (c ++ cs.flatten ++ last)) (ha : Rise (c ++ cs.flatten ++ last)) :
    Rn w (400 * cs.length + 800) (dictDisplay ((c ++ cs.flatten ++ last).map (itemOf q))) ⟨H, gs, d, tk, os⟩ q (.ref H.objs.size)
      ⟨hpl H (dO (ents tk (c ++ cs.flatten) ++ ents2 (tk + 51 * (cs.length + 1)) last) :: (subsOf (tk + 51) cs ++ [dO (ents2 (tk + 51 * (cs.length + 1)) last)])), gs, d, tk + 51 * (cs.length + 1) + 3 * last.length, os⟩ q := by
  have ha1 := (List.pairwise_append.mp ha).1
  have hac : Rise c := (List.pairwise_append.mp ha1).1
  have har : Rise cs.flatten := (List.pairwise_append.mp ha1).2.1
  have hal : Rise last := (List.pairwise_append.mp ha).2.1
  unfold dictDisplay
  dsimp only
  rw [List.map_append, List.map_append, List.append_assoc]
  have key : ∀ (f : (Option (Sem Value) × Sem Value) → DSt → Sem (ForInStep DSt)) (g : DSt → Sem Value),
      (∀ (k v : Sem Value) (run : List (Sem Value × Sem Value)) (main : Option Addr), run.length + 1 < 17 → f (some k, v) (main, run) = Pure.pure (.yield (main, run ++ [(k, v)]))) →
      (∀ (k v : Sem Value) (run : List (Sem Value × Sem Value)) (main : Option Addr), run.length + 1 = 17 → f (some k, v) (main, run) = (flushT (run ++ [(k, v)]) main >>= fun m => Pure.pure (.yield (m, [])))) →
      (∀ s, g s = (flushT s.2 s.1 >>= fun m => match m with | some d => Pure.pure (.ref d) | none => newDict)) →
      Rn w (400 * cs.length + 800) (ForIn.forIn (c.map (itemOf q) ++ (cs.flatten.map (itemOf q) ++ last.map (itemOf q))) ((none : Option Addr), ([] : List (Sem Value × Sem Value))) f >>= g) ⟨H, gs, d, tk, os⟩ q (.ref H.objs.size)
        ⟨hpl H (dO (ents tk (c ++ cs.flatten) ++ ents2 (tk + 51 * (cs.length + 1)) last) :: (subsOf (tk + 51) cs ++ [dO (ents2 (tk + 51 * (cs.length + 1)) last)])), gs, d, tk + 51 * (cs.length + 1) + 3 * last.length, os⟩ q := by
    intro f g h1 h2 hg
    rw [gather h1 h2 q _ _ c [] (by simpa using hc) (by intro e; rw [e] at hc; cases hc), List.nil_append, bind_assoc]
    -- the first part
    have hfirst : Rn w (2 + 13 * 17) (flushT (c.map (pairOf q)) none) ⟨H, gs, d, tk, os⟩ q (some H.objs.size) ⟨hpl H (dO (ents tk c) :: []), gs, d, tk + 3 * 17, os⟩ q := by
      unfold flushT
      rw [if_neg (by
        cases c with
        | nil => cases hc
        | cons a r => simp)]
      dsimp only
      have hsub := Rn.subLong (w := w) (H := H) (pre := []) (q := q) (l := c) (gs := gs) (d := d) (tk := tk) (os := os) hH (by omega) (by omega) (fun x hx => hi x (by simp [hx])) hac
      rw [hc, hpl_nil] at hsub
      exact Rn.bind (B₂ := 0) hsub Rn.pure
    have hes : ents tk (c ++ cs.flatten) = ents tk c ++ ents (tk + 3 * 17) cs.flatten := by rw [ents_append, hc]
    have hmid := Rn.chunks (w := w) (H := H) (q := q) (gs := gs) (d := d) (os := os) hH h1 h2 last (by omega) cs (ents tk c) [] (tk + 3 * 17) hcs (by
        cases c with
        | nil => cases hc
        | cons a r => simp [ents]) (by rw [ents_length]; omega) (by rw [← hes]; exact rise_ents tk ha1) (fun x hx => hi x (by simp [hx])) har
    rw [← hes] at hmid
    have hsub := Rn.subShort (w := w) (H := H) (pre := dO (ents tk (c ++ cs.flatten)) :: ([] ++ subsOf (tk + 3 * 17) cs)) (q := q) (l := last) (gs := gs) (d := d) (tk := tk + 3 * 17 + 51 * cs.length) (os := os) hH hlast.2 (fun x hx => hi x (by simp [hx])) hal
    have hfin := Rn.flushS (w := w) (H := H) (mid := [] ++ subsOf (tk + 3 * 17) cs) (q := q) (es := ents tk (c ++ cs.flatten)) (F := ents2 (tk + 3 * 17 + 51 * cs.length) last) (l := last) (gs := gs) (d := d) (tk := tk + 3 * 17 + 51 * cs.length) (os := os) hH (by
        cases c with
        | nil => cases hc
        | cons a r => simp [ents]) (by intro e; rw [e] at hlast; simp at hlast) hsub (ents2_int _ last) (by
          have : (cs.flatten).length = 17 * cs.length := by
            rw [List.length_flatten]
            clear hmid hsub hfirst hes ha hi ha1 har hz
            induction cs with
            | nil => rfl
            | cons a r ih => rw [List.map_cons, List.sum_cons, ih (fun c h => hcs c (List.mem_cons_of_mem _ h)), hcs a List.mem_cons_self, List.length_cons]; omega
          rw [ents_length, ents2_length, List.length_append, this, hc]
          omega) (by
          have : ((ents tk (c ++ cs.flatten) ++ ents2 (tk + 3 * 17 + 51 * cs.length) last).map (·.hash)).Pairwise (· < ·) := by
            rw [List.map_append, ents_hash, ents2_hash, ← List.map_append]; exact List.pairwise_map.mpr ha
          exact List.pairwise_map.mp this)
    rw [ents2_length] at hfin
    have hl2 := hlast.2
    have hend := Rn.bind (B₂ := 0) (f := fun m : Option Addr => (match m with | some d => Pure.pure (Value.ref d) | none => newDict : Sem Value)) hfin Rn.pure
    have hend' := Rn.eq hend (hg (some H.objs.size, last.map (pairOf q)))
    have hall := Rn.bind (f := fun m => ForIn.forIn (cs.flatten.map (itemOf q) ++ last.map (itemOf q)) (m, []) f >>= g) hfirst (Rn.bind hmid hend')
    replace hall := hall.more (B' := 400 * cs.length + 800) (by omega)
    rw [List.nil_append, show tk + 3 * 17 + 51 * cs.length = tk + 51 * (cs.length + 1) by omega] at hall
    exact hall
  refine key _ _ ?_ ?_ ?_
  · intro k v run main h
    dsimp only
    rw [if_neg (by simp; omega)]
  · intro k v run main h
    dsimp only
    rw [if_pos (by simp; omega)]
    rfl
  · intro s
    rfl
end
end Mine
end
section
open PySem PySem.W PyProof.Rows
set_option Elab.async false
set_option maxRecDepth 100000
set_option linter.unusedVariables false
namespace Mine
noncomputable def kOf : Option Expr → Int | some (.Constant (.int k) _ _) => k | _ => -1
noncomputable def sOf : Expr → Str | .Constant (.str s) _ _ => s | _ => default
noncomputable def mkK (x : Int × Pos) : Option Expr := some (.Constant (.int x.1) 0 x.2)
noncomputable def mkS (x : Str × Pos) : Expr := .Constant (.str x.1) 0 x.2
theorem items_at (env : Env) (q : Pos) : ∀ (kl : List (Int × Pos)) (vl : List (Str × Pos)),
    (evalEachOpt (kl.map mkK) env).zip ((evalEach (vl.map mkS) env).map fun v => do let x ← v; standAt q; pure x) = (((kl.map mkK).map kOf).zip ((vl.map mkS).map sOf)).map (itemOf q) := by
  intro kl
  induction kl with
  | nil => intro vl; rfl
  | cons k kl ih =>
    intro vl
    cases vl with
    | nil => rw [List.map_nil, List.map_nil, List.zip_nil_right]; rfl
    | cons v vl =>
      have e1 : evalEachOpt ((k :: kl).map mkK) env = evalOpt (mkK k) env :: evalEachOpt (kl.map mkK) env := rfl
      have e2 : evalEach ((v :: vl).map mkS) env = eval (mkS v) env :: evalEach (vl.map mkS) env := rfl
      have ih := ih vl
      rw [e1, e2, List.map_cons, List.zip_cons_cons, ih]
      rfl
noncomputable def ks8 : List (Option Expr) := match st 8 with | .Assign _ (.Dict ks _ _) _ => ks | _ => []
noncomputable def vs8 : List Expr := match st 8 with | .Assign _ (.Dict _ vs _) _ => vs | _ => []
noncomputable def D8 : List (Int × Str) := (ks8.map kOf).zip (vs8.map sOf)
noncomputable def cs8 : List (List (Int × Str)) := (List.range 37).map fun i => (D8.drop (17 * (i + 1))).take 17
theorem ks8_ok : ks8 = (ks8.map fun k => (kOf k, (k.map Expr.pos).getD default)).map mkK := by kernel_rfl
theorem vs8_ok : vs8 = (vs8.map fun v => (sOf v, v.pos)).map mkS := by kernel_rfl
theorem items8 (env : Env) (q : Pos) : (evalEachOpt ks8 env).zip ((evalEach vs8 env).map fun v => do let x ← v; standAt q; pure x) = ((ks8.map kOf).zip (vs8.map sOf)).map (itemOf q) := by
  rw [ks8_ok, vs8_ok]; exact items_at env q _ _
theorem D8_parts : D8 = D8.take 17 ++ cs8.flatten ++ D8.drop 646 := by kernel_rfl
theorem D8_range : D8.all (fun x => decide (0 ≤ x.1) && decide (x.1 < 2 ^ 60)) = true := by kernel_rfl
noncomputable def riseB : List (Int × Str) → Bool
  | [] => true
  | [_] => true
  | a :: b :: r => decide (a.1 < b.1) && riseB (b :: r)
theorem D8_rise : riseB D8 = true := by kernel_rfl
theorem rise_of : ∀ (l : List (Int × Str)), riseB l = true → Rise l
  | [], _ => List.Pairwise.nil
  | [a], _ => List.pairwise_singleton _ a
  | a :: b :: r, h => by
    unfold riseB at h
    rw [Bool.and_eq_true, decide_eq_true_eq] at h
    have ih := rise_of (b :: r) h.2
    refine List.Pairwise.cons ?_ ih
    intro x hx
    rcases List.mem_cons.mp hx with rfl | hx
    · exact h.1
    · exact Int.lt_trans h.1 ((List.pairwise_cons.mp ih).1 x hx)
noncomputable def l8 : List Obj := dO (ents 376 (D8.take 17 ++ cs8.flatten) ++ ents2 2314 (D8.drop 646)) :: (subsOf 427 cs8 ++ [dO (ents2 2314 (D8.drop 646))])
theorem Rn.b3 {w : World} {H : Heap} (q : Pos) (gs : Array GenState) (d : Drawn) (os : OsState) (hH : 11 ≤ H.objs.size) :
    Rn w 15600 (dictDisplay (D8.map (itemOf q))) ⟨H, gs, d, 376, os⟩ q (.ref H.objs.size) ⟨hpl H l8, gs, d, 2326, os⟩ q := by
  have e := D8_parts
  have hr : InRange D8 := fun x hx => by
    have := List.all_eq_true.mp D8_range x hx
    rw [Bool.and_eq_true, decide_eq_true_eq, decide_eq_true_eq] at this
    exact this
  have hs := rise_of D8 D8_rise
  have hcl : cs8.length = 37 := by kernel_rfl
  have hll : (D8.drop 646).length = 4 := by kernel_rfl
  rw [e] at hr hs
  have := Rn.display (w := w) (H := H) (q := q) (gs := gs) (d := d) (os := os) (tk := 376) (c := D8.take 17) (cs := cs8) (last := D8.drop 646) hH (by kernel_rfl) (by
      have : cs8.all (fun c => c.length == 17) = true := by kernel_rfl
      intro c hc
      exact eq_of_beq (List.all_eq_true.mp this c hc)) (by rw [hll]; decide) (by rw [hcl]; decide) hr hs
  rw [hcl, hll, ← e] at this
  exact this
end Mine
end
section
open PySem PySem.W PyProof.Rows
set_option Elab.async false
set_option maxRecDepth 100000
set_option linter.unusedVariables false
namespace Mine
noncomputable def d3 (_ : Params) (i : Nat) : Obj := (l8[i - 113]?).getD default
noncomputable def q8_3 (P : Params) : Obj := ⟨(.type "dict"), none, (.dict #[⟨PyData.keyHash P (Str.ofString "__name__"), (.str (Str.ofString "__name__") 165), (.str (Str.ofString "cpy313.stringprep") 307)⟩, ⟨PyData.keyHash P (Str.ofString "__doc__"), (.str (Str.ofString "__doc__") 166), .none⟩, ⟨PyData.keyHash P (Str.ofString "__package__"), (.str (Str.ofString "__package__") 167), .none⟩, ⟨PyData.keyHash P (Str.ofString "__loader__"), (.str (Str.ofString "__loader__") 168), (.builtin "__main__.__loader__#opaque")⟩, ⟨PyData.keyHash P (Str.ofString "__spec__"), (.str (Str.ofString "__spec__") 169), .none⟩, ⟨PyData.keyHash P (Str.ofString "__annotations__"), (.str (Str.ofString "__annotations__") 170), (.ref 6)⟩, ⟨PyData.keyHash P (Str.ofString "__builtins__"), (.str (Str.ofString "__builtins__") 171), (.ref 4)⟩, ⟨PyData.keyHash P (Str.ofString "__file__"), (.str (Str.ofString "__file__") 173), (.str (Str.ofString "/claim/cut.py") 172)⟩, ⟨PyData.keyHash P (Str.ofString "__cached__"), (.str (Str.ofString "__cached__") 174), .none⟩, ⟨PyData.keyHash P (Str.ofString "_wall"), (.str (Str.ofString "_wall") 193), (.ref 21)⟩, ⟨PyData.keyHash P (Str.ofString "Whitespace"), (.str (Str.ofString "Whitespace") 295), (.ref 83)⟩, ⟨PyData.keyHash P (Str.ofString "_parse_varint"), (.str (Str.ofString "_parse_varint") 306), (.ref 94)⟩, ⟨PyData.keyHash P (Str.ofString "b1_set"), (.str (Str.ofString "b1_set") 368), (.ref 102)⟩, ⟨PyData.keyHash P (Str.ofString "in_table_b1"), (.str (Str.ofString "in_table_b1") 375), (.ref 112)⟩, ⟨PyData.keyHash P (Str.ofString "b3_exceptions"), (.str (Str.ofString "b3_exceptions") 2326), (.ref 113)⟩] 15), #[]⟩
noncomputable def T8 (P : Params) : BT := (.node (PySem.W.boot_o_0 P) (.node (PySem.W.boot_o_1 P) (.node (q8_3 P) (.node (PySem.W.boot_o_7 P) (.node (Mine.top6.o_10 P) (.node (Mine.top6.o_32 P) (.node (Mine.top6.o_64 P) (.node (d3 P 127) .nil .nil) .nil) (.node (q6_95 P) .nil .nil)) (.node (Mine.top6.o_48 P) (.node (Mine.top6.o_80 P) (.node (d3 P 143) .nil .nil) .nil) (.node (q7_111 P) .nil .nil))) (.node (Mine.top6.o_24 P) (.node (Mine.top6.o_40 P) (.node (Mine.top6.o_72 P) (.node (d3 P 135) .nil .nil) .nil) (.node (q6_103 P) .nil .nil)) (.node (Mine.top6.o_56 P) (.node (Mine.top6.o_88 P) (.node (d3 P 151) .nil .nil) .nil) (.node (d3 P 119) .nil .nil)))) (.node (Mine.top6.o_2 P) (.node (Mine.top6.o_14 P) (.node (Mine.top6.o_36 P) (.node (Mine.top6.o_68 P) (.node (d3 P 131) .nil .nil) .nil) (.node (q6_99 P) .nil .nil)) (.node (Mine.top6.o_52 P) (.node (Mine.top6.o_84 P) (.node (d3 P 147) .nil .nil) .nil) (.node (d3 P 115) .nil .nil))) (.node (Mine.top6.o_28 P) (.node (Mine.top6.o_44 P) (.node (Mine.top6.o_76 P) (.node (d3 P 139) .nil .nil) .nil) (.node (q7_107 P) .nil .nil)) (.node (Mine.top6.o_60 P) (.node (Mine.top6.o_100 P) .nil .nil) (.node (d3 P 123) .nil .nil))))) (.node (PySem.W.boot_o_5 P) (.node (PySem.W.boot_o_9 P) (.node (Mine.top6.o_12 P) (.node (Mine.top6.o_34 P) (.node (Mine.top6.o_66 P) (.node (d3 P 129) .nil .nil) .nil) (.node (q6_97 P) .nil .nil)) (.node (Mine.top6.o_50 P) (.node (Mine.top6.o_82 P) (.node (d3 P 145) .nil .nil) .nil) (.node (d3 P 113) .nil .nil))) (.node (Mine.top6.o_26 P) (.node (Mine.top6.o_42 P) (.node (Mine.top6.o_74 P) (.node (d3 P 137) .nil .nil) .nil) (.node (q6_105 P) .nil .nil)) (.node (Mine.top6.o_58 P) (.node (Mine.top6.o_98 P) .nil .nil) (.node (d3 P 121) .nil .nil)))) (.node (Mine.top6.o_4 P) (.node (Mine.top6.o_16 P) (.node (Mine.top6.o_38 P) (.node (Mine.top6.o_70 P) (.node (d3 P 133) .nil .nil) .nil) (.node (q6_101 P) .nil .nil)) (.node (Mine.top6.o_54 P) (.node (Mine.top6.o_86 P) (.node (d3 P 149) .nil .nil) .nil) (.node (d3 P 117) .nil .nil))) (.node (Mine.top6.o_30 P) (.node (Mine.top6.o_46 P) (.node (Mine.top6.o_78 P) (.node (d3 P 141) .nil .nil) .nil) (.node (q7_109 P) .nil .nil)) (.node (Mine.top6.o_62 P) (.node (Mine.top6.o_102 P) .nil .nil) (.node (d3 P 125) .nil .nil)))))) (.node (PySem.W.boot_o_2 P) (.node (PySem.W.boot_o_4 P) (.node (PySem.W.boot_o_8 P) (.node (Mine.top6.o_11 P) (.node (Mine.top6.o_33 P) (.node (Mine.top6.o_65 P) (.node (d3 P 128) .nil .nil) .nil) (.node (q6_96 P) .nil .nil)) (.node (Mine.top6.o_49 P) (.node (Mine.top6.o_81 P) (.node (d3 P 144) .nil .nil) .nil) (.node (q7_112 P) .nil .nil))) (.node (Mine.top6.o_25 P) (.node (Mine.top6.o_41 P) (.node (Mine.top6.o_73 P) (.node (d3 P 136) .nil .nil) .nil) (.node (q6_104 P) .nil .nil)) (.node (Mine.top6.o_57 P) (.node (Mine.top6.o_97 P) .nil .nil) (.node (d3 P 120) .nil .nil)))) (.node (q7_12 P) (.node (Mine.top6.o_15 P) (.node (Mine.top6.o_37 P) (.node (Mine.top6.o_69 P) (.node (d3 P 132) .nil .nil) .nil) (.node (q6_100 P) .nil .nil)) (.node (Mine.top6.o_53 P) (.node (Mine.top6.o_85 P) (.node (d3 P 148) .nil .nil) .nil) (.node (d3 P 116) .nil .nil))) (.node (Mine.top6.o_29 P) (.node (Mine.top6.o_45 P) (.node (Mine.top6.o_77 P) (.node (d3 P 140) .nil .nil) .nil) (.node (q7_108 P) .nil .nil)) (.node (Mine.top6.o_61 P) (.node (Mine.top6.o_101 P) .nil .nil) (.node (d3 P 124) .nil .nil))))) (.node (PySem.W.boot_o_6 P) (.node (PySem.W.boot_o_10 P) (.node (Mine.top6.o_13 P) (.node (Mine.top6.o_35 P) (.node (Mine.top6.o_67 P) (.node (d3 P 130) .nil .nil) .nil) (.node (q6_98 P) .nil .nil)) (.node (Mine.top6.o_51 P) (.node (Mine.top6.o_83 P) (.node (d3 P 146) .nil .nil) .nil) (.node (d3 P 114) .nil .nil))) (.node (Mine.top6.o_27 P) (.node (Mine.top6.o_43 P) (.node (Mine.top6.o_75 P) (.node (d3 P 138) .nil .nil) .nil) (.node (q7_106 P) .nil .nil)) (.node (Mine.top6.o_59 P) (.node (Mine.top6.o_99 P) .nil .nil) (.node (d3 P 122) .nil .nil)))) (.node (Mine.top6.o_5 P) (.node (Mine.top6.o_23 P) (.node (Mine.top6.o_39 P) (.node (Mine.top6.o_71 P) (.node (d3 P 134) .nil .nil) .nil) (.node (q6_102 P) .nil .nil)) (.node (Mine.top6.o_55 P) (.node (Mine.top6.o_87 P) (.node (d3 P 150) .nil .nil) .nil) (.node (d3 P 118) .nil .nil))) (.node (Mine.top6.o_31 P) (.node (Mine.top6.o_47 P) (.node (Mine.top6.o_79 P) (.node (d3 P 142) .nil .nil) .nil) (.node (q7_110 P) .nil .nil)) (.node (Mine.top6.o_63 P) (.node (Mine.top6.o_103 P) .nil .nil) (.node (d3 P 126) .nil .nil)))))))
noncomputable def T8d (P : Params) : BT := (.node (PySem.W.boot_o_0 P) (.node (PySem.W.boot_o_1 P) (.node (q7_3 P) (.node (PySem.W.boot_o_7 P) (.node (Mine.top6.o_10 P) (.node (Mine.top6.o_32 P) (.node (Mine.top6.o_64 P) (.node (d3 P 127) .nil .nil) .nil) (.node (q6_95 P) .nil .nil)) (.node (Mine.top6.o_48 P) (.node (Mine.top6.o_80 P) (.node (d3 P 143) .nil .nil) .nil) (.node (q7_111 P) .nil .nil))) (.node (Mine.top6.o_24 P) (.node (Mine.top6.o_40 P) (.node (Mine.top6.o_72 P) (.node (d3 P 135) .nil .nil) .nil) (.node (q6_103 P) .nil .nil)) (.node (Mine.top6.o_56 P) (.node (Mine.top6.o_88 P) (.node (d3 P 151) .nil .nil) .nil) (.node (d3 P 119) .nil .nil)))) (.node (Mine.top6.o_2 P) (.node (Mine.top6.o_14 P) (.node (Mine.top6.o_36 P) (.node (Mine.top6.o_68 P) (.node (d3 P 131) .nil .nil) .nil) (.node (q6_99 P) .nil .nil)) (.node (Mine.top6.o_52 P) (.node (Mine.top6.o_84 P) (.node (d3 P 147) .nil .nil) .nil) (.node (d3 P 115) .nil .nil))) (.node (Mine.top6.o_28 P) (.node (Mine.top6.o_44 P) (.node (Mine.top6.o_76 P) (.node (d3 P 139) .nil .nil) .nil) (.node (q7_107 P) .nil .nil)) (.node (Mine.top6.o_60 P) (.node (Mine.top6.o_100 P) .nil .nil) (.node (d3 P 123) .nil .nil))))) (.node (PySem.W.boot_o_5 P) (.node (PySem.W.boot_o_9 P) (.node (Mine.top6.o_12 P) (.node (Mine.top6.o_34 P) (.node (Mine.top6.o_66 P) (.node (d3 P 129) .nil .nil) .nil) (.node (q6_97 P) .nil .nil)) (.node (Mine.top6.o_50 P) (.node (Mine.top6.o_82 P) (.node (d3 P 145) .nil .nil) .nil) (.node (d3 P 113) .nil .nil))) (.node (Mine.top6.o_26 P) (.node (Mine.top6.o_42 P) (.node (Mine.top6.o_74 P) (.node (d3 P 137) .nil .nil) .nil) (.node (q6_105 P) .nil .nil)) (.node (Mine.top6.o_58 P) (.node (Mine.top6.o_98 P) .nil .nil) (.node (d3 P 121) .nil .nil)))) (.node (Mine.top6.o_4 P) (.node (Mine.top6.o_16 P) (.node (Mine.top6.o_38 P) (.node (Mine.top6.o_70 P) (.node (d3 P 133) .nil .nil) .nil) (.node (q6_101 P) .nil .nil)) (.node (Mine.top6.o_54 P) (.node (Mine.top6.o_86 P) (.node (d3 P 149) .nil .nil) .nil) (.node (d3 P 117) .nil .nil))) (.node (Mine.top6.o_30 P) (.node (Mine.top6.o_46 P) (.node (Mine.top6.o_78 P) (.node (d3 P 141) .nil .nil) .nil) (.node (q7_109 P) .nil .nil)) (.node (Mine.top6.o_62 P) (.node (Mine.top6.o_102 P) .nil .nil) (.node (d3 P 125) .nil .nil)))))) (.node (PySem.W.boot_o_2 P) (.node (PySem.W.boot_o_4 P) (.node (PySem.W.boot_o_8 P) (.node (Mine.top6.o_11 P) (.node (Mine.top6.o_33 P) (.node (Mine.top6.o_65 P) (.node (d3 P 128) .nil .nil) .nil) (.node (q6_96 P) .nil .nil)) (.node (Mine.top6.o_49 P) (.node (Mine.top6.o_81 P) (.node (d3 P 144) .nil .nil) .nil) (.node (q7_112 P) .nil .nil))) (.node (Mine.top6.o_25 P) (.node (Mine.top6.o_41 P) (.node (Mine.top6.o_73 P) (.node (d3 P 136) .nil .nil) .nil) (.node (q6_104 P) .nil .nil)) (.node (Mine.top6.o_57 P) (.node (Mine.top6.o_97 P) .nil .nil) (.node (d3 P 120) .nil .nil)))) (.node (q7_12 P) (.node (Mine.top6.o_15 P) (.node (Mine.top6.o_37 P) (.node (Mine.top6.o_69 P) (.node (d3 P 132) .nil .nil) .nil) (.node (q6_100 P) .nil .nil)) (.node (Mine.top6.o_53 P) (.node (Mine.top6.o_85 P) (.node (d3 P 148) .nil .nil) .nil) (.node (d3 P 116) .nil .nil))) (.node (Mine.top6.o_29 P) (.node (Mine.top6.o_45 P) (.node (Mine.top6.o_77 P) (.node (d3 P 140) .nil .nil) .nil) (.node (q7_108 P) .nil .nil)) (.node (Mine.top6.o_61 P) (.node (Mine.top6.o_101 P) .nil .nil) (.node (d3 P 124) .nil .nil))))) (.node (PySem.W.boot_o_6 P) (.node (PySem.W.boot_o_10 P) (.node (Mine.top6.o_13 P) (.node (Mine.top6.o_35 P) (.node (Mine.top6.o_67 P) (.node (d3 P 130) .nil .nil) .nil) (.node (q6_98 P) .nil .nil)) (.node (Mine.top6.o_51 P) (.node (Mine.top6.o_83 P) (.node (d3 P 146) .nil .nil) .nil) (.node (d3 P 114) .nil .nil))) (.node (Mine.top6.o_27 P) (.node (Mine.top6.o_43 P) (.node (Mine.top6.o_75 P) (.node (d3 P 138) .nil .nil) .nil) (.node (q7_106 P) .nil .nil)) (.node (Mine.top6.o_59 P) (.node (Mine.top6.o_99 P) .nil .nil) (.node (d3 P 122) .nil .nil)))) (.node (Mine.top6.o_5 P) (.node (Mine.top6.o_23 P) (.node (Mine.top6.o_39 P) (.node (Mine.top6.o_71 P) (.node (d3 P 134) .nil .nil) .nil) (.node (q6_102 P) .nil .nil)) (.node (Mine.top6.o_55 P) (.node (Mine.top6.o_87 P) (.node (d3 P 150) .nil .nil) .nil) (.node (d3 P 118) .nil .nil))) (.node (Mine.top6.o_31 P) (.node (Mine.top6.o_47 P) (.node (Mine.top6.o_79 P) (.node (d3 P 142) .nil .nil) .nil) (.node (q7_110 P) .nil .nil)) (.node (Mine.top6.o_63 P) (.node (Mine.top6.o_103 P) .nil .nil) (.node (d3 P 126) .nil .nil)))))))
noncomputable def q9_3 (P : Params) : Obj := ⟨(.type "dict"), none, (.dict #[⟨PyData.keyHash P (Str.ofString "__name__"), (.str (Str.ofString "__name__") 165), (.str (Str.ofString "cpy313.stringprep") 307)⟩, ⟨PyData.keyHash P (Str.ofString "__doc__"), (.str (Str.ofString "__doc__") 166), .none⟩, ⟨PyData.keyHash P (Str.ofString "__package__"), (.str (Str.ofString "__package__") 167), .none⟩, ⟨PyData.keyHash P (Str.ofString "__loader__"), (.str (Str.ofString "__loader__") 168), (.builtin "__main__.__loader__#opaque")⟩, ⟨PyData.keyHash P (Str.ofString "__spec__"), (.str (Str.ofString "__spec__") 169), .none⟩, ⟨PyData.keyHash P (Str.ofString "__annotations__"), (.str (Str.ofString "__annotations__") 170), (.ref 6)⟩, ⟨PyData.keyHash P (Str.ofString "__builtins__"), (.str (Str.ofString "__builtins__") 171), (.ref 4)⟩, ⟨PyData.keyHash P (Str.ofString "__file__"), (.str (Str.ofString "__file__") 173), (.str (Str.ofString "/claim/cut.py") 172)⟩, ⟨PyData.keyHash P (Str.ofString "__cached__"), (.str (Str.ofString "__cached__") 174), .none⟩, ⟨PyData.keyHash P (Str.ofString "_wall"), (.str (Str.ofString "_wall") 193), (.ref 21)⟩, ⟨PyData.keyHash P (Str.ofString "Whitespace"), (.str (Str.ofString "Whitespace") 295), (.ref 83)⟩, ⟨PyData.keyHash P (Str.ofString "_parse_varint"), (.str (Str.ofString "_parse_varint") 306), (.ref 94)⟩, ⟨PyData.keyHash P (Str.ofString "b1_set"), (.str (Str.ofString "b1_set") 368), (.ref 102)⟩, ⟨PyData.keyHash P (Str.ofString "in_table_b1"), (.str (Str.ofString "in_table_b1") 375), (.ref 112)⟩, ⟨PyData.keyHash P (Str.ofString "b3_exceptions"), (.str (Str.ofString "b3_exceptions") 2326), (.ref 113)⟩, ⟨PyData.keyHash P (Str.ofString "map_table_b3"), (.str (Str.ofString "map_table_b3") 2334), (.ref 158)⟩] 16), #[]⟩
noncomputable def q9_12 (P : Params) : Obj := ⟨.none, none, (.fields #[(.int 1 0), (.int 0 0), (.ref 20), (.int 5 0), (.int 0 0), (.ref 27), (.int 62 0), (.int 0 0), (.ref 93), (.int 72 0), (.int 0 0), (.ref 111), (.int 75 0), (.int 0 0), (.ref 157)]), #[]⟩
noncomputable def q9_152 (P : Params) : Obj := ⟨(.type "tuple"), none, (.seq #[] 0), #[]⟩
noncomputable def q9_153 (P : Params) : Obj := ⟨.none, none, (.fields #[]), #[]⟩
noncomputable def q9_154 (P : Params) : Obj := ⟨(.type "tuple"), none, (.seq #[(.str (Str.ofString "code") 2330), (.str (Str.ofString "r") 2331)] 0), #[]⟩
noncomputable def q9_155 (P : Params) : Obj := ⟨(.type "tuple"), none, (.seq #[] 0), #[]⟩
noncomputable def q9_156 (P : Params) : Obj := ⟨.none, none, (.func { name := (Str.ofString "map_table_b3"), qualname := (Str.ofString "map_table_b3"), params := fpar (st 9), body := .stmts (fbody (st 9)), scope := fscope (st 9), globals := 0, closure := [], defaults := .none, kwdefaults := .none, doc := .none, pyModule := .none, annotations := none, code := .none, closureTuple := .none, builtins := 0 }), #[]⟩
noncomputable def q9_157 (P : Params) : Obj := ⟨(.type "code"), none, (.fields #[(.str (Str.ofString "map_table_b3") 2327), (.str (Str.ofString "map_table_b3") 2328), (.str (Str.ofString "/claim/cut.py") 2329), (.int 75 0), (.int 1 0), (.int 0 0), (.int 0 0), (.int 3 0), (.ref 152), (.bool true), (.int 181 0), (.ref 153), .none, (.ref 154), (.ref 155), (.ref 156), (.int 2332 0), (.int 75 0), (.str (Str.ofString "/claim/cut.py") 2333)]), #[]⟩
noncomputable def q9_158 (P : Params) : Obj := ⟨(.type "function"), none, (.func { name := (Str.ofString "map_table_b3"), qualname := (Str.ofString "map_table_b3"), params := fpar (st 9), body := .stmts (fbody (st 9)), scope := fscope (st 9), globals := 3, closure := [], defaults := .none, kwdefaults := .none, doc := .none, pyModule := (.str (Str.ofString "cpy313.stringprep") 307), annotations := none, code := (.ref 157), closureTuple := .none, builtins := 0 }), #[]⟩
noncomputable def T9 (P : Params) : BT := (.node (PySem.W.boot_o_0 P) (.node (PySem.W.boot_o_1 P) (.node (q9_3 P) (.node (PySem.W.boot_o_7 P) (.node (Mine.top6.o_10 P) (.node (Mine.top6.o_32 P) (.node (Mine.top6.o_64 P) (.node (d3 P 127) .nil .nil) .nil) (.node (q6_95 P) .nil .nil)) (.node (Mine.top6.o_48 P) (.node (Mine.top6.o_80 P) (.node (d3 P 143) .nil .nil) .nil) (.node (q7_111 P) .nil .nil))) (.node (Mine.top6.o_24 P) (.node (Mine.top6.o_40 P) (.node (Mine.top6.o_72 P) (.node (d3 P 135) .nil .nil) .nil) (.node (q6_103 P) .nil .nil)) (.node (Mine.top6.o_56 P) (.node (Mine.top6.o_88 P) (.node (d3 P 151) .nil .nil) .nil) (.node (d3 P 119) .nil .nil)))) (.node (Mine.top6.o_2 P) (.node (Mine.top6.o_14 P) (.node (Mine.top6.o_36 P) (.node (Mine.top6.o_68 P) (.node (d3 P 131) .nil .nil) .nil) (.node (q6_99 P) .nil .nil)) (.node (Mine.top6.o_52 P) (.node (Mine.top6.o_84 P) (.node (d3 P 147) .nil .nil) .nil) (.node (d3 P 115) .nil .nil))) (.node (Mine.top6.o_28 P) (.node (Mine.top6.o_44 P) (.node (Mine.top6.o_76 P) (.node (d3 P 139) .nil .nil) .nil) (.node (q7_107 P) .nil .nil)) (.node (Mine.top6.o_60 P) (.node (Mine.top6.o_100 P) (.node (q9_155 P) .nil .nil) .nil) (.node (d3 P 123) .nil .nil))))) (.node (PySem.W.boot_o_5 P) (.node (PySem.W.boot_o_9 P) (.node (Mine.top6.o_12 P) (.node (Mine.top6.o_34 P) (.node (Mine.top6.o_66 P) (.node (d3 P 129) .nil .nil) .nil) (.node (q6_97 P) .nil .nil)) (.node (Mine.top6.o_50 P) (.node (Mine.top6.o_82 P) (.node (d3 P 145) .nil .nil) .nil) (.node (d3 P 113) .nil .nil))) (.node (Mine.top6.o_26 P) (.node (Mine.top6.o_42 P) (.node (Mine.top6.o_74 P) (.node (d3 P 137) .nil .nil) .nil) (.node (q6_105 P) .nil .nil)) (.node (Mine.top6.o_58 P) (.node (Mine.top6.o_98 P) (.node (q9_153 P) .nil .nil) .nil) (.node (d3 P 121) .nil .nil)))) (.node (Mine.top6.o_4 P) (.node (Mine.top6.o_16 P) (.node (Mine.top6.o_38 P) (.node (Mine.top6.o_70 P) (.node (d3 P 133) .nil .nil) .nil) (.node (q6_101 P) .nil .nil)) (.node (Mine.top6.o_54 P) (.node (Mine.top6.o_86 P) (.node (d3 P 149) .nil .nil) .nil) (.node (d3 P 117) .nil .nil))) (.node (Mine.top6.o_30 P) (.node (Mine.top6.o_46 P) (.node (Mine.top6.o_78 P) (.node (d3 P 141) .nil .nil) .nil) (.node (q7_109 P) .nil .nil)) (.node (Mine.top6.o_62 P) (.node (Mine.top6.o_102 P) (.node (q9_157 P) .nil .nil) .nil) (.node (d3 P 125) .nil .nil)))))) (.node (PySem.W.boot_o_2 P) (.node (PySem.W.boot_o_4 P) (.node (PySem.W.boot_o_8 P) (.node (Mine.top6.o_11 P) (.node (Mine.top6.o_33 P) (.node (Mine.top6.o_65 P) (.node (d3 P 128) .nil .nil) .nil) (.node (q6_96 P) .nil .nil)) (.node (Mine.top6.o_49 P) (.node (Mine.top6.o_81 P) (.node (d3 P 144) .nil .nil) .nil) (.node (q7_112 P) .nil .nil))) (.node (Mine.top6.o_25 P) (.node (Mine.top6.o_41 P) (.node (Mine.top6.o_73 P) (.node (d3 P 136) .nil .nil) .nil) (.node (q6_104 P) .nil .nil)) (.node (Mine.top6.o_57 P) (.node (Mine.top6.o_97 P) (.node (q9_152 P) .nil .nil) .nil) (.node (d3 P 120) .nil .nil)))) (.node (q9_12 P) (.node (Mine.top6.o_15 P) (.node (Mine.top6.o_37 P) (.node (Mine.top6.o_69 P) (.node (d3 P 132) .nil .nil) .nil) (.node (q6_100 P) .nil .nil)) (.node (Mine.top6.o_53 P) (.node (Mine.top6.o_85 P) (.node (d3 P 148) .nil .nil) .nil) (.node (d3 P 116) .nil .nil))) (.node (Mine.top6.o_29 P) (.node (Mine.top6.o_45 P) (.node (Mine.top6.o_77 P) (.node (d3 P 140) .nil .nil) .nil) (.node (q7_108 P) .nil .nil)) (.node (Mine.top6.o_61 P) (.node (Mine.top6.o_101 P) (.node (q9_156 P) .nil .nil) .nil) (.node (d3 P 124) .nil .nil))))) (.node (PySem.W.boot_o_6 P) (.node (PySem.W.boot_o_10 P) (.node (Mine.top6.o_13 P) (.node (Mine.top6.o_35 P) (.node (Mine.top6.o_67 P) (.node (d3 P 130) .nil .nil) .nil) (.node (q6_98 P) .nil .nil)) (.node (Mine.top6.o_51 P) (.node (Mine.top6.o_83 P) (.node (d3 P 146) .nil .nil) .nil) (.node (d3 P 114) .nil .nil))) (.node (Mine.top6.o_27 P) (.node (Mine.top6.o_43 P) (.node (Mine.top6.o_75 P) (.node (d3 P 138) .nil .nil) .nil) (.node (q7_106 P) .nil .nil)) (.node (Mine.top6.o_59 P) (.node (Mine.top6.o_99 P) (.node (q9_154 P) .nil .nil) .nil) (.node (d3 P 122) .nil .nil)))) (.node (Mine.top6.o_5 P) (.node (Mine.top6.o_23 P) (.node (Mine.top6.o_39 P) (.node (Mine.top6.o_71 P) (.node (d3 P 134) .nil .nil) .nil) (.node (q6_102 P) .nil .nil)) (.node (Mine.top6.o_55 P) (.node (Mine.top6.o_87 P) (.node (d3 P 150) .nil .nil) .nil) (.node (d3 P 118) .nil .nil))) (.node (Mine.top6.o_31 P) (.node (Mine.top6.o_47 P) (.node (Mine.top6.o_79 P) (.node (d3 P 142) .nil .nil) .nil) (.node (q7_110 P) .nil .nil)) (.node (Mine.top6.o_63 P) (.node (Mine.top6.o_103 P) (.node (q9_158 P) .nil .nil) .nil) (.node (d3 P 126) .nil .nil)))))))
noncomputable def q10_3 (P : Params) : Obj := ⟨(.type "dict"), none, (.dict #[⟨PyData.keyHash P (Str.ofString "__name__"), (.str (Str.ofString "__name__") 165), (.str (Str.ofString "law_kl0265_01") 2335)⟩, ⟨PyData.keyHash P (Str.ofString "__doc__"), (.str (Str.ofString "__doc__") 166), .none⟩, ⟨PyData.keyHash P (Str.ofString "__package__"), (.str (Str.ofString "__package__") 167), .none⟩, ⟨PyData.keyHash P (Str.ofString "__loader__"), (.str (Str.ofString "__loader__") 168), (.builtin "__main__.__loader__#opaque")⟩, ⟨PyData.keyHash P (Str.ofString "__spec__"), (.str (Str.ofString "__spec__") 169), .none⟩, ⟨PyData.keyHash P (Str.ofString "__annotations__"), (.str (Str.ofString "__annotations__") 170), (.ref 6)⟩, ⟨PyData.keyHash P (Str.ofString "__builtins__"), (.str (Str.ofString "__builtins__") 171), (.ref 4)⟩, ⟨PyData.keyHash P (Str.ofString "__file__"), (.str (Str.ofString "__file__") 173), (.str (Str.ofString "/claim/cut.py") 172)⟩, ⟨PyData.keyHash P (Str.ofString "__cached__"), (.str (Str.ofString "__cached__") 174), .none⟩, ⟨PyData.keyHash P (Str.ofString "_wall"), (.str (Str.ofString "_wall") 193), (.ref 21)⟩, ⟨PyData.keyHash P (Str.ofString "Whitespace"), (.str (Str.ofString "Whitespace") 295), (.ref 83)⟩, ⟨PyData.keyHash P (Str.ofString "_parse_varint"), (.str (Str.ofString "_parse_varint") 306), (.ref 94)⟩, ⟨PyData.keyHash P (Str.ofString "b1_set"), (.str (Str.ofString "b1_set") 368), (.ref 102)⟩, ⟨PyData.keyHash P (Str.ofString "in_table_b1"), (.str (Str.ofString "in_table_b1") 375), (.ref 112)⟩, ⟨PyData.keyHash P (Str.ofString "b3_exceptions"), (.str (Str.ofString "b3_exceptions") 2326), (.ref 113)⟩, ⟨PyData.keyHash P (Str.ofString "map_table_b3"), (.str (Str.ofString "map_table_b3") 2334), (.ref 158)⟩] 16), #[]⟩
noncomputable def T10 (P : Params) : BT := (.node (PySem.W.boot_o_0 P) (.node (PySem.W.boot_o_1 P) (.node (q10_3 P) (.node (PySem.W.boot_o_7 P) (.node (Mine.top6.o_10 P) (.node (Mine.top6.o_32 P) (.node (Mine.top6.o_64 P) (.node (d3 P 127) .nil .nil) .nil) (.node (q6_95 P) .nil .nil)) (.node (Mine.top6.o_48 P) (.node (Mine.top6.o_80 P) (.node (d3 P 143) .nil .nil) .nil) (.node (q7_111 P) .nil .nil))) (.node (Mine.top6.o_24 P) (.node (Mine.top6.o_40 P) (.node (Mine.top6.o_72 P) (.node (d3 P 135) .nil .nil) .nil) (.node (q6_103 P) .nil .nil)) (.node (Mine.top6.o_56 P) (.node (Mine.top6.o_88 P) (.node (d3 P 151) .nil .nil) .nil) (.node (d3 P 119) .nil .nil)))) (.node (Mine.top6.o_2 P) (.node (Mine.top6.o_14 P) (.node (Mine.top6.o_36 P) (.node (Mine.top6.o_68 P) (.node (d3 P 131) .nil .nil) .nil) (.node (q6_99 P) .nil .nil)) (.node (Mine.top6.o_52 P) (.node (Mine.top6.o_84 P) (.node (d3 P 147) .nil .nil) .nil) (.node (d3 P 115) .nil .nil))) (.node (Mine.top6.o_28 P) (.node (Mine.top6.o_44 P) (.node (Mine.top6.o_76 P) (.node (d3 P 139) .nil .nil) .nil) (.node (q7_107 P) .nil .nil)) (.node (Mine.top6.o_60 P) (.node (Mine.top6.o_100 P) (.node (q9_155 P) .nil .nil) .nil) (.node (d3 P 123) .nil .nil))))) (.node (PySem.W.boot_o_5 P) (.node (PySem.W.boot_o_9 P) (.node (Mine.top6.o_12 P) (.node (Mine.top6.o_34 P) (.node (Mine.top6.o_66 P) (.node (d3 P 129) .nil .nil) .nil) (.node (q6_97 P) .nil .nil)) (.node (Mine.top6.o_50 P) (.node (Mine.top6.o_82 P) (.node (d3 P 145) .nil .nil) .nil) (.node (d3 P 113) .nil .nil))) (.node (Mine.top6.o_26 P) (.node (Mine.top6.o_42 P) (.node (Mine.top6.o_74 P) (.node (d3 P 137) .nil .nil) .nil) (.node (q6_105 P) .nil .nil)) (.node (Mine.top6.o_58 P) (.node (Mine.top6.o_98 P) (.node (q9_153 P) .nil .nil) .nil) (.node (d3 P 121) .nil .nil)))) (.node (Mine.top6.o_4 P) (.node (Mine.top6.o_16 P) (.node (Mine.top6.o_38 P) (.node (Mine.top6.o_70 P) (.node (d3 P 133) .nil .nil) .nil) (.node (q6_101 P) .nil .nil)) (.node (Mine.top6.o_54 P) (.node (Mine.top6.o_86 P) (.node (d3 P 149) .nil .nil) .nil) (.node (d3 P 117) .nil .nil))) (.node (Mine.top6.o_30 P) (.node (Mine.top6.o_46 P) (.node (Mine.top6.o_78 P) (.node (d3 P 141) .nil .nil) .nil) (.node (q7_109 P) .nil .nil)) (.node (Mine.top6.o_62 P) (.node (Mine.top6.o_102 P) (.node (q9_157 P) .nil .nil) .nil) (.node (d3 P 125) .nil .nil)))))) (.node (PySem.W.boot_o_2 P) (.node (PySem.W.boot_o_4 P) (.node (PySem.W.boot_o_8 P) (.node (Mine.top6.o_11 P) (.node (Mine.top6.o_33 P) (.node (Mine.top6.o_65 P) (.node (d3 P 128) .nil .nil) .nil) (.node (q6_96 P) .nil .nil)) (.node (Mine.top6.o_49 P) (.node (Mine.top6.o_81 P) (.node (d3 P 144) .nil .nil) .nil) (.node (q7_112 P) .nil .nil))) (.node (Mine.top6.o_25 P) (.node (Mine.top6.o_41 P) (.node (Mine.top6.o_73 P) (.node (d3 P 136) .nil .nil) .nil) (.node (q6_104 P) .nil .nil)) (.node (Mine.top6.o_57 P) (.node (Mine.top6.o_97 P) (.node (q9_152 P) .nil .nil) .nil) (.node (d3 P 120) .nil .nil)))) (.node (q9_12 P) (.node (Mine.top6.o_15 P) (.node (Mine.top6.o_37 P) (.node (Mine.top6.o_69 P) (.node (d3 P 132) .nil .nil) .nil) (.node (q6_100 P) .nil .nil)) (.node (Mine.top6.o_53 P) (.node (Mine.top6.o_85 P) (.node (d3 P 148) .nil .nil) .nil) (.node (d3 P 116) .nil .nil))) (.node (Mine.top6.o_29 P) (.node (Mine.top6.o_45 P) (.node (Mine.top6.o_77 P) (.node (d3 P 140) .nil .nil) .nil) (.node (q7_108 P) .nil .nil)) (.node (Mine.top6.o_61 P) (.node (Mine.top6.o_101 P) (.node (q9_156 P) .nil .nil) .nil) (.node (d3 P 124) .nil .nil))))) (.node (PySem.W.boot_o_6 P) (.node (PySem.W.boot_o_10 P) (.node (Mine.top6.o_13 P) (.node (Mine.top6.o_35 P) (.node (Mine.top6.o_67 P) (.node (d3 P 130) .nil .nil) .nil) (.node (q6_98 P) .nil .nil)) (.node (Mine.top6.o_51 P) (.node (Mine.top6.o_83 P) (.node (d3 P 146) .nil .nil) .nil) (.node (d3 P 114) .nil .nil))) (.node (Mine.top6.o_27 P) (.node (Mine.top6.o_43 P) (.node (Mine.top6.o_75 P) (.node (d3 P 138) .nil .nil) .nil) (.node (q7_106 P) .nil .nil)) (.node (Mine.top6.o_59 P) (.node (Mine.top6.o_99 P) (.node (q9_154 P) .nil .nil) .nil) (.node (d3 P 122) .nil .nil)))) (.node (Mine.top6.o_5 P) (.node (Mine.top6.o_23 P) (.node (Mine.top6.o_39 P) (.node (Mine.top6.o_71 P) (.node (d3 P 134) .nil .nil) .nil) (.node (q6_102 P) .nil .nil)) (.node (Mine.top6.o_55 P) (.node (Mine.top6.o_87 P) (.node (d3 P 150) .nil .nil) .nil) (.node (d3 P 118) .nil .nil))) (.node (Mine.top6.o_31 P) (.node (Mine.top6.o_47 P) (.node (Mine.top6.o_79 P) (.node (d3 P 142) .nil .nil) .nil) (.node (q7_110 P) .nil .nil)) (.node (Mine.top6.o_63 P) (.node (Mine.top6.o_103 P) (.node (q9_158 P) .nil .nil) .nil) (.node (d3 P 126) .nil .nil)))))))
noncomputable def q11_3 (P : Params) : Obj := ⟨(.type "dict"), none, (.dict #[⟨PyData.keyHash P (Str.ofString "__name__"), (.str (Str.ofString "__name__") 165), (.str (Str.ofString "law_kl0265_01") 2335)⟩, ⟨PyData.keyHash P (Str.ofString "__doc__"), (.str (Str.ofString "__doc__") 166), .none⟩, ⟨PyData.keyHash P (Str.ofString "__package__"), (.str (Str.ofString "__package__") 167), .none⟩, ⟨PyData.keyHash P (Str.ofString "__loader__"), (.str (Str.ofString "__loader__") 168), (.builtin "__main__.__loader__#opaque")⟩, ⟨PyData.keyHash P (Str.ofString "__spec__"), (.str (Str.ofString "__spec__") 169), .none⟩, ⟨PyData.keyHash P (Str.ofString "__annotations__"), (.str (Str.ofString "__annotations__") 170), (.ref 6)⟩, ⟨PyData.keyHash P (Str.ofString "__builtins__"), (.str (Str.ofString "__builtins__") 171), (.ref 4)⟩, ⟨PyData.keyHash P (Str.ofString "__file__"), (.str (Str.ofString "__file__") 173), (.str (Str.ofString "/claim/cut.py") 172)⟩, ⟨PyData.keyHash P (Str.ofString "__cached__"), (.str (Str.ofString "__cached__") 174), .none⟩, ⟨PyData.keyHash P (Str.ofString "_wall"), (.str (Str.ofString "_wall") 193), (.ref 21)⟩, ⟨PyData.keyHash P (Str.ofString "Whitespace"), (.str (Str.ofString "Whitespace") 295), (.ref 83)⟩, ⟨PyData.keyHash P (Str.ofString "_parse_varint"), (.str (Str.ofString "_parse_varint") 306), (.ref 94)⟩, ⟨PyData.keyHash P (Str.ofString "b1_set"), (.str (Str.ofString "b1_set") 368), (.ref 102)⟩, ⟨PyData.keyHash P (Str.ofString "in_table_b1"), (.str (Str.ofString "in_table_b1") 375), (.ref 112)⟩, ⟨PyData.keyHash P (Str.ofString "b3_exceptions"), (.str (Str.ofString "b3_exceptions") 2326), (.ref 113)⟩, ⟨PyData.keyHash P (Str.ofString "map_table_b3"), (.str (Str.ofString "map_table_b3") 2334), (.ref 158)⟩, ⟨PyData.keyHash P (Str.ofString "_law_sign"), (.str (Str.ofString "_law_sign") 2348), (.ref 165)⟩] 17), #[]⟩
noncomputable def q11_12 (P : Params) : Obj := ⟨.none, none, (.fields #[(.int 1 0), (.int 0 0), (.ref 20), (.int 5 0), (.int 0 0), (.ref 27), (.int 62 0), (.int 0 0), (.ref 93), (.int 72 0), (.int 0 0), (.ref 111), (.int 75 0), (.int 0 0), (.ref 157), (.int 81 0), (.int 0 0), (.ref 164)]), #[]⟩
noncomputable def q11_159 (P : Params) : Obj := ⟨(.type "tuple"), none, (.seq #[] 0), #[]⟩
noncomputable def q11_160 (P : Params) : Obj := ⟨.none, none, (.fields #[]), #[]⟩
noncomputable def q11_161 (P : Params) : Obj := ⟨(.type "tuple"), none, (.seq #[(.str (Str.ofString "x") 2340), (.str (Str.ofString "kinds") 2341), (.str (Str.ofString "unseen") 2342), (.str (Str.ofString "shown") 2343), (.str (Str.ofString "code") 2344), (.str (Str.ofString "plain") 2345)] 0), #[]⟩
noncomputable def q11_162 (P : Params) : Obj := ⟨(.type "tuple"), none, (.seq #[] 0), #[]⟩
noncomputable def q11_163 (P : Params) : Obj := ⟨.none, none, (.func { name := (Str.ofString "_law_sign"), qualname := (Str.ofString "_law_sign"), params := fpar (st 11), body := .stmts (fbody (st 11)), scope := fscope (st 11), globals := 0, closure := [], defaults := .none, kwdefaults := .none, doc := .none, pyModule := .none, annotations := none, code := .none, closureTuple := .none, builtins := 0 }), #[]⟩
noncomputable def q11_164 (P : Params) : Obj := ⟨(.type "code"), none, (.fields #[(.str (Str.ofString "_law_sign") 2337), (.str (Str.ofString "_law_sign") 2338), (.str (Str.ofString "/claim/cut.py") 2339), (.int 81 0), (.int 2 0), (.int 0 0), (.int 0 0), (.int 3 0), (.ref 159), (.bool true), (.int 181 0), (.ref 160), .none, (.ref 161), (.ref 162), (.ref 163), (.int 2346 0), (.int 81 0), (.str (Str.ofString "/claim/cut.py") 2347)]), #[]⟩
noncomputable def q11_165 (P : Params) : Obj := ⟨(.type "function"), none, (.func { name := (Str.ofString "_law_sign"), qualname := (Str.ofString "_law_sign"), params := fpar (st 11), body := .stmts (fbody (st 11)), scope := fscope (st 11), globals := 3, closure := [], defaults := .none, kwdefaults := .none, doc := .none, pyModule := (.str (Str.ofString "law_kl0265_01") 2335), annotations := none, code := (.ref 164), closureTuple := .none, builtins := 0 }), #[]⟩
noncomputable def T11 (P : Params) : BT := (.node (PySem.W.boot_o_0 P) (.node (PySem.W.boot_o_1 P) (.node (q11_3 P) (.node (PySem.W.boot_o_7 P) (.node (Mine.top6.o_10 P) (.node (Mine.top6.o_32 P) (.node (Mine.top6.o_64 P) (.node (d3 P 127) .nil .nil) .nil) (.node (q6_95 P) (.node (q11_159 P) .nil .nil) .nil)) (.node (Mine.top6.o_48 P) (.node (Mine.top6.o_80 P) (.node (d3 P 143) .nil .nil) .nil) (.node (q7_111 P) .nil .nil))) (.node (Mine.top6.o_24 P) (.node (Mine.top6.o_40 P) (.node (Mine.top6.o_72 P) (.node (d3 P 135) .nil .nil) .nil) (.node (q6_103 P) .nil .nil)) (.node (Mine.top6.o_56 P) (.node (Mine.top6.o_88 P) (.node (d3 P 151) .nil .nil) .nil) (.node (d3 P 119) .nil .nil)))) (.node (Mine.top6.o_2 P) (.node (Mine.top6.o_14 P) (.node (Mine.top6.o_36 P) (.node (Mine.top6.o_68 P) (.node (d3 P 131) .nil .nil) .nil) (.node (q6_99 P) (.node (q11_163 P) .nil .nil) .nil)) (.node (Mine.top6.o_52 P) (.node (Mine.top6.o_84 P) (.node (d3 P 147) .nil .nil) .nil) (.node (d3 P 115) .nil .nil))) (.node (Mine.top6.o_28 P) (.node (Mine.top6.o_44 P) (.node (Mine.top6.o_76 P) (.node (d3 P 139) .nil .nil) .nil) (.node (q7_107 P) .nil .nil)) (.node (Mine.top6.o_60 P) (.node (Mine.top6.o_100 P) (.node (q9_155 P) .nil .nil) .nil) (.node (d3 P 123) .nil .nil))))) (.node (PySem.W.boot_o_5 P) (.node (PySem.W.boot_o_9 P) (.node (Mine.top6.o_12 P) (.node (Mine.top6.o_34 P) (.node (Mine.top6.o_66 P) (.node (d3 P 129) .nil .nil) .nil) (.node (q6_97 P) (.node (q11_161 P) .nil .nil) .nil)) (.node (Mine.top6.o_50 P) (.node (Mine.top6.o_82 P) (.node (d3 P 145) .nil .nil) .nil) (.node (d3 P 113) .nil .nil))) (.node (Mine.top6.o_26 P) (.node (Mine.top6.o_42 P) (.node (Mine.top6.o_74 P) (.node (d3 P 137) .nil .nil) .nil) (.node (q6_105 P) .nil .nil)) (.node (Mine.top6.o_58 P) (.node (Mine.top6.o_98 P) (.node (q9_153 P) .nil .nil) .nil) (.node (d3 P 121) .nil .nil)))) (.node (Mine.top6.o_4 P) (.node (Mine.top6.o_16 P) (.node (Mine.top6.o_38 P) (.node (Mine.top6.o_70 P) (.node (d3 P 133) .nil .nil) .nil) (.node (q6_101 P) (.node (q11_165 P) .nil .nil) .nil)) (.node (Mine.top6.o_54 P) (.node (Mine.top6.o_86 P) (.node (d3 P 149) .nil .nil) .nil) (.node (d3 P 117) .nil .nil))) (.node (Mine.top6.o_30 P) (.node (Mine.top6.o_46 P) (.node (Mine.top6.o_78 P) (.node (d3 P 141) .nil .nil) .nil) (.node (q7_109 P) .nil .nil)) (.node (Mine.top6.o_62 P) (.node (Mine.top6.o_102 P) (.node (q9_157 P) .nil .nil) .nil) (.node (d3 P 125) .nil .nil)))))) (.node (PySem.W.boot_o_2 P) (.node (PySem.W.boot_o_4 P) (.node (PySem.W.boot_o_8 P) (.node (Mine.top6.o_11 P) (.node (Mine.top6.o_33 P) (.node (Mine.top6.o_65 P) (.node (d3 P 128) .nil .nil) .nil) (.node (q6_96 P) (.node (q11_160 P) .nil .nil) .nil)) (.node (Mine.top6.o_49 P) (.node (Mine.top6.o_81 P) (.node (d3 P 144) .nil .nil) .nil) (.node (q7_112 P) .nil .nil))) (.node (Mine.top6.o_25 P) (.node (Mine.top6.o_41 P) (.node (Mine.top6.o_73 P) (.node (d3 P 136) .nil .nil) .nil) (.node (q6_104 P) .nil .nil)) (.node (Mine.top6.o_57 P) (.node (Mine.top6.o_97 P) (.node (q9_152 P) .nil .nil) .nil) (.node (d3 P 120) .nil .nil)))) (.node (q11_12 P) (.node (Mine.top6.o_15 P) (.node (Mine.top6.o_37 P) (.node (Mine.top6.o_69 P) (.node (d3 P 132) .nil .nil) .nil) (.node (q6_100 P) (.node (q11_164 P) .nil .nil) .nil)) (.node (Mine.top6.o_53 P) (.node (Mine.top6.o_85 P) (.node (d3 P 148) .nil .nil) .nil) (.node (d3 P 116) .nil .nil))) (.node (Mine.top6.o_29 P) (.node (Mine.top6.o_45 P) (.node (Mine.top6.o_77 P) (.node (d3 P 140) .nil .nil) .nil) (.node (q7_108 P) .nil .nil)) (.node (Mine.top6.o_61 P) (.node (Mine.top6.o_101 P) (.node (q9_156 P) .nil .nil) .nil) (.node (d3 P 124) .nil .nil))))) (.node (PySem.W.boot_o_6 P) (.node (PySem.W.boot_o_10 P) (.node (Mine.top6.o_13 P) (.node (Mine.top6.o_35 P) (.node (Mine.top6.o_67 P) (.node (d3 P 130) .nil .nil) .nil) (.node (q6_98 P) (.node (q11_162 P) .nil .nil) .nil)) (.node (Mine.top6.o_51 P) (.node (Mine.top6.o_83 P) (.node (d3 P 146) .nil .nil) .nil) (.node (d3 P 114) .nil .nil))) (.node (Mine.top6.o_27 P) (.node (Mine.top6.o_43 P) (.node (Mine.top6.o_75 P) (.node (d3 P 138) .nil .nil) .nil) (.node (q7_106 P) .nil .nil)) (.node (Mine.top6.o_59 P) (.node (Mine.top6.o_99 P) (.node (q9_154 P) .nil .nil) .nil) (.node (d3 P 122) .nil .nil)))) (.node (Mine.top6.o_5 P) (.node (Mine.top6.o_23 P) (.node (Mine.top6.o_39 P) (.node (Mine.top6.o_71 P) (.node (d3 P 134) .nil .nil) .nil) (.node (q6_102 P) .nil .nil)) (.node (Mine.top6.o_55 P) (.node (Mine.top6.o_87 P) (.node (d3 P 150) .nil .nil) .nil) (.node (d3 P 118) .nil .nil))) (.node (Mine.top6.o_31 P) (.node (Mine.top6.o_47 P) (.node (Mine.top6.o_79 P) (.node (d3 P 142) .nil .nil) .nil) (.node (q7_110 P) .nil .nil)) (.node (Mine.top6.o_63 P) (.node (Mine.top6.o_103 P) (.node (q9_158 P) .nil .nil) .nil) (.node (d3 P 126) .nil .nil)))))))
noncomputable def q12_3 (P : Params) : Obj := ⟨(.type "dict"), none, (.dict #[⟨PyData.keyHash P (Str.ofString "__name__"), (.str (Str.ofString "__name__") 165), (.str (Str.ofString "law_kl0265_01") 2335)⟩, ⟨PyData.keyHash P (Str.ofString "__doc__"), (.str (Str.ofString "__doc__") 166), .none⟩, ⟨PyData.keyHash P (Str.ofString "__package__"), (.str (Str.ofString "__package__") 167), .none⟩, ⟨PyData.keyHash P (Str.ofString "__loader__"), (.str (Str.ofString "__loader__") 168), (.builtin "__main__.__loader__#opaque")⟩, ⟨PyData.keyHash P (Str.ofString "__spec__"), (.str (Str.ofString "__spec__") 169), .none⟩, ⟨PyData.keyHash P (Str.ofString "__annotations__"), (.str (Str.ofString "__annotations__") 170), (.ref 6)⟩, ⟨PyData.keyHash P (Str.ofString "__builtins__"), (.str (Str.ofString "__builtins__") 171), (.ref 4)⟩, ⟨PyData.keyHash P (Str.ofString "__file__"), (.str (Str.ofString "__file__") 173), (.str (Str.ofString "/claim/cut.py") 172)⟩, ⟨PyData.keyHash P (Str.ofString "__cached__"), (.str (Str.ofString "__cached__") 174), .none⟩, ⟨PyData.keyHash P (Str.ofString "_wall"), (.str (Str.ofString "_wall") 193), (.ref 21)⟩, ⟨PyData.keyHash P (Str.ofString "Whitespace"), (.str (Str.ofString "Whitespace") 295), (.ref 83)⟩, ⟨PyData.keyHash P (Str.ofString "_parse_varint"), (.str (Str.ofString "_parse_varint") 306), (.ref 94)⟩, ⟨PyData.keyHash P (Str.ofString "b1_set"), (.str (Str.ofString "b1_set") 368), (.ref 102)⟩, ⟨PyData.keyHash P (Str.ofString "in_table_b1"), (.str (Str.ofString "in_table_b1") 375), (.ref 112)⟩, ⟨PyData.keyHash P (Str.ofString "b3_exceptions"), (.str (Str.ofString "b3_exceptions") 2326), (.ref 113)⟩, ⟨PyData.keyHash P (Str.ofString "map_table_b3"), (.str (Str.ofString "map_table_b3") 2334), (.ref 158)⟩, ⟨PyData.keyHash P (Str.ofString "_law_sign"), (.str (Str.ofString "_law_sign") 2348), (.ref 165)⟩, ⟨PyData.keyHash P (Str.ofString "_law_prepared"), (.str (Str.ofString "_law_prepared") 2358), (.ref 172)⟩] 18), #[]⟩
noncomputable def q12_12 (P : Params) : Obj := ⟨.none, none, (.fields #[(.int 1 0), (.int 0 0), (.ref 20), (.int 5 0), (.int 0 0), (.ref 27), (.int 62 0), (.int 0 0), (.ref 93), (.int 72 0), (.int 0 0), (.ref 111), (.int 75 0), (.int 0 0), (.ref 157), (.int 81 0), (.int 0 0), (.ref 164), (.int 91 0), (.int 0 0), (.ref 171)]), #[]⟩
noncomputable def q12_166 (P : Params) : Obj := ⟨(.type "tuple"), none, (.seq #[] 0), #[]⟩
noncomputable def q12_167 (P : Params) : Obj := ⟨.none, none, (.fields #[]), #[]⟩
noncomputable def q12_168 (P : Params) : Obj := ⟨(.type "tuple"), none, (.seq #[(.str (Str.ofString "signs") 2352), (.str (Str.ofString "kept") 2353), (.str (Str.ofString "sign") 2354), (.str (Str.ofString "held") 2355)] 0), #[]⟩
noncomputable def q12_169 (P : Params) : Obj := ⟨(.type "tuple"), none, (.seq #[] 0), #[]⟩
noncomputable def q12_170 (P : Params) : Obj := ⟨.none, none, (.func { name := (Str.ofString "_law_prepared"), qualname := (Str.ofString "_law_prepared"), params := fpar (st 12), body := .stmts (fbody (st 12)), scope := fscope (st 12), globals := 0, closure := [], defaults := .none, kwdefaults := .none, doc := .none, pyModule := .none, annotations := none, code := .none, closureTuple := .none, builtins := 0 }), #[]⟩
noncomputable def q12_171 (P : Params) : Obj := ⟨(.type "code"), none, (.fields #[(.str (Str.ofString "_law_prepared") 2349), (.str (Str.ofString "_law_prepared") 2350), (.str (Str.ofString "/claim/cut.py") 2351), (.int 91 0), (.int 1 0), (.int 0 0), (.int 0 0), (.int 3 0), (.ref 166), (.bool true), (.int 181 0), (.ref 167), .none, (.ref 168), (.ref 169), (.ref 170), (.int 2356 0), (.int 91 0), (.str (Str.ofString "/claim/cut.py") 2357)]), #[]⟩
noncomputable def q12_172 (P : Params) : Obj := ⟨(.type "function"), none, (.func { name := (Str.ofString "_law_prepared"), qualname := (Str.ofString "_law_prepared"), params := fpar (st 12), body := .stmts (fbody (st 12)), scope := fscope (st 12), globals := 3, closure := [], defaults := .none, kwdefaults := .none, doc := .none, pyModule := (.str (Str.ofString "law_kl0265_01") 2335), annotations := none, code := (.ref 171), closureTuple := .none, builtins := 0 }), #[]⟩
noncomputable def T12 (P : Params) : BT := (.node (PySem.W.boot_o_0 P) (.node (PySem.W.boot_o_1 P) (.node (q12_3 P) (.node (PySem.W.boot_o_7 P) (.node (Mine.top6.o_10 P) (.node (Mine.top6.o_32 P) (.node (Mine.top6.o_64 P) (.node (d3 P 127) .nil .nil) .nil) (.node (q6_95 P) (.node (q11_159 P) .nil .nil) .nil)) (.node (Mine.top6.o_48 P) (.node (Mine.top6.o_80 P) (.node (d3 P 143) .nil .nil) .nil) (.node (q7_111 P) .nil .nil))) (.node (Mine.top6.o_24 P) (.node (Mine.top6.o_40 P) (.node (Mine.top6.o_72 P) (.node (d3 P 135) .nil .nil) .nil) (.node (q6_103 P) (.node (q12_167 P) .nil .nil) .nil)) (.node (Mine.top6.o_56 P) (.node (Mine.top6.o_88 P) (.node (d3 P 151) .nil .nil) .nil) (.node (d3 P 119) .nil .nil)))) (.node (Mine.top6.o_2 P) (.node (Mine.top6.o_14 P) (.node (Mine.top6.o_36 P) (.node (Mine.top6.o_68 P) (.node (d3 P 131) .nil .nil) .nil) (.node (q6_99 P) (.node (q11_163 P) .nil .nil) .nil)) (.node (Mine.top6.o_52 P) (.node (Mine.top6.o_84 P) (.node (d3 P 147) .nil .nil) .nil) (.node (d3 P 115) .nil .nil))) (.node (Mine.top6.o_28 P) (.node (Mine.top6.o_44 P) (.node (Mine.top6.o_76 P) (.node (d3 P 139) .nil .nil) .nil) (.node (q7_107 P) (.node (q12_171 P) .nil .nil) .nil)) (.node (Mine.top6.o_60 P) (.node (Mine.top6.o_100 P) (.node (q9_155 P) .nil .nil) .nil) (.node (d3 P 123) .nil .nil))))) (.node (PySem.W.boot_o_5 P) (.node (PySem.W.boot_o_9 P) (.node (Mine.top6.o_12 P) (.node (Mine.top6.o_34 P) (.node (Mine.top6.o_66 P) (.node (d3 P 129) .nil .nil) .nil) (.node (q6_97 P) (.node (q11_161 P) .nil .nil) .nil)) (.node (Mine.top6.o_50 P) (.node (Mine.top6.o_82 P) (.node (d3 P 145) .nil .nil) .nil) (.node (d3 P 113) .nil .nil))) (.node (Mine.top6.o_26 P) (.node (Mine.top6.o_42 P) (.node (Mine.top6.o_74 P) (.node (d3 P 137) .nil .nil) .nil) (.node (q6_105 P) (.node (q12_169 P) .nil .nil) .nil)) (.node (Mine.top6.o_58 P) (.node (Mine.top6.o_98 P) (.node (q9_153 P) .nil .nil) .nil) (.node (d3 P 121) .nil .nil)))) (.node (Mine.top6.o_4 P) (.node (Mine.top6.o_16 P) (.node (Mine.top6.o_38 P) (.node (Mine.top6.o_70 P) (.node (d3 P 133) .nil .nil) .nil) (.node (q6_101 P) (.node (q11_165 P) .nil .nil) .nil)) (.node (Mine.top6.o_54 P) (.node (Mine.top6.o_86 P) (.node (d3 P 149) .nil .nil) .nil) (.node (d3 P 117) .nil .nil))) (.node (Mine.top6.o_30 P) (.node (Mine.top6.o_46 P) (.node (Mine.top6.o_78 P) (.node (d3 P 141) .nil .nil) .nil) (.node (q7_109 P) .nil .nil)) (.node (Mine.top6.o_62 P) (.node (Mine.top6.o_102 P) (.node (q9_157 P) .nil .nil) .nil) (.node (d3 P 125) .nil .nil)))))) (.node (PySem.W.boot_o_2 P) (.node (PySem.W.boot_o_4 P) (.node (PySem.W.boot_o_8 P) (.node (Mine.top6.o_11 P) (.node (Mine.top6.o_33 P) (.node (Mine.top6.o_65 P) (.node (d3 P 128) .nil .nil) .nil) (.node (q6_96 P) (.node (q11_160 P) .nil .nil) .nil)) (.node (Mine.top6.o_49 P) (.node (Mine.top6.o_81 P) (.node (d3 P 144) .nil .nil) .nil) (.node (q7_112 P) .nil .nil))) (.node (Mine.top6.o_25 P) (.node (Mine.top6.o_41 P) (.node (Mine.top6.o_73 P) (.node (d3 P 136) .nil .nil) .nil) (.node (q6_104 P) (.node (q12_168 P) .nil .nil) .nil)) (.node (Mine.top6.o_57 P) (.node (Mine.top6.o_97 P) (.node (q9_152 P) .nil .nil) .nil) (.node (d3 P 120) .nil .nil)))) (.node (q12_12 P) (.node (Mine.top6.o_15 P) (.node (Mine.top6.o_37 P) (.node (Mine.top6.o_69 P) (.node (d3 P 132) .nil .nil) .nil) (.node (q6_100 P) (.node (q11_164 P) .nil .nil) .nil)) (.node (Mine.top6.o_53 P) (.node (Mine.top6.o_85 P) (.node (d3 P 148) .nil .nil) .nil) (.node (d3 P 116) .nil .nil))) (.node (Mine.top6.o_29 P) (.node (Mine.top6.o_45 P) (.node (Mine.top6.o_77 P) (.node (d3 P 140) .nil .nil) .nil) (.node (q7_108 P) (.node (q12_172 P) .nil .nil) .nil)) (.node (Mine.top6.o_61 P) (.node (Mine.top6.o_101 P) (.node (q9_156 P) .nil .nil) .nil) (.node (d3 P 124) .nil .nil))))) (.node (PySem.W.boot_o_6 P) (.node (PySem.W.boot_o_10 P) (.node (Mine.top6.o_13 P) (.node (Mine.top6.o_35 P) (.node (Mine.top6.o_67 P) (.node (d3 P 130) .nil .nil) .nil) (.node (q6_98 P) (.node (q11_162 P) .nil .nil) .nil)) (.node (Mine.top6.o_51 P) (.node (Mine.top6.o_83 P) (.node (d3 P 146) .nil .nil) .nil) (.node (d3 P 114) .nil .nil))) (.node (Mine.top6.o_27 P) (.node (Mine.top6.o_43 P) (.node (Mine.top6.o_75 P) (.node (d3 P 138) .nil .nil) .nil) (.node (q7_106 P) (.node (q12_170 P) .nil .nil) .nil)) (.node (Mine.top6.o_59 P) (.node (Mine.top6.o_99 P) (.node (q9_154 P) .nil .nil) .nil) (.node (d3 P 122) .nil .nil)))) (.node (Mine.top6.o_5 P) (.node (Mine.top6.o_23 P) (.node (Mine.top6.o_39 P) (.node (Mine.top6.o_71 P) (.node (d3 P 134) .nil .nil) .nil) (.node (q6_102 P) (.node (q12_166 P) .nil .nil) .nil)) (.node (Mine.top6.o_55 P) (.node (Mine.top6.o_87 P) (.node (d3 P 150) .nil .nil) .nil) (.node (d3 P 118) .nil .nil))) (.node (Mine.top6.o_31 P) (.node (Mine.top6.o_47 P) (.node (Mine.top6.o_79 P) (.node (d3 P 142) .nil .nil) .nil) (.node (q7_110 P) .nil .nil)) (.node (Mine.top6.o_63 P) (.node (Mine.top6.o_103 P) (.node (q9_158 P) .nil .nil) .nil) (.node (d3 P 126) .nil .nil)))))))
noncomputable def q13_3 (P : Params) : Obj := ⟨(.type "dict"), none, (.dict #[⟨PyData.keyHash P (Str.ofString "__name__"), (.str (Str.ofString "__name__") 165), (.str (Str.ofString "law_kl0265_01") 2335)⟩, ⟨PyData.keyHash P (Str.ofString "__doc__"), (.str (Str.ofString "__doc__") 166), .none⟩, ⟨PyData.keyHash P (Str.ofString "__package__"), (.str (Str.ofString "__package__") 167), .none⟩, ⟨PyData.keyHash P (Str.ofString "__loader__"), (.str (Str.ofString "__loader__") 168), (.builtin "__main__.__loader__#opaque")⟩, ⟨PyData.keyHash P (Str.ofString "__spec__"), (.str (Str.ofString "__spec__") 169), .none⟩, ⟨PyData.keyHash P (Str.ofString "__annotations__"), (.str (Str.ofString "__annotations__") 170), (.ref 6)⟩, ⟨PyData.keyHash P (Str.ofString "__builtins__"), (.str (Str.ofString "__builtins__") 171), (.ref 4)⟩, ⟨PyData.keyHash P (Str.ofString "__file__"), (.str (Str.ofString "__file__") 173), (.str (Str.ofString "/claim/cut.py") 172)⟩, ⟨PyData.keyHash P (Str.ofString "__cached__"), (.str (Str.ofString "__cached__") 174), .none⟩, ⟨PyData.keyHash P (Str.ofString "_wall"), (.str (Str.ofString "_wall") 193), (.ref 21)⟩, ⟨PyData.keyHash P (Str.ofString "Whitespace"), (.str (Str.ofString "Whitespace") 295), (.ref 83)⟩, ⟨PyData.keyHash P (Str.ofString "_parse_varint"), (.str (Str.ofString "_parse_varint") 306), (.ref 94)⟩, ⟨PyData.keyHash P (Str.ofString "b1_set"), (.str (Str.ofString "b1_set") 368), (.ref 102)⟩, ⟨PyData.keyHash P (Str.ofString "in_table_b1"), (.str (Str.ofString "in_table_b1") 375), (.ref 112)⟩, ⟨PyData.keyHash P (Str.ofString "b3_exceptions"), (.str (Str.ofString "b3_exceptions") 2326), (.ref 113)⟩, ⟨PyData.keyHash P (Str.ofString "map_table_b3"), (.str (Str.ofString "map_table_b3") 2334), (.ref 158)⟩, ⟨PyData.keyHash P (Str.ofString "_law_sign"), (.str (Str.ofString "_law_sign") 2348), (.ref 165)⟩, ⟨PyData.keyHash P (Str.ofString "_law_prepared"), (.str (Str.ofString "_law_prepared") 2358), (.ref 172)⟩, ⟨PyData.keyHash P (Str.ofString "_law_longest"), (.str (Str.ofString "_law_longest") 2364), (.ref 177)⟩] 19), #[]⟩
noncomputable def q13_12 (P : Params) : Obj := ⟨.none, none, (.fields #[(.int 1 0), (.int 0 0), (.ref 20), (.int 5 0), (.int 0 0), (.ref 27), (.int 62 0), (.int 0 0), (.ref 93), (.int 72 0), (.int 0 0), (.ref 111), (.int 75 0), (.int 0 0), (.ref 157), (.int 81 0), (.int 0 0), (.ref 164), (.int 91 0), (.int 0 0), (.ref 171), (.int 100 0), (.int 0 0), (.ref 176)]), #[]⟩
noncomputable def q13_173 (P : Params) : Obj := ⟨(.type "tuple"), none, (.seq #[] 0), #[]⟩
noncomputable def q13_174 (P : Params) : Obj := ⟨.none, none, (.fields #[]), #[]⟩
noncomputable def q13_175 (P : Params) : Obj := ⟨.none, none, (.func { name := (Str.ofString "_law_longest"), qualname := (Str.ofString "_law_longest"), params := fpar (st 13), body := .stmts (fbody (st 13)), scope := fscope (st 13), globals := 0, closure := [], defaults := .none, kwdefaults := .none, doc := .none, pyModule := .none, annotations := none, code := .none, closureTuple := .none, builtins := 0 }), #[]⟩
noncomputable def q13_176 (P : Params) : Obj := ⟨(.type "code"), none, (.fields #[(.str (Str.ofString "_law_longest") 2359), (.str (Str.ofString "_law_longest") 2360), (.str (Str.ofString "/claim/cut.py") 2361), (.int 100 0), (.int 2 0), (.int 0 0), (.int 0 0), (.int 3 0), (.ref 173), (.bool true), (.int 181 0), (.ref 174), .none, .none, .none, (.ref 175), (.int 2362 0), (.int 100 0), (.str (Str.ofString "/claim/cut.py") 2363)]), #[]⟩
noncomputable def q13_177 (P : Params) : Obj := ⟨(.type "function"), none, (.func { name := (Str.ofString "_law_longest"), qualname := (Str.ofString "_law_longest"), params := fpar (st 13), body := .stmts (fbody (st 13)), scope := fscope (st 13), globals := 3, closure := [], defaults := .none, kwdefaults := .none, doc := .none, pyModule := (.str (Str.ofString "law_kl0265_01") 2335), annotations := none, code := (.ref 176), closureTuple := .none, builtins := 0 }), #[]⟩
noncomputable def T13 (P : Params) : BT := (.node (PySem.W.boot_o_0 P) (.node (PySem.W.boot_o_1 P) (.node (q13_3 P) (.node (PySem.W.boot_o_7 P) (.node (Mine.top6.o_10 P) (.node (Mine.top6.o_32 P) (.node (Mine.top6.o_64 P) (.node (d3 P 127) .nil .nil) .nil) (.node (q6_95 P) (.node (q11_159 P) .nil .nil) .nil)) (.node (Mine.top6.o_48 P) (.node (Mine.top6.o_80 P) (.node (d3 P 143) .nil .nil) .nil) (.node (q7_111 P) (.node (q13_175 P) .nil .nil) .nil))) (.node (Mine.top6.o_24 P) (.node (Mine.top6.o_40 P) (.node (Mine.top6.o_72 P) (.node (d3 P 135) .nil .nil) .nil) (.node (q6_103 P) (.node (q12_167 P) .nil .nil) .nil)) (.node (Mine.top6.o_56 P) (.node (Mine.top6.o_88 P) (.node (d3 P 151) .nil .nil) .nil) (.node (d3 P 119) .nil .nil)))) (.node (Mine.top6.o_2 P) (.node (Mine.top6.o_14 P) (.node (Mine.top6.o_36 P) (.node (Mine.top6.o_68 P) (.node (d3 P 131) .nil .nil) .nil) (.node (q6_99 P) (.node (q11_163 P) .nil .nil) .nil)) (.node (Mine.top6.o_52 P) (.node (Mine.top6.o_84 P) (.node (d3 P 147) .nil .nil) .nil) (.node (d3 P 115) .nil .nil))) (.node (Mine.top6.o_28 P) (.node (Mine.top6.o_44 P) (.node (Mine.top6.o_76 P) (.node (d3 P 139) .nil .nil) .nil) (.node (q7_107 P) (.node (q12_171 P) .nil .nil) .nil)) (.node (Mine.top6.o_60 P) (.node (Mine.top6.o_100 P) (.node (q9_155 P) .nil .nil) .nil) (.node (d3 P 123) .nil .nil))))) (.node (PySem.W.boot_o_5 P) (.node (PySem.W.boot_o_9 P) (.node (Mine.top6.o_12 P) (.node (Mine.top6.o_34 P) (.node (Mine.top6.o_66 P) (.node (d3 P 129) .nil .nil) .nil) (.node (q6_97 P) (.node (q11_161 P) .nil .nil) .nil)) (.node (Mine.top6.o_50 P) (.node (Mine.top6.o_82 P) (.node (d3 P 145) .nil .nil) .nil) (.node (d3 P 113) (.node (q13_177 P) .nil .nil) .nil))) (.node (Mine.top6.o_26 P) (.node (Mine.top6.o_42 P) (.node (Mine.top6.o_74 P) (.node (d3 P 137) .nil .nil) .nil) (.node (q6_105 P) (.node (q12_169 P) .nil .nil) .nil)) (.node (Mine.top6.o_58 P) (.node (Mine.top6.o_98 P) (.node (q9_153 P) .nil .nil) .nil) (.node (d3 P 121) .nil .nil)))) (.node (Mine.top6.o_4 P) (.node (Mine.top6.o_16 P) (.node (Mine.top6.o_38 P) (.node (Mine.top6.o_70 P) (.node (d3 P 133) .nil .nil) .nil) (.node (q6_101 P) (.node (q11_165 P) .nil .nil) .nil)) (.node (Mine.top6.o_54 P) (.node (Mine.top6.o_86 P) (.node (d3 P 149) .nil .nil) .nil) (.node (d3 P 117) .nil .nil))) (.node (Mine.top6.o_30 P) (.node (Mine.top6.o_46 P) (.node (Mine.top6.o_78 P) (.node (d3 P 141) .nil .nil) .nil) (.node (q7_109 P) (.node (q13_173 P) .nil .nil) .nil)) (.node (Mine.top6.o_62 P) (.node (Mine.top6.o_102 P) (.node (q9_157 P) .nil .nil) .nil) (.node (d3 P 125) .nil .nil)))))) (.node (PySem.W.boot_o_2 P) (.node (PySem.W.boot_o_4 P) (.node (PySem.W.boot_o_8 P) (.node (Mine.top6.o_11 P) (.node (Mine.top6.o_33 P) (.node (Mine.top6.o_65 P) (.node (d3 P 128) .nil .nil) .nil) (.node (q6_96 P) (.node (q11_160 P) .nil .nil) .nil)) (.node (Mine.top6.o_49 P) (.node (Mine.top6.o_81 P) (.node (d3 P 144) .nil .nil) .nil) (.node (q7_112 P) (.node (q13_176 P) .nil .nil) .nil))) (.node (Mine.top6.o_25 P) (.node (Mine.top6.o_41 P) (.node (Mine.top6.o_73 P) (.node (d3 P 136) .nil .nil) .nil) (.node (q6_104 P) (.node (q12_168 P) .nil .nil) .nil)) (.node (Mine.top6.o_57 P) (.node (Mine.top6.o_97 P) (.node (q9_152 P) .nil .nil) .nil) (.node (d3 P 120) .nil .nil)))) (.node (q13_12 P) (.node (Mine.top6.o_15 P) (.node (Mine.top6.o_37 P) (.node (Mine.top6.o_69 P) (.node (d3 P 132) .nil .nil) .nil) (.node (q6_100 P) (.node (q11_164 P) .nil .nil) .nil)) (.node (Mine.top6.o_53 P) (.node (Mine.top6.o_85 P) (.node (d3 P 148) .nil .nil) .nil) (.node (d3 P 116) .nil .nil))) (.node (Mine.top6.o_29 P) (.node (Mine.top6.o_45 P) (.node (Mine.top6.o_77 P) (.node (d3 P 140) .nil .nil) .nil) (.node (q7_108 P) (.node (q12_172 P) .nil .nil) .nil)) (.node (Mine.top6.o_61 P) (.node (Mine.top6.o_101 P) (.node (q9_156 P) .nil .nil) .nil) (.node (d3 P 124) .nil .nil))))) (.node (PySem.W.boot_o_6 P) (.node (PySem.W.boot_o_10 P) (.node (Mine.top6.o_13 P) (.node (Mine.top6.o_35 P) (.node (Mine.top6.o_67 P) (.node (d3 P 130) .nil .nil) .nil) (.node (q6_98 P) (.node (q11_162 P) .nil .nil) .nil)) (.node (Mine.top6.o_51 P) (.node (Mine.top6.o_83 P) (.node (d3 P 146) .nil .nil) .nil) (.node (d3 P 114) .nil .nil))) (.node (Mine.top6.o_27 P) (.node (Mine.top6.o_43 P) (.node (Mine.top6.o_75 P) (.node (d3 P 138) .nil .nil) .nil) (.node (q7_106 P) (.node (q12_170 P) .nil .nil) .nil)) (.node (Mine.top6.o_59 P) (.node (Mine.top6.o_99 P) (.node (q9_154 P) .nil .nil) .nil) (.node (d3 P 122) .nil .nil)))) (.node (Mine.top6.o_5 P) (.node (Mine.top6.o_23 P) (.node (Mine.top6.o_39 P) (.node (Mine.top6.o_71 P) (.node (d3 P 134) .nil .nil) .nil) (.node (q6_102 P) (.node (q12_166 P) .nil .nil) .nil)) (.node (Mine.top6.o_55 P) (.node (Mine.top6.o_87 P) (.node (d3 P 150) .nil .nil) .nil) (.node (d3 P 118) .nil .nil))) (.node (Mine.top6.o_31 P) (.node (Mine.top6.o_47 P) (.node (Mine.top6.o_79 P) (.node (d3 P 142) .nil .nil) .nil) (.node (q7_110 P) (.node (q13_174 P) .nil .nil) .nil)) (.node (Mine.top6.o_63 P) (.node (Mine.top6.o_103 P) (.node (q9_158 P) .nil .nil) .nil) (.node (d3 P 126) .nil .nil)))))))
noncomputable def q14_3 (P : Params) : Obj := ⟨(.type "dict"), none, (.dict #[⟨PyData.keyHash P (Str.ofString "__name__"), (.str (Str.ofString "__name__") 165), (.str (Str.ofString "law_kl0265_01") 2335)⟩, ⟨PyData.keyHash P (Str.ofString "__doc__"), (.str (Str.ofString "__doc__") 166), .none⟩, ⟨PyData.keyHash P (Str.ofString "__package__"), (.str (Str.ofString "__package__") 167), .none⟩, ⟨PyData.keyHash P (Str.ofString "__loader__"), (.str (Str.ofString "__loader__") 168), (.builtin "__main__.__loader__#opaque")⟩, ⟨PyData.keyHash P (Str.ofString "__spec__"), (.str (Str.ofString "__spec__") 169), .none⟩, ⟨PyData.keyHash P (Str.ofString "__annotations__"), (.str (Str.ofString "__annotations__") 170), (.ref 6)⟩, ⟨PyData.keyHash P (Str.ofString "__builtins__"), (.str (Str.ofString "__builtins__") 171), (.ref 4)⟩, ⟨PyData.keyHash P (Str.ofString "__file__"), (.str (Str.ofString "__file__") 173), (.str (Str.ofString "/claim/cut.py") 172)⟩, ⟨PyData.keyHash P (Str.ofString "__cached__"), (.str (Str.ofString "__cached__") 174), .none⟩, ⟨PyData.keyHash P (Str.ofString "_wall"), (.str (Str.ofString "_wall") 193), (.ref 21)⟩, ⟨PyData.keyHash P (Str.ofString "Whitespace"), (.str (Str.ofString "Whitespace") 295), (.ref 83)⟩, ⟨PyData.keyHash P (Str.ofString "_parse_varint"), (.str (Str.ofString "_parse_varint") 306), (.ref 94)⟩, ⟨PyData.keyHash P (Str.ofString "b1_set"), (.str (Str.ofString "b1_set") 368), (.ref 102)⟩, ⟨PyData.keyHash P (Str.ofString "in_table_b1"), (.str (Str.ofString "in_table_b1") 375), (.ref 112)⟩, ⟨PyData.keyHash P (Str.ofString "b3_exceptions"), (.str (Str.ofString "b3_exceptions") 2326), (.ref 113)⟩, ⟨PyData.keyHash P (Str.ofString "map_table_b3"), (.str (Str.ofString "map_table_b3") 2334), (.ref 158)⟩, ⟨PyData.keyHash P (Str.ofString "_law_sign"), (.str (Str.ofString "_law_sign") 2348), (.ref 165)⟩, ⟨PyData.keyHash P (Str.ofString "_law_prepared"), (.str (Str.ofString "_law_prepared") 2358), (.ref 172)⟩, ⟨PyData.keyHash P (Str.ofString "_law_longest"), (.str (Str.ofString "_law_longest") 2364), (.ref 177)⟩, ⟨PyData.keyHash P (Str.ofString "_law_exchanged"), (.str (Str.ofString "_law_exchanged") 2370), (.ref 182)⟩] 20), #[]⟩
noncomputable def q14_12 (P : Params) : Obj := ⟨.none, none, (.fields #[(.int 1 0), (.int 0 0), (.ref 20), (.int 5 0), (.int 0 0), (.ref 27), (.int 62 0), (.int 0 0), (.ref 93), (.int 72 0), (.int 0 0), (.ref 111), (.int 75 0), (.int 0 0), (.ref 157), (.int 81 0), (.int 0 0), (.ref 164), (.int 91 0), (.int 0 0), (.ref 171), (.int 100 0), (.int 0 0), (.ref 176), (.int 107 0), (.int 0 0), (.ref 181)]), #[]⟩
noncomputable def q14_178 (P : Params) : Obj := ⟨(.type "tuple"), none, (.seq #[] 0), #[]⟩
noncomputable def q14_179 (P : Params) : Obj := ⟨.none, none, (.fields #[]), #[]⟩
noncomputable def q14_180 (P : Params) : Obj := ⟨.none, none, (.func { name := (Str.ofString "_law_exchanged"), qualname := (Str.ofString "_law_exchanged"), params := fpar (st 14), body := .stmts (fbody (st 14)), scope := fscope (st 14), globals := 0, closure := [], defaults := .none, kwdefaults := .none, doc := .none, pyModule := .none, annotations := none, code := .none, closureTuple := .none, builtins := 0 }), #[]⟩
noncomputable def q14_181 (P : Params) : Obj := ⟨(.type "code"), none, (.fields #[(.str (Str.ofString "_law_exchanged") 2365), (.str (Str.ofString "_law_exchanged") 2366), (.str (Str.ofString "/claim/cut.py") 2367), (.int 107 0), (.int 2 0), (.int 0 0), (.int 0 0), (.int 3 0), (.ref 178), (.bool true), (.int 181 0), (.ref 179), .none, .none, .none, (.ref 180), (.int 2368 0), (.int 107 0), (.str (Str.ofString "/claim/cut.py") 2369)]), #[]⟩
noncomputable def q14_182 (P : Params) : Obj := ⟨(.type "function"), none, (.func { name := (Str.ofString "_law_exchanged"), qualname := (Str.ofString "_law_exchanged"), params := fpar (st 14), body := .stmts (fbody (st 14)), scope := fscope (st 14), globals := 3, closure := [], defaults := .none, kwdefaults := .none, doc := .none, pyModule := (.str (Str.ofString "law_kl0265_01") 2335), annotations := none, code := (.ref 181), closureTuple := .none, builtins := 0 }), #[]⟩
noncomputable def T14 (P : Params) : BT := (.node (PySem.W.boot_o_0 P) (.node (PySem.W.boot_o_1 P) (.node (q14_3 P) (.node (PySem.W.boot_o_7 P) (.node (Mine.top6.o_10 P) (.node (Mine.top6.o_32 P) (.node (Mine.top6.o_64 P) (.node (d3 P 127) .nil .nil) .nil) (.node (q6_95 P) (.node (q11_159 P) .nil .nil) .nil)) (.node (Mine.top6.o_48 P) (.node (Mine.top6.o_80 P) (.node (d3 P 143) .nil .nil) .nil) (.node (q7_111 P) (.node (q13_175 P) .nil .nil) .nil))) (.node (Mine.top6.o_24 P) (.node (Mine.top6.o_40 P) (.node (Mine.top6.o_72 P) (.node (d3 P 135) .nil .nil) .nil) (.node (q6_103 P) (.node (q12_167 P) .nil .nil) .nil)) (.node (Mine.top6.o_56 P) (.node (Mine.top6.o_88 P) (.node (d3 P 151) .nil .nil) .nil) (.node (d3 P 119) .nil .nil)))) (.node (Mine.top6.o_2 P) (.node (Mine.top6.o_14 P) (.node (Mine.top6.o_36 P) (.node (Mine.top6.o_68 P) (.node (d3 P 131) .nil .nil) .nil) (.node (q6_99 P) (.node (q11_163 P) .nil .nil) .nil)) (.node (Mine.top6.o_52 P) (.node (Mine.top6.o_84 P) (.node (d3 P 147) .nil .nil) .nil) (.node (d3 P 115) (.node (q14_179 P) .nil .nil) .nil))) (.node (Mine.top6.o_28 P) (.node (Mine.top6.o_44 P) (.node (Mine.top6.o_76 P) (.node (d3 P 139) .nil .nil) .nil) (.node (q7_107 P) (.node (q12_171 P) .nil .nil) .nil)) (.node (Mine.top6.o_60 P) (.node (Mine.top6.o_100 P) (.node (q9_155 P) .nil .nil) .nil) (.node (d3 P 123) .nil .nil))))) (.node (PySem.W.boot_o_5 P) (.node (PySem.W.boot_o_9 P) (.node (Mine.top6.o_12 P) (.node (Mine.top6.o_34 P) (.node (Mine.top6.o_66 P) (.node (d3 P 129) .nil .nil) .nil) (.node (q6_97 P) (.node (q11_161 P) .nil .nil) .nil)) (.node (Mine.top6.o_50 P) (.node (Mine.top6.o_82 P) (.node (d3 P 145) .nil .nil) .nil) (.node (d3 P 113) (.node (q13_177 P) .nil .nil) .nil))) (.node (Mine.top6.o_26 P) (.node (Mine.top6.o_42 P) (.node (Mine.top6.o_74 P) (.node (d3 P 137) .nil .nil) .nil) (.node (q6_105 P) (.node (q12_169 P) .nil .nil) .nil)) (.node (Mine.top6.o_58 P) (.node (Mine.top6.o_98 P) (.node (q9_153 P) .nil .nil) .nil) (.node (d3 P 121) .nil .nil)))) (.node (Mine.top6.o_4 P) (.node (Mine.top6.o_16 P) (.node (Mine.top6.o_38 P) (.node (Mine.top6.o_70 P) (.node (d3 P 133) .nil .nil) .nil) (.node (q6_101 P) (.node (q11_165 P) .nil .nil) .nil)) (.node (Mine.top6.o_54 P) (.node (Mine.top6.o_86 P) (.node (d3 P 149) .nil .nil) .nil) (.node (d3 P 117) (.node (q14_181 P) .nil .nil) .nil))) (.node (Mine.top6.o_30 P) (.node (Mine.top6.o_46 P) (.node (Mine.top6.o_78 P) (.node (d3 P 141) .nil .nil) .nil) (.node (q7_109 P) (.node (q13_173 P) .nil .nil) .nil)) (.node (Mine.top6.o_62 P) (.node (Mine.top6.o_102 P) (.node (q9_157 P) .nil .nil) .nil) (.node (d3 P 125) .nil .nil)))))) (.node (PySem.W.boot_o_2 P) (.node (PySem.W.boot_o_4 P) (.node (PySem.W.boot_o_8 P) (.node (Mine.top6.o_11 P) (.node (Mine.top6.o_33 P) (.node (Mine.top6.o_65 P) (.node (d3 P 128) .nil .nil) .nil) (.node (q6_96 P) (.node (q11_160 P) .nil .nil) .nil)) (.node (Mine.top6.o_49 P) (.node (Mine.top6.o_81 P) (.node (d3 P 144) .nil .nil) .nil) (.node (q7_112 P) (.node (q13_176 P) .nil .nil) .nil))) (.node (Mine.top6.o_25 P) (.node (Mine.top6.o_41 P) (.node (Mine.top6.o_73 P) (.node (d3 P 136) .nil .nil) .nil) (.node (q6_104 P) (.node (q12_168 P) .nil .nil) .nil)) (.node (Mine.top6.o_57 P) (.node (Mine.top6.o_97 P) (.node (q9_152 P) .nil .nil) .nil) (.node (d3 P 120) .nil .nil)))) (.node (q14_12 P) (.node (Mine.top6.o_15 P) (.node (Mine.top6.o_37 P) (.node (Mine.top6.o_69 P) (.node (d3 P 132) .nil .nil) .nil) (.node (q6_100 P) (.node (q11_164 P) .nil .nil) .nil)) (.node (Mine.top6.o_53 P) (.node (Mine.top6.o_85 P) (.node (d3 P 148) .nil .nil) .nil) (.node (d3 P 116) (.node (q14_180 P) .nil .nil) .nil))) (.node (Mine.top6.o_29 P) (.node (Mine.top6.o_45 P) (.node (Mine.top6.o_77 P) (.node (d3 P 140) .nil .nil) .nil) (.node (q7_108 P) (.node (q12_172 P) .nil .nil) .nil)) (.node (Mine.top6.o_61 P) (.node (Mine.top6.o_101 P) (.node (q9_156 P) .nil .nil) .nil) (.node (d3 P 124) .nil .nil))))) (.node (PySem.W.boot_o_6 P) (.node (PySem.W.boot_o_10 P) (.node (Mine.top6.o_13 P) (.node (Mine.top6.o_35 P) (.node (Mine.top6.o_67 P) (.node (d3 P 130) .nil .nil) .nil) (.node (q6_98 P) (.node (q11_162 P) .nil .nil) .nil)) (.node (Mine.top6.o_51 P) (.node (Mine.top6.o_83 P) (.node (d3 P 146) .nil .nil) .nil) (.node (d3 P 114) (.node (q14_178 P) .nil .nil) .nil))) (.node (Mine.top6.o_27 P) (.node (Mine.top6.o_43 P) (.node (Mine.top6.o_75 P) (.node (d3 P 138) .nil .nil) .nil) (.node (q7_106 P) (.node (q12_170 P) .nil .nil) .nil)) (.node (Mine.top6.o_59 P) (.node (Mine.top6.o_99 P) (.node (q9_154 P) .nil .nil) .nil) (.node (d3 P 122) .nil .nil)))) (.node (Mine.top6.o_5 P) (.node (Mine.top6.o_23 P) (.node (Mine.top6.o_39 P) (.node (Mine.top6.o_71 P) (.node (d3 P 134) .nil .nil) .nil) (.node (q6_102 P) (.node (q12_166 P) .nil .nil) .nil)) (.node (Mine.top6.o_55 P) (.node (Mine.top6.o_87 P) (.node (d3 P 150) .nil .nil) .nil) (.node (d3 P 118) (.node (q14_182 P) .nil .nil) .nil))) (.node (Mine.top6.o_31 P) (.node (Mine.top6.o_47 P) (.node (Mine.top6.o_79 P) (.node (d3 P 142) .nil .nil) .nil) (.node (q7_110 P) (.node (q13_174 P) .nil .nil) .nil)) (.node (Mine.top6.o_63 P) (.node (Mine.top6.o_103 P) (.node (q9_158 P) .nil .nil) .nil) (.node (d3 P 126) .nil .nil)))))))
noncomputable def q15_3 (P : Params) : Obj := ⟨(.type "dict"), none, (.dict #[⟨PyData.keyHash P (Str.ofString "__name__"), (.str (Str.ofString "__name__") 165), (.str (Str.ofString "law_kl0265_01") 2335)⟩, ⟨PyData.keyHash P (Str.ofString "__doc__"), (.str (Str.ofString "__doc__") 166), .none⟩, ⟨PyData.keyHash P (Str.ofString "__package__"), (.str (Str.ofString "__package__") 167), .none⟩, ⟨PyData.keyHash P (Str.ofString "__loader__"), (.str (Str.ofString "__loader__") 168), (.builtin "__main__.__loader__#opaque")⟩, ⟨PyData.keyHash P (Str.ofString "__spec__"), (.str (Str.ofString "__spec__") 169), .none⟩, ⟨PyData.keyHash P (Str.ofString "__annotations__"), (.str (Str.ofString "__annotations__") 170), (.ref 6)⟩, ⟨PyData.keyHash P (Str.ofString "__builtins__"), (.str (Str.ofString "__builtins__") 171), (.ref 4)⟩, ⟨PyData.keyHash P (Str.ofString "__file__"), (.str (Str.ofString "__file__") 173), (.str (Str.ofString "/claim/cut.py") 172)⟩, ⟨PyData.keyHash P (Str.ofString "__cached__"), (.str (Str.ofString "__cached__") 174), .none⟩, ⟨PyData.keyHash P (Str.ofString "_wall"), (.str (Str.ofString "_wall") 193), (.ref 21)⟩, ⟨PyData.keyHash P (Str.ofString "Whitespace"), (.str (Str.ofString "Whitespace") 295), (.ref 83)⟩, ⟨PyData.keyHash P (Str.ofString "_parse_varint"), (.str (Str.ofString "_parse_varint") 306), (.ref 94)⟩, ⟨PyData.keyHash P (Str.ofString "b1_set"), (.str (Str.ofString "b1_set") 368), (.ref 102)⟩, ⟨PyData.keyHash P (Str.ofString "in_table_b1"), (.str (Str.ofString "in_table_b1") 375), (.ref 112)⟩, ⟨PyData.keyHash P (Str.ofString "b3_exceptions"), (.str (Str.ofString "b3_exceptions") 2326), (.ref 113)⟩, ⟨PyData.keyHash P (Str.ofString "map_table_b3"), (.str (Str.ofString "map_table_b3") 2334), (.ref 158)⟩, ⟨PyData.keyHash P (Str.ofString "_law_sign"), (.str (Str.ofString "_law_sign") 2348), (.ref 165)⟩, ⟨PyData.keyHash P (Str.ofString "_law_prepared"), (.str (Str.ofString "_law_prepared") 2358), (.ref 172)⟩, ⟨PyData.keyHash P (Str.ofString "_law_longest"), (.str (Str.ofString "_law_longest") 2364), (.ref 177)⟩, ⟨PyData.keyHash P (Str.ofString "_law_exchanged"), (.str (Str.ofString "_law_exchanged") 2370), (.ref 182)⟩, ⟨PyData.keyHash P (Str.ofString "_law_leads"), (.str (Str.ofString "_law_leads") 2385), (.ref 189)⟩] 21), #[]⟩
noncomputable def q15_12 (P : Params) : Obj := ⟨.none, none, (.fields #[(.int 1 0), (.int 0 0), (.ref 20), (.int 5 0), (.int 0 0), (.ref 27), (.int 62 0), (.int 0 0), (.ref 93), (.int 72 0), (.int 0 0), (.ref 111), (.int 75 0), (.int 0 0), (.ref 157), (.int 81 0), (.int 0 0), (.ref 164), (.int 91 0), (.int 0 0), (.ref 171), (.int 100 0), (.int 0 0), (.ref 176), (.int 107 0), (.int 0 0), (.ref 181), (.int 115 0), (.int 0 0), (.ref 188)]), #[]⟩
noncomputable def q15_183 (P : Params) : Obj := ⟨(.type "tuple"), none, (.seq #[] 0), #[]⟩
noncomputable def q15_184 (P : Params) : Obj := ⟨.none, none, (.fields #[]), #[]⟩
noncomputable def q15_185 (P : Params) : Obj := ⟨(.type "tuple"), none, (.seq #[(.str (Str.ofString "firsts") 2374), (.str (Str.ofString "seconds") 2375), (.str (Str.ofString "wide") 2376), (.str (Str.ofString "thick") 2377), (.str (Str.ofString "k") 2378), (.str (Str.ofString "least") 2379), (.str (Str.ofString "most") 2380), (.str (Str.ofString "leads") 2381), (.str (Str.ofString "closed") 2382)] 0), #[]⟩
noncomputable def q15_186 (P : Params) : Obj := ⟨(.type "tuple"), none, (.seq #[] 0), #[]⟩
noncomputable def q15_187 (P : Params) : Obj := ⟨.none, none, (.func { name := (Str.ofString "_law_leads"), qualname := (Str.ofString "_law_leads"), params := fpar (st 15), body := .stmts (fbody (st 15)), scope := fscope (st 15), globals := 0, closure := [], defaults := .none, kwdefaults := .none, doc := .none, pyModule := .none, annotations := none, code := .none, closureTuple := .none, builtins := 0 }), #[]⟩
noncomputable def q15_188 (P : Params) : Obj := ⟨(.type "code"), none, (.fields #[(.str (Str.ofString "_law_leads") 2371), (.str (Str.ofString "_law_leads") 2372), (.str (Str.ofString "/claim/cut.py") 2373), (.int 115 0), (.int 3 0), (.int 0 0), (.int 0 0), (.int 3 0), (.ref 183), (.bool true), (.int 181 0), (.ref 184), .none, (.ref 185), (.ref 186), (.ref 187), (.int 2383 0), (.int 115 0), (.str (Str.ofString "/claim/cut.py") 2384)]), #[]⟩
noncomputable def q15_189 (P : Params) : Obj := ⟨(.type "function"), none, (.func { name := (Str.ofString "_law_leads"), qualname := (Str.ofString "_law_leads"), params := fpar (st 15), body := .stmts (fbody (st 15)), scope := fscope (st 15), globals := 3, closure := [], defaults := .none, kwdefaults := .none, doc := .none, pyModule := (.str (Str.ofString "law_kl0265_01") 2335), annotations := none, code := (.ref 188), closureTuple := .none, builtins := 0 }), #[]⟩
noncomputable def T15 (P : Params) : BT := (.node (PySem.W.boot_o_0 P) (.node (PySem.W.boot_o_1 P) (.node (q15_3 P) (.node (PySem.W.boot_o_7 P) (.node (Mine.top6.o_10 P) (.node (Mine.top6.o_32 P) (.node (Mine.top6.o_64 P) (.node (d3 P 127) .nil .nil) .nil) (.node (q6_95 P) (.node (q11_159 P) .nil .nil) .nil)) (.node (Mine.top6.o_48 P) (.node (Mine.top6.o_80 P) (.node (d3 P 143) .nil .nil) .nil) (.node (q7_111 P) (.node (q13_175 P) .nil .nil) .nil))) (.node (Mine.top6.o_24 P) (.node (Mine.top6.o_40 P) (.node (Mine.top6.o_72 P) (.node (d3 P 135) .nil .nil) .nil) (.node (q6_103 P) (.node (q12_167 P) .nil .nil) .nil)) (.node (Mine.top6.o_56 P) (.node (Mine.top6.o_88 P) (.node (d3 P 151) .nil .nil) .nil) (.node (d3 P 119) (.node (q15_183 P) .nil .nil) .nil)))) (.node (Mine.top6.o_2 P) (.node (Mine.top6.o_14 P) (.node (Mine.top6.o_36 P) (.node (Mine.top6.o_68 P) (.node (d3 P 131) .nil .nil) .nil) (.node (q6_99 P) (.node (q11_163 P) .nil .nil) .nil)) (.node (Mine.top6.o_52 P) (.node (Mine.top6.o_84 P) (.node (d3 P 147) .nil .nil) .nil) (.node (d3 P 115) (.node (q14_179 P) .nil .nil) .nil))) (.node (Mine.top6.o_28 P) (.node (Mine.top6.o_44 P) (.node (Mine.top6.o_76 P) (.node (d3 P 139) .nil .nil) .nil) (.node (q7_107 P) (.node (q12_171 P) .nil .nil) .nil)) (.node (Mine.top6.o_60 P) (.node (Mine.top6.o_100 P) (.node (q9_155 P) .nil .nil) .nil) (.node (d3 P 123) (.node (q15_187 P) .nil .nil) .nil))))) (.node (PySem.W.boot_o_5 P) (.node (PySem.W.boot_o_9 P) (.node (Mine.top6.o_12 P) (.node (Mine.top6.o_34 P) (.node (Mine.top6.o_66 P) (.node (d3 P 129) .nil .nil) .nil) (.node (q6_97 P) (.node (q11_161 P) .nil .nil) .nil)) (.node (Mine.top6.o_50 P) (.node (Mine.top6.o_82 P) (.node (d3 P 145) .nil .nil) .nil) (.node (d3 P 113) (.node (q13_177 P) .nil .nil) .nil))) (.node (Mine.top6.o_26 P) (.node (Mine.top6.o_42 P) (.node (Mine.top6.o_74 P) (.node (d3 P 137) .nil .nil) .nil) (.node (q6_105 P) (.node (q12_169 P) .nil .nil) .nil)) (.node (Mine.top6.o_58 P) (.node (Mine.top6.o_98 P) (.node (q9_153 P) .nil .nil) .nil) (.node (d3 P 121) (.node (q15_185 P) .nil .nil) .nil)))) (.node (Mine.top6.o_4 P) (.node (Mine.top6.o_16 P) (.node (Mine.top6.o_38 P) (.node (Mine.top6.o_70 P) (.node (d3 P 133) .nil .nil) .nil) (.node (q6_101 P) (.node (q11_165 P) .nil .nil) .nil)) (.node (Mine.top6.o_54 P) (.node (Mine.top6.o_86 P) (.node (d3 P 149) .nil .nil) .nil) (.node (d3 P 117) (.node (q14_181 P) .nil .nil) .nil))) (.node (Mine.top6.o_30 P) (.node (Mine.top6.o_46 P) (.node (Mine.top6.o_78 P) (.node (d3 P 141) .nil .nil) .nil) (.node (q7_109 P) (.node (q13_173 P) .nil .nil) .nil)) (.node (Mine.top6.o_62 P) (.node (Mine.top6.o_102 P) (.node (q9_157 P) .nil .nil) .nil) (.node (d3 P 125) (.node (q15_189 P) .nil .nil) .nil)))))) (.node (PySem.W.boot_o_2 P) (.node (PySem.W.boot_o_4 P) (.node (PySem.W.boot_o_8 P) (.node (Mine.top6.o_11 P) (.node (Mine.top6.o_33 P) (.node (Mine.top6.o_65 P) (.node (d3 P 128) .nil .nil) .nil) (.node (q6_96 P) (.node (q11_160 P) .nil .nil) .nil)) (.node (Mine.top6.o_49 P) (.node (Mine.top6.o_81 P) (.node (d3 P 144) .nil .nil) .nil) (.node (q7_112 P) (.node (q13_176 P) .nil .nil) .nil))) (.node (Mine.top6.o_25 P) (.node (Mine.top6.o_41 P) (.node (Mine.top6.o_73 P) (.node (d3 P 136) .nil .nil) .nil) (.node (q6_104 P) (.node (q12_168 P) .nil .nil) .nil)) (.node (Mine.top6.o_57 P) (.node (Mine.top6.o_97 P) (.node (q9_152 P) .nil .nil) .nil) (.node (d3 P 120) (.node (q15_184 P) .nil .nil) .nil)))) (.node (q15_12 P) (.node (Mine.top6.o_15 P) (.node (Mine.top6.o_37 P) (.node (Mine.top6.o_69 P) (.node (d3 P 132) .nil .nil) .nil) (.node (q6_100 P) (.node (q11_164 P) .nil .nil) .nil)) (.node (Mine.top6.o_53 P) (.node (Mine.top6.o_85 P) (.node (d3 P 148) .nil .nil) .nil) (.node (d3 P 116) (.node (q14_180 P) .nil .nil) .nil))) (.node (Mine.top6.o_29 P) (.node (Mine.top6.o_45 P) (.node (Mine.top6.o_77 P) (.node (d3 P 140) .nil .nil) .nil) (.node (q7_108 P) (.node (q12_172 P) .nil .nil) .nil)) (.node (Mine.top6.o_61 P) (.node (Mine.top6.o_101 P) (.node (q9_156 P) .nil .nil) .nil) (.node (d3 P 124) (.node (q15_188 P) .nil .nil) .nil))))) (.node (PySem.W.boot_o_6 P) (.node (PySem.W.boot_o_10 P) (.node (Mine.top6.o_13 P) (.node (Mine.top6.o_35 P) (.node (Mine.top6.o_67 P) (.node (d3 P 130) .nil .nil) .nil) (.node (q6_98 P) (.node (q11_162 P) .nil .nil) .nil)) (.node (Mine.top6.o_51 P) (.node (Mine.top6.o_83 P) (.node (d3 P 146) .nil .nil) .nil) (.node (d3 P 114) (.node (q14_178 P) .nil .nil) .nil))) (.node (Mine.top6.o_27 P) (.node (Mine.top6.o_43 P) (.node (Mine.top6.o_75 P) (.node (d3 P 138) .nil .nil) .nil) (.node (q7_106 P) (.node (q12_170 P) .nil .nil) .nil)) (.node (Mine.top6.o_59 P) (.node (Mine.top6.o_99 P) (.node (q9_154 P) .nil .nil) .nil) (.node (d3 P 122) (.node (q15_186 P) .nil .nil) .nil)))) (.node (Mine.top6.o_5 P) (.node (Mine.top6.o_23 P) (.node (Mine.top6.o_39 P) (.node (Mine.top6.o_71 P) (.node (d3 P 134) .nil .nil) .nil) (.node (q6_102 P) (.node (q12_166 P) .nil .nil) .nil)) (.node (Mine.top6.o_55 P) (.node (Mine.top6.o_87 P) (.node (d3 P 150) .nil .nil) .nil) (.node (d3 P 118) (.node (q14_182 P) .nil .nil) .nil))) (.node (Mine.top6.o_31 P) (.node (Mine.top6.o_47 P) (.node (Mine.top6.o_79 P) (.node (d3 P 142) .nil .nil) .nil) (.node (q7_110 P) (.node (q13_174 P) .nil .nil) .nil)) (.node (Mine.top6.o_63 P) (.node (Mine.top6.o_103 P) (.node (q9_158 P) .nil .nil) .nil) (.node (d3 P 126) .nil .nil)))))))
noncomputable def q16_3 (P : Params) : Obj := ⟨(.type "dict"), none, (.dict #[⟨PyData.keyHash P (Str.ofString "__name__"), (.str (Str.ofString "__name__") 165), (.str (Str.ofString "law_kl0265_01") 2335)⟩, ⟨PyData.keyHash P (Str.ofString "__doc__"), (.str (Str.ofString "__doc__") 166), .none⟩, ⟨PyData.keyHash P (Str.ofString "__package__"), (.str (Str.ofString "__package__") 167), .none⟩, ⟨PyData.keyHash P (Str.ofString "__loader__"), (.str (Str.ofString "__loader__") 168), (.builtin "__main__.__loader__#opaque")⟩, ⟨PyData.keyHash P (Str.ofString "__spec__"), (.str (Str.ofString "__spec__") 169), .none⟩, ⟨PyData.keyHash P (Str.ofString "__annotations__"), (.str (Str.ofString "__annotations__") 170), (.ref 6)⟩, ⟨PyData.keyHash P (Str.ofString "__builtins__"), (.str (Str.ofString "__builtins__") 171), (.ref 4)⟩, ⟨PyData.keyHash P (Str.ofString "__file__"), (.str (Str.ofString "__file__") 173), (.str (Str.ofString "/claim/cut.py") 172)⟩, ⟨PyData.keyHash P (Str.ofString "__cached__"), (.str (Str.ofString "__cached__") 174), .none⟩, ⟨PyData.keyHash P (Str.ofString "_wall"), (.str (Str.ofString "_wall") 193), (.ref 21)⟩, ⟨PyData.keyHash P (Str.ofString "Whitespace"), (.str (Str.ofString "Whitespace") 295), (.ref 83)⟩, ⟨PyData.keyHash P (Str.ofString "_parse_varint"), (.str (Str.ofString "_parse_varint") 306), (.ref 94)⟩, ⟨PyData.keyHash P (Str.ofString "b1_set"), (.str (Str.ofString "b1_set") 368), (.ref 102)⟩, ⟨PyData.keyHash P (Str.ofString "in_table_b1"), (.str (Str.ofString "in_table_b1") 375), (.ref 112)⟩, ⟨PyData.keyHash P (Str.ofString "b3_exceptions"), (.str (Str.ofString "b3_exceptions") 2326), (.ref 113)⟩, ⟨PyData.keyHash P (Str.ofString "map_table_b3"), (.str (Str.ofString "map_table_b3") 2334), (.ref 158)⟩, ⟨PyData.keyHash P (Str.ofString "_law_sign"), (.str (Str.ofString "_law_sign") 2348), (.ref 165)⟩, ⟨PyData.keyHash P (Str.ofString "_law_prepared"), (.str (Str.ofString "_law_prepared") 2358), (.ref 172)⟩, ⟨PyData.keyHash P (Str.ofString "_law_longest"), (.str (Str.ofString "_law_longest") 2364), (.ref 177)⟩, ⟨PyData.keyHash P (Str.ofString "_law_exchanged"), (.str (Str.ofString "_law_exchanged") 2370), (.ref 182)⟩, ⟨PyData.keyHash P (Str.ofString "_law_leads"), (.str (Str.ofString "_law_leads") 2385), (.ref 189)⟩, ⟨PyData.keyHash P (Str.ofString "law"), (.str (Str.ofString "law") 2391), (.ref 194)⟩] 22), #[]⟩
noncomputable def q16_12 (P : Params) : Obj := ⟨.none, none, (.fields #[(.int 1 0), (.int 0 0), (.ref 20), (.int 5 0), (.int 0 0), (.ref 27), (.int 62 0), (.int 0 0), (.ref 93), (.int 72 0), (.int 0 0), (.ref 111), (.int 75 0), (.int 0 0), (.ref 157), (.int 81 0), (.int 0 0), (.ref 164), (.int 91 0), (.int 0 0), (.ref 171), (.int 100 0), (.int 0 0), (.ref 176), (.int 107 0), (.int 0 0), (.ref 181), (.int 115 0), (.int 0 0), (.ref 188), (.int 126 0), (.int 0 0), (.ref 193)]), #[]⟩
noncomputable def q16_190 (P : Params) : Obj := ⟨(.type "tuple"), none, (.seq #[] 0), #[]⟩
noncomputable def q16_191 (P : Params) : Obj := ⟨.none, none, (.fields #[]), #[]⟩
noncomputable def q16_192 (P : Params) : Obj := ⟨.none, none, (.func { name := (Str.ofString "law"), qualname := (Str.ofString "law"), params := fpar (st 16), body := .stmts (fbody (st 16)), scope := fscope (st 16), globals := 0, closure := [], defaults := .none, kwdefaults := .none, doc := .none, pyModule := .none, annotations := none, code := .none, closureTuple := .none, builtins := 0 }), #[]⟩
noncomputable def q16_193 (P : Params) : Obj := ⟨(.type "code"), none, (.fields #[(.str (Str.ofString "law") 2386), (.str (Str.ofString "law") 2387), (.str (Str.ofString "/claim/cut.py") 2388), (.int 126 0), (.int 1 0), (.int 0 0), (.int 0 0), (.int 3 0), (.ref 190), (.bool true), (.int 181 0), (.ref 191), .none, .none, .none, (.ref 192), (.int 2389 0), (.int 126 0), (.str (Str.ofString "/claim/cut.py") 2390)]), #[]⟩
noncomputable def q16_194 (P : Params) : Obj := ⟨(.type "function"), none, (.func { name := (Str.ofString "law"), qualname := (Str.ofString "law"), params := fpar (st 16), body := .stmts (fbody (st 16)), scope := fscope (st 16), globals := 3, closure := [], defaults := .none, kwdefaults := .none, doc := .none, pyModule := (.str (Str.ofString "law_kl0265_01") 2335), annotations := none, code := (.ref 193), closureTuple := .none, builtins := 0 }), #[]⟩
noncomputable def T16 (P : Params) : BT := (.node (PySem.W.boot_o_0 P) (.node (PySem.W.boot_o_1 P) (.node (q16_3 P) (.node (PySem.W.boot_o_7 P) (.node (Mine.top6.o_10 P) (.node (Mine.top6.o_32 P) (.node (Mine.top6.o_64 P) (.node (d3 P 127) .nil .nil) (.node (q16_191 P) .nil .nil)) (.node (q6_95 P) (.node (q11_159 P) .nil .nil) .nil)) (.node (Mine.top6.o_48 P) (.node (Mine.top6.o_80 P) (.node (d3 P 143) .nil .nil) .nil) (.node (q7_111 P) (.node (q13_175 P) .nil .nil) .nil))) (.node (Mine.top6.o_24 P) (.node (Mine.top6.o_40 P) (.node (Mine.top6.o_72 P) (.node (d3 P 135) .nil .nil) .nil) (.node (q6_103 P) (.node (q12_167 P) .nil .nil) .nil)) (.node (Mine.top6.o_56 P) (.node (Mine.top6.o_88 P) (.node (d3 P 151) .nil .nil) .nil) (.node (d3 P 119) (.node (q15_183 P) .nil .nil) .nil)))) (.node (Mine.top6.o_2 P) (.node (Mine.top6.o_14 P) (.node (Mine.top6.o_36 P) (.node (Mine.top6.o_68 P) (.node (d3 P 131) .nil .nil) .nil) (.node (q6_99 P) (.node (q11_163 P) .nil .nil) .nil)) (.node (Mine.top6.o_52 P) (.node (Mine.top6.o_84 P) (.node (d3 P 147) .nil .nil) .nil) (.node (d3 P 115) (.node (q14_179 P) .nil .nil) .nil))) (.node (Mine.top6.o_28 P) (.node (Mine.top6.o_44 P) (.node (Mine.top6.o_76 P) (.node (d3 P 139) .nil .nil) .nil) (.node (q7_107 P) (.node (q12_171 P) .nil .nil) .nil)) (.node (Mine.top6.o_60 P) (.node (Mine.top6.o_100 P) (.node (q9_155 P) .nil .nil) .nil) (.node (d3 P 123) (.node (q15_187 P) .nil .nil) .nil))))) (.node (PySem.W.boot_o_5 P) (.node (PySem.W.boot_o_9 P) (.node (Mine.top6.o_12 P) (.node (Mine.top6.o_34 P) (.node (Mine.top6.o_66 P) (.node (d3 P 129) .nil .nil) (.node (q16_193 P) .nil .nil)) (.node (q6_97 P) (.node (q11_161 P) .nil .nil) .nil)) (.node (Mine.top6.o_50 P) (.node (Mine.top6.o_82 P) (.node (d3 P 145) .nil .nil) .nil) (.node (d3 P 113) (.node (q13_177 P) .nil .nil) .nil))) (.node (Mine.top6.o_26 P) (.node (Mine.top6.o_42 P) (.node (Mine.top6.o_74 P) (.node (d3 P 137) .nil .nil) .nil) (.node (q6_105 P) (.node (q12_169 P) .nil .nil) .nil)) (.node (Mine.top6.o_58 P) (.node (Mine.top6.o_98 P) (.node (q9_153 P) .nil .nil) .nil) (.node (d3 P 121) (.node (q15_185 P) .nil .nil) .nil)))) (.node (Mine.top6.o_4 P) (.node (Mine.top6.o_16 P) (.node (Mine.top6.o_38 P) (.node (Mine.top6.o_70 P) (.node (d3 P 133) .nil .nil) .nil) (.node (q6_101 P) (.node (q11_165 P) .nil .nil) .nil)) (.node (Mine.top6.o_54 P) (.node (Mine.top6.o_86 P) (.node (d3 P 149) .nil .nil) .nil) (.node (d3 P 117) (.node (q14_181 P) .nil .nil) .nil))) (.node (Mine.top6.o_30 P) (.node (Mine.top6.o_46 P) (.node (Mine.top6.o_78 P) (.node (d3 P 141) .nil .nil) .nil) (.node (q7_109 P) (.node (q13_173 P) .nil .nil) .nil)) (.node (Mine.top6.o_62 P) (.node (Mine.top6.o_102 P) (.node (q9_157 P) .nil .nil) .nil) (.node (d3 P 125) (.node (q15_189 P) .nil .nil) .nil)))))) (.node (PySem.W.boot_o_2 P) (.node (PySem.W.boot_o_4 P) (.node (PySem.W.boot_o_8 P) (.node (Mine.top6.o_11 P) (.node (Mine.top6.o_33 P) (.node (Mine.top6.o_65 P) (.node (d3 P 128) .nil .nil) (.node (q16_192 P) .nil .nil)) (.node (q6_96 P) (.node (q11_160 P) .nil .nil) .nil)) (.node (Mine.top6.o_49 P) (.node (Mine.top6.o_81 P) (.node (d3 P 144) .nil .nil) .nil) (.node (q7_112 P) (.node (q13_176 P) .nil .nil) .nil))) (.node (Mine.top6.o_25 P) (.node (Mine.top6.o_41 P) (.node (Mine.top6.o_73 P) (.node (d3 P 136) .nil .nil) .nil) (.node (q6_104 P) (.node (q12_168 P) .nil .nil) .nil)) (.node (Mine.top6.o_57 P) (.node (Mine.top6.o_97 P) (.node (q9_152 P) .nil .nil) .nil) (.node (d3 P 120) (.node (q15_184 P) .nil .nil) .nil)))) (.node (q16_12 P) (.node (Mine.top6.o_15 P) (.node (Mine.top6.o_37 P) (.node (Mine.top6.o_69 P) (.node (d3 P 132) .nil .nil) .nil) (.node (q6_100 P) (.node (q11_164 P) .nil .nil) .nil)) (.node (Mine.top6.o_53 P) (.node (Mine.top6.o_85 P) (.node (d3 P 148) .nil .nil) .nil) (.node (d3 P 116) (.node (q14_180 P) .nil .nil) .nil))) (.node (Mine.top6.o_29 P) (.node (Mine.top6.o_45 P) (.node (Mine.top6.o_77 P) (.node (d3 P 140) .nil .nil) .nil) (.node (q7_108 P) (.node (q12_172 P) .nil .nil) .nil)) (.node (Mine.top6.o_61 P) (.node (Mine.top6.o_101 P) (.node (q9_156 P) .nil .nil) .nil) (.node (d3 P 124) (.node (q15_188 P) .nil .nil) .nil))))) (.node (PySem.W.boot_o_6 P) (.node (PySem.W.boot_o_10 P) (.node (Mine.top6.o_13 P) (.node (Mine.top6.o_35 P) (.node (Mine.top6.o_67 P) (.node (d3 P 130) .nil .nil) (.node (q16_194 P) .nil .nil)) (.node (q6_98 P) (.node (q11_162 P) .nil .nil) .nil)) (.node (Mine.top6.o_51 P) (.node (Mine.top6.o_83 P) (.node (d3 P 146) .nil .nil) .nil) (.node (d3 P 114) (.node (q14_178 P) .nil .nil) .nil))) (.node (Mine.top6.o_27 P) (.node (Mine.top6.o_43 P) (.node (Mine.top6.o_75 P) (.node (d3 P 138) .nil .nil) .nil) (.node (q7_106 P) (.node (q12_170 P) .nil .nil) .nil)) (.node (Mine.top6.o_59 P) (.node (Mine.top6.o_99 P) (.node (q9_154 P) .nil .nil) .nil) (.node (d3 P 122) (.node (q15_186 P) .nil .nil) .nil)))) (.node (Mine.top6.o_5 P) (.node (Mine.top6.o_23 P) (.node (Mine.top6.o_39 P) (.node (Mine.top6.o_71 P) (.node (d3 P 134) .nil .nil) .nil) (.node (q6_102 P) (.node (q12_166 P) .nil .nil) .nil)) (.node (Mine.top6.o_55 P) (.node (Mine.top6.o_87 P) (.node (d3 P 150) .nil .nil) .nil) (.node (d3 P 118) (.node (q14_182 P) .nil .nil) .nil))) (.node (Mine.top6.o_31 P) (.node (Mine.top6.o_47 P) (.node (Mine.top6.o_79 P) (.node (d3 P 142) .nil .nil) .nil) (.node (q7_110 P) (.node (q13_174 P) .nil .nil) .nil)) (.node (Mine.top6.o_63 P) (.node (Mine.top6.o_103 P) (.node (q9_158 P) .nil .nil) .nil) (.node (d3 P 126) (.node (q16_190 P) .nil .nil) .nil)))))))

theorem l8_heap (P : Params) : hpl (absHeap (T7 P) 113 {}) l8 = absHeap (T8d P) 152 {} := by kernel_rfl
noncomputable def dictE : Expr := match st 8 with | .Assign _ e _ => e | _ => default
noncomputable def dpos : Pos := match st 8 with | .Assign _ (.Dict _ _ p) _ => p | _ => default
noncomputable def apos : Pos := match st 8 with | .Assign _ _ p => p | _ => default
noncomputable def tgts : List Expr := match st 8 with | .Assign ts _ _ => ts | _ => []
noncomputable def tl8 (v : Value) : Sem Flow := do assignStores top6.env_1 v (← swappedStores tgts dictE top6.env_1) ((assignEach tgts top6.env_1).map (·.2))
theorem seg8_tail (w : World) (os : OsState) : segRunT treeTable pw w 11 (some (.ref 6)) 1 40 (S T8d 152 2326 w os) ⟨(tl8 (.ref 113)).wrap doneF deadEnd id id, cE, dpos, [topFrame q0]⟩ = some (.next, S T8 152 2327 w os, cE, { line := 74, col := 0, endLine := 74, endCol := 13 }) := by
  kernel_rfl
theorem exec8 : exec (st 8) top6.env_1 = (standAt apos >>= fun _ => (standAt dpos >>= fun _ => dictDisplay ((evalEachOpt ks8 top6.env_1).zip ((evalEach vs8 top6.env_1).map fun v => do let x ← v; standAt dpos; pure x))) >>= tl8) := by
  kernel_rfl
/-- the run of a whole statement of the top, by its parts -/
noncomputable def RnS (w : World) (B : Nat) {α : Type} (x : Sem α) (s : Shared) (p : Pos) (a : α) (s' : Shared) (p' : Pos) : Prop :=
  ∀ (K : α → Sem Fin) (H : Value → Sem Fin) (N : Nat) (r : Shared),
    Go w N s' ⟨K a, cE, p', [topFrame q0]⟩ = some r → Go w (B + N) s (thr x K H id id p) = some r
section
variable {α β : Type} {w : World} {s s' s₁ : Shared} {p p' p₁ : Pos}
theorem Rn.toS {B : Nat} {x : Sem α} {a : α} (h : Rn w B x s p a s' p') : RnS w B x s p a s' p' := fun K H N r e => h K H id id N r e
theorem RnS.bind {B₁ B₂ : Nat} {x : Sem α} {f : α → Sem β} {a : α} {b : β} (h₁ : RnS w B₁ x s p a s₁ p₁) (h₂ : RnS w B₂ (f a) s₁ p₁ b s' p') : RnS w (B₁ + B₂) (x >>= f) s p b s' p' := fun K H N r e => by
  have e2 := h₂ K H N r e
  have e1 := h₁ (fun a => (f a).wrap K H id id) (fun e => H e) (B₂ + N) r e2
  rw [show B₁ + B₂ + N = B₁ + (B₂ + N) by omega]
  unfold thr at e1 ⊢
  rw [Sem.bind_eq_wrap', Sem.wrap_wrap]
  exact e1
theorem RnS.ofSeg {n : Nat} {x : Sem Flow} {f : Flow} (h : segRun treeTable pw w 11 (some (.ref 6)) 1 n s ⟨x.wrap doneF deadEnd id id, cE, p, [topFrame q0]⟩ = some (f, s', cE, p')) : RnS w n x s p f s' p' := fun K H N r e => by
  obtain ⟨a, ha, hN⟩ := seg_top (res := id) (K' := K) (H' := H) (gd := id) (lv := id) (B := [topFrame q0]) rfl n s ⟨x.wrap doneF deadEnd id id, cE, p, [topFrame q0]⟩ (thr x K H id id p) f s' cE p' ⟨rfl, rfl, .inl ⟨rfl, rfl, x, rfl, rfl⟩⟩ h
  have ha' : a = f := ha
  subst ha'
  exact hN N r e
end
theorem run8 (w : World) (os : OsState) : RnS w 15642 (exec (st 8) top6.env_1) (S T7 113 376 w os).abs { line := 72, col := 0, endLine := 73, endCol := 30 } .next (S T8 152 2327 w os).abs { line := 74, col := 0, endLine := 74, endCol := 13 } := by
  rw [exec8, items8]
  refine RnS.bind (B₁ := 1) (B₂ := 15641) Rn.at.toS ?_
  refine RnS.bind (B₁ := 15601) (B₂ := 40) (a := .ref 113) (s₁ := (S T8d 152 2326 w os).abs) (p₁ := dpos) ?_ (RnS.ofSeg (segRun_of (seg8_tail w os)))
  refine RnS.bind (B₁ := 1) (B₂ := 15600) Rn.at.toS ?_
  have hsz : (absHeap (T7 w.params) 113 {}).objs.size = 113 := absHeap_size _ _ _
  have := Rn.b3 (w := w) (H := absHeap (T7 w.params) 113 {}) dpos { toList := [] } {} os (by rw [hsz]; decide)
  rw [hsz, l8_heap] at this
  exact this.toS
end Mine
end
section
open PySem PySem.W PyProof.Rows
set_option Elab.async false
set_option maxRecDepth 100000
set_option linter.unusedVariables false
namespace Mine
abbrev ann6 : Option Value := some (.ref 6)
theorem segA (w : World) (os : OsState) : segRunT treeTable pw w 11 ann6 1 39 (S top6.tree_6 15 187 w os) (piecesOf [st 0, st 1] top6.env_1 cE q0 [topFrame q0]) = some (.next, S top6.tree_17 22 196 w os, cE, { line := 4, col := 0, endLine := 4, endCol := 8 }) := by
  kernel_rfl
abbrev Seg4 (w : World) : Prop := (fun os : OsState => segRunT treeTable pw w 11 ann6 1 493 (S top6.tree_17 22 196 w os) (piecesOf [st 2] top6.env_1 cE { line := 4, col := 0, endLine := 4, endCol := 8 } [topFrame q0])) = fun os => some (.next, S top6.tree_89 88 296 w os, cE, { line := 5, col := 0, endLine := 60, endCol := 16 })
theorem seg4 : ∀ w, Seg4 w := by
  refine byRow2 "special-get-raises" (P := Seg4) ?_ ?_
  all_goals (intro w; unfold Seg4 piecesOf; rw [PySem.W.Fast.te10110043849684766642, PySem.W.Fast.te14364793385576792824, PySem.W.Fast.te12563942051412417395]; kernel_rfl)
theorem segC (w : World) (os : OsState) : segRunT treeTable pw w 11 ann6 1 50 (S top6.tree_89 88 296 w os) (piecesOf [st 3, st 4, st 5] top6.env_1 cE { line := 5, col := 0, endLine := 60, endCol := 16 } [topFrame q0]) = some (.next, S T5 95 309 w os, cE, { line := 70, col := 0, endLine := 70, endCol := 8 }) := by
  kernel_rfl
theorem seg7 (w : World) (os : OsState) : segRunT treeTable pw w 11 ann6 1 30 (S T6 106 369 w os) (piecesOf [st 7] top6.env_1 cE { line := 71, col := 0, endLine := 71, endCol := 6 } [topFrame q0]) = some (.next, S T7 113 376 w os, cE, { line := 72, col := 0, endLine := 73, endCol := 30 }) := by
  kernel_rfl
theorem seg9 (w : World) (os : OsState) : segRunT treeTable pw w 11 ann6 1 31 (S T8 152 2327 w os) (piecesOf [st 9] top6.env_1 cE { line := 74, col := 0, endLine := 74, endCol := 13 } [topFrame q0]) = some (.next, S T9 159 2335 w os, cE, { line := 75, col := 0, endLine := 79, endCol := 23 }) := by
  kernel_rfl
theorem seg10 (w : World) (os : OsState) : segRunT treeTable pw w 11 ann6 1 10 (S T9 159 2335 w os) (piecesOf [st 10] top6.env_1 cE { line := 75, col := 0, endLine := 79, endCol := 23 } [topFrame q0]) = some (.next, S T10 159 2337 w os, cE, { line := 80, col := 0, endLine := 80, endCol := 8 }) := by
  kernel_rfl
theorem seg11 (w : World) (os : OsState) : segRunT treeTable pw w 11 ann6 1 35 (S T10 159 2337 w os) (piecesOf [st 11] top6.env_1 cE { line := 80, col := 0, endLine := 80, endCol := 8 } [topFrame q0]) = some (.next, S T11 166 2349 w os, cE, { line := 81, col := 0, endLine := 90, endCol := 29 }) := by
  kernel_rfl
theorem seg12 (w : World) (os : OsState) : segRunT treeTable pw w 11 ann6 1 33 (S T11 166 2349 w os) (piecesOf [st 12] top6.env_1 cE { line := 81, col := 0, endLine := 90, endCol := 29 } [topFrame q0]) = some (.next, S T12 173 2359 w os, cE, { line := 91, col := 0, endLine := 99, endCol := 15 }) := by
  kernel_rfl
theorem seg13 (w : World) (os : OsState) : segRunT treeTable pw w 11 ann6 1 27 (S T12 173 2359 w os) (piecesOf [st 13] top6.env_1 cE { line := 91, col := 0, endLine := 99, endCol := 15 } [topFrame q0]) = some (.next, S T13 178 2365 w os, cE, { line := 100, col := 0, endLine := 106, endCol := 18 }) := by
  kernel_rfl
theorem seg14 (w : World) (os : OsState) : segRunT treeTable pw w 11 ann6 1 27 (S T13 178 2365 w os) (piecesOf [st 14] top6.env_1 cE { line := 100, col := 0, endLine := 106, endCol := 18 } [topFrame q0]) = some (.next, S T14 183 2371 w os, cE, { line := 107, col := 0, endLine := 114, endCol := 68 }) := by
  kernel_rfl
theorem seg15 (w : World) (os : OsState) : segRunT treeTable pw w 11 ann6 1 38 (S T14 183 2371 w os) (piecesOf [st 15] top6.env_1 cE { line := 107, col := 0, endLine := 114, endCol := 68 } [topFrame q0]) = some (.next, S T15 190 2386 w os, cE, { line := 115, col := 0, endLine := 125, endCol := 16 }) := by
  kernel_rfl
theorem seg16 (w : World) (os : OsState) : segRunT treeTable pw w 11 ann6 1 27 (S T15 190 2386 w os) (piecesOf [st 16] top6.env_1 cE { line := 115, col := 0, endLine := 125, endCol := 16 } [topFrame q0]) = some (.next, S T16 195 2392 w os, cE, { line := 126, col := 0, endLine := 178, endCol := 15 }) := by
  kernel_rfl
abbrev Seg6 (w : World) : Prop := (fun os : OsState => segRunT treeTable pw w 11 ann6 1 999 (S T5 95 309 w os) (piecesOf [st 6] top6.env_1 cE { line := 70, col := 0, endLine := 70, endCol := 8 } [topFrame q0])) = fun os => some (.next, S T6 106 369 w os, cE, { line := 71, col := 0, endLine := 71, endCol := 6 })
theorem seg6 : ∀ w, Seg6 w := by
  refine byRow2 "set-order" (P := Seg6) (byRow2 "special-get-raises" (P := fun w => Seg6 (w.withFollow "set-order" false)) ?_ ?_) (byRow2 "special-get-raises" (P := fun w => Seg6 (w.withFollow "set-order" true)) ?_ ?_)
  all_goals (intro w; unfold Seg6 piecesOf; rw [PySem.W.Fast.te10110043849684766642, PySem.W.Fast.te14364793385576792824, PySem.W.Fast.te12563942051412417395]; kernel_rfl)
theorem pre_ (w : World) (os : OsState) : topGo treeTable pw w 11 ann6 12 ⟨boot_heap w.params, Array.mk [], boot_drawn, boot_toks, os⟩ (topStub pw) = some ((S top6.tree_6 15 187 w os).abs, ⟨denote treeTable cE, cE, q0, [topFrame q0]⟩) := by
  kernel_rfl
theorem block_ (w : World) (os : OsState) : segRun treeTable pw w 11 ann6 1 1 (S top6.tree_6 15 187 w os).abs (blockOf bE top6.env_1 cE q0 [topFrame q0]) = some (.next, (S top6.tree_6 15 187 w os).abs, cE, q0) := by
  kernel_rfl
theorem fin_ (w : World) (os : OsState) : topRun treeTable pw w 11 ann6 2 (S T16 195 2392 w os).abs ⟨doneF .next, cE, { line := 126, col := 0, endLine := 178, endCol := 15 }, [topFrame q0]⟩ = some (S T16 195 2392 w os).abs := by
  kernel_rfl
noncomputable abbrev rest6 : List Stmt := [st 6] ++ ([st 7] ++ (st 8 :: ([st 9] ++ ([st 10] ++ ([st 11] ++ ([st 12] ++ ([st 13] ++ ([st 14] ++ ([st 15] ++ ([st 16] ++ []))))))))))
theorem body_ : bE = [st 0, st 1] ++ ([st 2] ++ ([st 3, st 4, st 5] ++ rest6)) := by kernel_rfl
theorem run_ (w : World) (os : OsState) : ∃ M, M ≤ 20000 ∧ topRun treeTable pw w 11 ann6 M ⟨boot_heap w.params, Array.mk [], boot_drawn, boot_toks, os⟩ (topStub pw) = some (S T16 195 2392 w os).abs := by
  have k0 := fin_ w os
  have k16 := piece_app (rest := []) (segRun_of (seg16 w os)) (piece_nil k0)
  have k15 := piece_app (rest := [st 16] ++ ([])) (segRun_of (seg15 w os)) k16
  have k14 := piece_app (rest := [st 15] ++ ([st 16] ++ ([]))) (segRun_of (seg14 w os)) k15
  have k13 := piece_app (rest := [st 14] ++ ([st 15] ++ ([st 16] ++ ([])))) (segRun_of (seg13 w os)) k14
  have k12 := piece_app (rest := [st 13] ++ ([st 14] ++ ([st 15] ++ ([st 16] ++ ([]))))) (segRun_of (seg12 w os)) k13
  have k11 := piece_app (rest := [st 12] ++ ([st 13] ++ ([st 14] ++ ([st 15] ++ ([st 16] ++ ([])))))) (segRun_of (seg11 w os)) k12
  have k10 := piece_app (rest := [st 11] ++ ([st 12] ++ ([st 13] ++ ([st 14] ++ ([st 15] ++ ([st 16] ++ ([]))))))) (segRun_of (seg10 w os)) k11
  have k9 := piece_app (rest := [st 10] ++ ([st 11] ++ ([st 12] ++ ([st 13] ++ ([st 14] ++ ([st 15] ++ ([st 16] ++ ([])))))))) (segRun_of (seg9 w os)) k10
  have k8 := run8 w os (fun f => match f with | .next => (execs ([st 9] ++ ([st 10] ++ ([st 11] ++ ([st 12] ++ ([st 13] ++ ([st 14] ++ ([st 15] ++ ([st 16] ++ ([]))))))))) top6.env_1).wrap doneF (leaveH top6.env_1) id id | f => doneF f) (leaveH top6.env_1) _ _ k9
  have k8' : topRun treeTable pw w 11 ann6 (15642 + (31 + (10 + (35 + (33 + (27 + (27 + (38 + (27 + 2))))))))) (S T7 113 376 w os).abs (restOf (st 8 :: ([st 9] ++ ([st 10] ++ ([st 11] ++ ([st 12] ++ ([st 13] ++ ([st 14] ++ ([st 15] ++ ([st 16] ++ ([])))))))))) top6.env_1 cE { line := 72, col := 0, endLine := 73, endCol := 30 } [topFrame q0]) = some (S T16 195 2392 w os).abs := by
    unfold restOf
    rw [execs_cons_wrap]
    exact k8
  have k7 := piece_app (rest := st 8 :: ([st 9] ++ ([st 10] ++ ([st 11] ++ ([st 12] ++ ([st 13] ++ ([st 14] ++ ([st 15] ++ ([st 16] ++ ([])))))))))) (segRun_of (seg7 w os)) k8'
  have k6 := piece_app (rest := [st 7] ++ (st 8 :: ([st 9] ++ ([st 10] ++ ([st 11] ++ ([st 12] ++ ([st 13] ++ ([st 14] ++ ([st 15] ++ ([st 16] ++ ([]))))))))))) (segRun_of (congrFun (seg6 w) os)) k7
  have kC := piece_app (rest := rest6) (segRun_of (segC w os)) k6
  have kB := piece_app (rest := [st 3, st 4, st 5] ++ rest6) (segRun_of (congrFun (seg4 w) os)) kC
  have kc := piece_app (rest := [st 2] ++ ([st 3, st 4, st 5] ++ rest6)) (segRun_of (segA w os)) kB
  rw [← body_] at kc
  have kb := piece_block (block_ w os) kc
  have kp := go_top (pre_ w os) kb
  exact ⟨_, by decide, kp⟩
end Mine
end
section
open PySem PySem.W PyProof.Rows
set_option Elab.async false
set_option maxRecDepth 100000
set_option linter.unusedVariables false
namespace Mine
noncomputable def qv : Program := { pw with main := { pw.main with body := [st 0, st 4, st 7, st 9, st 11, st 12, st 13, st 14, st 15, st 16] } }
abbrev loose8 : List Str := [Str.ofString "Whitespace", Str.ofString "b1_set", Str.ofString "b3_exceptions"]
noncomputable def q8_113 : Obj := dO (ents 376 (D8.take 17 ++ cs8.flatten) ++ ents2 2314 (D8.drop 646))
noncomputable def K (P : Params) : Frag := [(2, PySem.W.boot_o_2 P), (3, q16_3 P), (15, Mine.top6.o_10 P), (17, Mine.top6.o_12 P), (18, Mine.top6.o_13 P), (20, Mine.top6.o_15 P), (21, Mine.top6.o_16 P), (32, Mine.top6.o_33 P), (34, Mine.top6.o_35 P), (35, Mine.top6.o_36 P), (37, Mine.top6.o_38 P), (38, Mine.top6.o_39 P), (39, Mine.top6.o_40 P), (41, Mine.top6.o_42 P), (42, Mine.top6.o_43 P), (44, Mine.top6.o_45 P), (45, Mine.top6.o_46 P), (46, Mine.top6.o_47 P), (48, Mine.top6.o_49 P), (49, Mine.top6.o_50 P), (51, Mine.top6.o_52 P), (52, Mine.top6.o_53 P), (53, Mine.top6.o_54 P), (55, Mine.top6.o_56 P), (56, Mine.top6.o_57 P), (58, Mine.top6.o_59 P), (59, Mine.top6.o_60 P), (60, Mine.top6.o_61 P), (62, Mine.top6.o_63 P), (63, Mine.top6.o_64 P), (65, Mine.top6.o_66 P), (66, Mine.top6.o_67 P), (67, Mine.top6.o_68 P), (69, Mine.top6.o_70 P), (70, Mine.top6.o_71 P), (72, Mine.top6.o_73 P), (73, Mine.top6.o_74 P), (74, Mine.top6.o_75 P), (76, Mine.top6.o_77 P), (77, Mine.top6.o_78 P), (79, Mine.top6.o_80 P), (80, Mine.top6.o_81 P), (81, Mine.top6.o_82 P), (82, Mine.top6.o_83 P), (83, Mine.top6.o_84 P), (84, Mine.top6.o_85 P), (85, Mine.top6.o_86 P), (88, Mine.top6.o_97 P), (90, Mine.top6.o_99 P), (91, Mine.top6.o_100 P), (93, Mine.top6.o_102 P), (94, Mine.top6.o_103 P), (102, q6_102 P), (106, q7_106 P), (108, q7_108 P), (109, q7_109 P), (111, q7_111 P), (112, q7_112 P), (113, q8_113), (152, q9_152 P), (154, q9_154 P), (155, q9_155 P), (157, q9_157 P), (158, q9_158 P), (159, q11_159 P), (161, q11_161 P), (162, q11_162 P), (164, q11_164 P), (165, q11_165 P), (166, q12_166 P), (168, q12_168 P), (169, q12_169 P), (171, q12_171 P), (172, q12_172 P), (173, q13_173 P), (176, q13_176 P), (177, q13_177 P), (178, q14_178 P), (181, q14_181 P), (182, q14_182 P), (183, q15_183 P), (185, q15_185 P), (186, q15_186 P), (188, q15_188 P), (189, q15_189 P), (190, q16_190 P), (193, q16_193 P), (194, q16_194 P)]
abbrev adr : List Addr := [2, 3, 15, 17, 18, 20, 21, 32, 34, 35, 37, 38, 39, 41, 42, 44, 45, 46, 48, 49, 51, 52, 53, 55, 56, 58, 59, 60, 62, 63, 65, 66, 67, 69, 70, 72, 73, 74, 76, 77, 79, 80, 81, 82, 83, 84, 85, 88, 90, 91, 93, 94, 102, 106, 108, 109, 111, 112, 113, 152, 154, 155, 157, 158, 159, 161, 162, 164, 165, 166, 168, 169, 171, 172, 173, 176, 177, 178, 181, 182, 183, 185, 186, 188, 189, 190, 193, 194]
theorem adr_ok (P : Params) : adr = (K P).map (·.1) := by kernel_rfl
noncomputable abbrev hk : Hook := kHook K adr adr_ok
noncomputable abbrev Xt8 (s : Shared) : Bool := xlAt qv [] s && recOk [] s
noncomputable abbrev S16 (w : World) (os : OsState) : Shared := (S T16 195 2392 w os).abs
theorem look1 (w : World) (os : OsState) : (staticsOk (importedModules pw.main.body) (boot_heap w.params) (S16 w os).heap && namesBound pw (S16 w os).heap && gensDone (S16 w os) && laidKept (boot_heap w.params) (S16 w os).heap) = true := by
  kernel_rfl
theorem look3 (w : World) (os : OsState) : hk.obs (S16 w os) = hk.val w := by kernel_rfl
theorem look2 (w : World) (os : OsState) : openSeen qv loose8 (importedModules pw.main.body) Xt8 true (S16 w os) = openGood qv loose8 := by
  kernel_rfl
end Mine
end
section
open PySem PySem.W PyProof.Rows
set_option Elab.async false
set_option maxRecDepth 100000
set_option linter.unusedVariables false
namespace Mine
theorem open_e : opening pw = plainProg pw.main.scope.names := by kernel_rfl
theorem left_ : LeftO pw qv loose8 Xt8 hk.obs hk.val 20000 := by
  refine LeftO.of_pieces (H₀ := boot_heap) (H₁ := fun P => absHeap (T16 P) 195 {}) (gs₀ := Array.mk []) (gs₁ := Array.mk []) (d₀ := boot_drawn) (d₁ := {}) (k₀ := boot_toks) (k₁ := 2392) (m₀ := 11) (ann := ann6) (M := 20000)
    (boot_open open_e (by decide) (fun s => by kernel_rfl)) (fun w => by kernel_rfl) (fun w os => ?_) (by decide) (fun w => ?_)
  · obtain ⟨M, hM, h⟩ := run_ w os
    have := topRun_mono (20000 - M) _ _ _ _ h
    rw [show M + (20000 - M) = 20000 by omega] at this
    exact this
  · funext os
    have a := look1 w os
    have b := look2 w os
    have c := look3 w os
    exact looks_pair a (looks_pair b c)
noncomputable def lawD : DefRec := ⟨Str.ofString "law", fpar (st 16), fbody (st 16), fscope (st 16), { line := 126, col := 0, endLine := 178, endCol := 15 }⟩
noncomputable abbrev Walk : Prop := WalkO qv loose8 (XL qv []) (kHook K adr adr_ok).says PySem.Challenge.rw_kl0265_01.row.toRowW lawD [] (fun f vs => PySem.call f vs)
theorem said_ : PySem.Challenge.rw_kl0265_01.wellSaid = true := by
  rw [PySem.W.Fast.te9446332074065402090]; kernel_rfl
theorem head_ (walk : Walk) : PySem.Challenge.rw_kl0265_01.Holds := by
  refine PySem.W.holds_law said_ fun said => ?_
  refine PySem.W.holds_open (r := PySem.Challenge.rw_kl0265_01.row) (q := qv) (loose := loose8) (Xt := Xt8) (XP := XL qv []) (Yf := hk.obs) (Ya := hk.val) (YP := (kHook K adr adr_ok).says) (d := lawD) (kwd := []) (N := 20000) left_ hk.of hk.keeps (fun s e => xl_of s (Bool.and_eq_true_iff.mp e).1) XL.keeps (by kernel_rfl) (by kernel_rfl) (by kernel_rfl)
    (fun s e => recFacts_of (Bool.and_eq_true_iff.mp e).2) (by rfl) (by assumption) (by decide +kernel) ⟨rfl, rfl, rfl, rfl, rfl, by decide +kernel⟩ ?hw walk
  exact ⟨[.list []], by decide +kernel, by decide +kernel⟩
end Mine
end
section
open PySem PySem.W PyProof.Rows PySem.Calls
set_option Elab.async false
set_option maxRecDepth 100000
set_option linter.unusedVariables false
namespace Mine
/-- what stands at the top, at every heap of the call -/
structure Gd (w : World) (mean : ExcName → Option Value) (mg mb : Str → Option Value) (h : Heap) : Prop where
  X : (K w.params).In h
  T : Top qv loose8 mean mg mb h
noncomputable def Keeps (h h' : Heap) : Prop := ∀ b o, h.get? b = some o → h'.get? b = some o
theorem Keeps.refl (h : Heap) : Keeps h h := fun _ _ e => e
theorem Keeps.trans {a b c : Heap} (x : Keeps a b) (y : Keeps b c) : Keeps a c := fun _ _ e => y _ _ (x _ _ e)
section
variable {w : World} {mean : ExcName → Option Value} {mg mb : Str → Option Value} {A : Around} {s : Shared}
theorem Gd.keeps {h h' : Heap} (G : Gd w mean mg mb h) (k : Keeps h h') : Gd w mean mg mb h' := ⟨G.X.keeps k, G.T.keeps k⟩
end
end Mine
end
section
open PySem PySem.W PyProof.Rows PySem.Calls
set_option Elab.async false
set_option maxRecDepth 100000
set_option linter.unusedVariables false
namespace Mine
section
variable {w : World} {mean : ExcName → Option Value} {mg mb : Str → Option Value} {A : Around} {E : Value → Shared → Prop} {s : Shared} {h₀ : Heap} {L a : Addr} {m : Str → Option Value} {nm : Str} {sc : Scope} {cd : Value} {pos : Pos} {P : Params}
noncomputable def IsGl (x : Str) (v : Value) : Prop := (∀ P, nsIn (K P) mainGlobals x = some (some v)) ∧ (x == ("__debug__" : Str)) = false
noncomputable def IsBi (x : Str) (v : Value) : Prop := (∀ P, nsIn (K P) mainGlobals x = some none) ∧ bootBuiltins x = some v ∧ (x == ("__debug__" : Str)) = false ∧ x ≠ "__name__"
theorem gl_Whitespace : IsGl (Str.ofString "Whitespace") (.ref 83) := ⟨fun P => by kernel_rfl, by decide +kernel⟩
theorem gl_parse_varint : IsGl (Str.ofString "_parse_varint") (.ref 94) := ⟨fun P => by kernel_rfl, by decide +kernel⟩
theorem gl_b1_set : IsGl (Str.ofString "b1_set") (.ref 102) := ⟨fun P => by kernel_rfl, by decide +kernel⟩
theorem gl_in_table_b1 : IsGl (Str.ofString "in_table_b1") (.ref 112) := ⟨fun P => by kernel_rfl, by decide +kernel⟩
theorem gl_b3_exceptions : IsGl (Str.ofString "b3_exceptions") (.ref 113) := ⟨fun P => by kernel_rfl, by decide +kernel⟩
theorem gl_map_table_b3 : IsGl (Str.ofString "map_table_b3") (.ref 158) := ⟨fun P => by kernel_rfl, by decide +kernel⟩
theorem gl_law_sign : IsGl (Str.ofString "_law_sign") (.ref 165) := ⟨fun P => by kernel_rfl, by decide +kernel⟩
theorem gl_law_prepared : IsGl (Str.ofString "_law_prepared") (.ref 172) := ⟨fun P => by kernel_rfl, by decide +kernel⟩
theorem gl_law_longest : IsGl (Str.ofString "_law_longest") (.ref 177) := ⟨fun P => by kernel_rfl, by decide +kernel⟩
theorem gl_law_exchanged : IsGl (Str.ofString "_law_exchanged") (.ref 182) := ⟨fun P => by kernel_rfl, by decide +kernel⟩
theorem gl_law_leads : IsGl (Str.ofString "_law_leads") (.ref 189) := ⟨fun P => by kernel_rfl, by decide +kernel⟩
theorem bi_range : IsBi (Str.ofString "range") (.type "range") := ⟨fun P => by kernel_rfl, by kernel_rfl, by decide +kernel, by decide +kernel⟩
theorem bi_chr : IsBi (Str.ofString "chr") (.builtin "chr") := ⟨fun P => by kernel_rfl, by kernel_rfl, by decide +kernel, by decide +kernel⟩
theorem bi_ord : IsBi (Str.ofString "ord") (.builtin "ord") := ⟨fun P => by kernel_rfl, by kernel_rfl, by decide +kernel, by decide +kernel⟩
theorem bi_len : IsBi (Str.ofString "len") (.builtin "len") := ⟨fun P => by kernel_rfl, by kernel_rfl, by decide +kernel, by decide +kernel⟩
theorem bi_min : IsBi (Str.ofString "min") (.builtin "min") := ⟨fun P => by kernel_rfl, by kernel_rfl, by decide +kernel, by decide +kernel⟩
theorem bi_max : IsBi (Str.ofString "max") (.builtin "max") := ⟨fun P => by kernel_rfl, by kernel_rfl, by decide +kernel, by decide +kernel⟩
theorem bi_iter : IsBi (Str.ofString "iter") (.builtin "iter") := ⟨fun P => by kernel_rfl, by kernel_rfl, by decide +kernel, by decide +kernel⟩
theorem bi_next : IsBi (Str.ofString "next") (.builtin "next") := ⟨fun P => by kernel_rfl, by kernel_rfl, by decide +kernel, by decide +kernel⟩
theorem bi_tuple : IsBi (Str.ofString "tuple") (.type "tuple") := ⟨fun P => by kernel_rfl, by kernel_rfl, by decide +kernel, by decide +kernel⟩
theorem bi_StopIteration : IsBi (Str.ofString "StopIteration") (.type "StopIteration") := ⟨fun P => by kernel_rfl, by kernel_rfl, by decide +kernel, by decide +kernel⟩
end
end Mine
end
section
open PySem PySem.W PyProof.Rows PySem.Calls
set_option Elab.async false
set_option maxRecDepth 100000
set_option linter.unusedVariables false
namespace Mine
/-- a mark: the walker leaves items and slices alone -/
inductive NoSl : Prop | mk
theorem not_hid {h : Heap} {Hs : List Addr} {b : Addr} {o : Obj} (e : (hideAll h Hs).get? b = some o) : b ∉ Hs := fun hm => by rw [hideAll_none Hs hm] at e; cases e
theorem vis_keeps {h h' : Heap} {Hs : List Addr} (k : Keeps h h') : Keeps (hideAll h Hs) (hideAll h' Hs) := fun _ _ e => hideAll_get Hs (k _ _ (of_hideAll Hs e)) (not_hid e)
theorem vis_to {h h' : Heap} {Hs Hs' : List Addr} (k : ∀ b o, b ∉ Hs → h.get? b = some o → h'.get? b = some o) (hs : ∀ b ∈ Hs', b ∈ Hs ∨ h.get? b = none) : Keeps (hideAll h Hs) (hideAll h' Hs') := by
  intro b o e
  have e0 := of_hideAll Hs e
  refine hideAll_get Hs' (k b o (not_hid e) e0) fun hm => ?_
  rcases hs b hm with h1 | h1
  · exact not_hid e h1
  · rw [h1] at e0; cases e0
theorem vis_self {h : Heap} {Hs : List Addr} : Keeps (hideAll h Hs) h := fun _ _ e => of_hideAll Hs e
theorem none_ge {h : Heap} {b : Addr} (hb : h.objs.size ≤ b) : h.get? b = none := by
  cases e : h.get? b with
  | none => rfl
  | some o => exact absurd (Heap.lt_size e) (Nat.not_lt.mpr hb)
theorem Gd.keeps' {w : World} {mean : ExcName → Option Value} {mg mb : Str → Option Value} {h h' : Heap} (G : Gd w mean mg mb h) (k : Keeps h h') : Gd w mean mg mb h' := G.keeps k
/-- the variables of an environment, cells and locals alike -/
structure Vars (env : Env) (h : Heap) (m : List (Str × Value)) : Prop where
  ns : ∃ ml, h.Ns env.locals ml ∧ ∀ x v, env.kindOf x = some .local → m.lookup x = some v → ml x = some v
  cl : ∀ x c, env.cells.lookup x = some c → env.kindOf x ≠ some .local → ∃ v0, h.IsCell c v0 ∧ ∀ v, m.lookup x = some v → v0 = some v
  apart : (env.locals :: env.cells.map (·.2)).Nodup
  live : ∀ b ∈ env.locals :: env.cells.map (·.2), ∃ o, h.get? b = some o
theorem Vars.keeps {env : Env} {h h' : Heap} {m : List (Str × Value)} (V : Vars env h m) (k : Keeps h h') : Vars env h' m :=
  ⟨let ⟨ml, n, e⟩ := V.ns; ⟨ml, n.keeps k, e⟩, fun x c hl hk => let ⟨v0, hc, q⟩ := V.cl x c hl hk; ⟨v0, hc.keeps k, q⟩, V.apart, fun b hb => let ⟨o, e⟩ := V.live b hb; ⟨o, k _ _ e⟩⟩
theorem Vars.less {env : Env} {h : Heap} {m m' : List (Str × Value)} (V : Vars env h m) (k : ∀ x v, m'.lookup x = some v → m.lookup x = some v) : Vars env h m' :=
  ⟨let ⟨ml, n, e⟩ := V.ns; ⟨ml, n, fun x v hx hv => e x v hx (k x v hv)⟩, fun x c hl hk => let ⟨v0, hc, q⟩ := V.cl x c hl hk; ⟨v0, hc, fun v hv => q v (k x v hv)⟩, V.apart, V.live⟩
theorem less_of {m m' : List (Str × Value)} (k : ∀ p ∈ m', m.lookup p.1 = some p.2) : ∀ x v, m'.lookup x = some v → m.lookup x = some v := fun x v h => k (x, v) (mem_of_lookup h)
theorem Vars.setAt {env : Env} {h h' : Heap} {m : List (Str × Value)} (V : Vars env h m) {D : Addr} (hD : D ∉ env.locals :: env.cells.map (·.2)) (hs : ∀ b o, b ≠ D → h.get? b = some o → h'.get? b = some o) : Vars env h' m := by
  refine ⟨let ⟨ml, n, e⟩ := V.ns; ⟨ml, n.at' fun o e' => hs _ o (fun q => hD (q ▸ List.mem_cons_self)) e', e⟩, fun x c hl hk => ?_, V.apart, fun b hb => let ⟨o, e⟩ := V.live b hb; ⟨o, hs b o (fun q => hD (q ▸ hb)) e⟩⟩
  obtain ⟨v0, ⟨o, ho, hd⟩, q⟩ := V.cl x c hl hk
  exact ⟨v0, ⟨o, hs _ o (fun q => hD (q ▸ List.mem_cons_of_mem _ (List.mem_map.mpr ⟨_, mem_of_lookup hl, rfl⟩))) ho, hd⟩, q⟩
theorem look_cons {m : List (Str × Value)} {x y : Str} {v : Value} : ((x, v) :: m).lookup y = if y = x then some v else m.lookup y := by
  rw [List.lookup_cons]
  by_cases h : y = x
  · subst h; simp
  · have : (y == x) = false := by simpa using h
    rw [this, if_neg h]
theorem Vars.setL {env : Env} {h h' : Heap} {m : List (Str × Value)} {ml : Str → Option Value} {x : Str} {v : Value} (V : Vars env h m) (hx : env.kindOf x = some .local) (hml : ∀ x v, env.kindOf x = some .local → m.lookup x = some v → ml x = some v)
    (hn : h'.Ns env.locals (fun y => if y = x then some v else ml y)) (hs : Heap.SameBut env.locals h h') : Vars env h' ((x, v) :: m) := by
  refine ⟨⟨_, hn, fun y u hy hu => ?_⟩, fun y c hl hk => ?_, V.apart, fun b hb => ?live⟩
  case live =>
    by_cases q : b = env.locals
    · rw [q]; obtain ⟨o, _, _, e, _⟩ := hn; exact ⟨o, e⟩
    · obtain ⟨o, e⟩ := V.live b hb; exact ⟨o, hs.extBut b o q e⟩
  · show (if y = x then some v else ml y) = _
    rw [look_cons] at hu
    split
    · rename_i e; rw [if_pos e] at hu; exact hu
    · rename_i e; rw [if_neg e] at hu; exact hml y u hy hu
  · have hyx : y ≠ x := fun q => hk (q ▸ hx)
    obtain ⟨v0, ⟨o, ho, hd⟩, q⟩ := V.cl y c hl hk
    refine ⟨v0, ⟨o, hs.extBut _ o (fun q => ?_) ho, hd⟩, fun u hu => ?_⟩
    · exact (List.nodup_cons.mp V.apart).1 (q ▸ List.mem_map.mpr ⟨_, mem_of_lookup hl, rfl⟩)
    · rw [look_cons, if_neg hyx] at hu; exact q u hu
theorem apart_names : ∀ {cs : List (Str × Addr)} {n n' : Str} {c : Addr}, (cs.map (·.2)).Nodup → (n, c) ∈ cs → (n', c) ∈ cs → n = n'
  | x :: r, n, n', c, hp, h, h' => by
    rw [List.map_cons, List.nodup_cons] at hp
    rcases List.mem_cons.mp h with e | h <;> rcases List.mem_cons.mp h' with e' | h'
    · rw [← e'] at e; exact (Prod.mk.inj e).1
    · exact absurd (List.mem_map.mpr ⟨_, h', by rw [← e]⟩) hp.1
    · exact absurd (List.mem_map.mpr ⟨_, h, by rw [← e']⟩) hp.1
    · exact apart_names hp.2 h h'
theorem Vars.setC {env : Env} {h h' : Heap} {m : List (Str × Value)} {x : Str} {c : Addr} {v : Value} (V : Vars env h m) (hx : env.kindOf x = some .cell) (hc : env.cells.lookup x = some c)
    (hn : h'.IsCell c (some v)) (hs : Heap.SameBut c h h') : Vars env h' ((x, v) :: m) := by
  have hm : (x, c) ∈ env.cells := mem_of_lookup hc
  obtain ⟨hL, hp⟩ := List.nodup_cons.mp V.apart
  refine ⟨?_, fun y c' hl hk => ?_, V.apart, fun b hb => ?live⟩
  case live =>
    by_cases q : b = c
    · rw [q]; obtain ⟨o, e, _⟩ := hn; exact ⟨o, e⟩
    · obtain ⟨o, e⟩ := V.live b hb; exact ⟨o, hs.extBut b o q e⟩
  · obtain ⟨ml, n, e⟩ := V.ns
    refine ⟨ml, n.at' fun o e' => hs.extBut _ o (fun q => hL (q ▸ List.mem_map.mpr ⟨_, hm, rfl⟩)) e', fun y u hy hu => ?_⟩
    have hyx : y ≠ x := fun q => by rw [q, hx] at hy; cases hy
    rw [look_cons, if_neg hyx] at hu; exact e y u hy hu
  · by_cases hyx : y = x
    · subst hyx
      rw [hc] at hl; cases hl
      exact ⟨_, hn, fun u hu => by rw [look_cons, if_pos rfl] at hu; exact hu⟩
    · obtain ⟨v0, ⟨o, ho, hd⟩, q⟩ := V.cl y c' hl hk
      exact ⟨v0, ⟨o, hs.extBut _ o (fun q => hyx (apart_names hp (mem_of_lookup hl) (q ▸ hm))) ho, hd⟩, fun u hu => by rw [look_cons, if_neg hyx] at hu; exact q u hu⟩
/-- the top of a call: what is seen, what is hidden -/
structure Cx (w : World) (mean : ExcName → Option Value) (mg mb : Str → Option Value) (Hs : List Addr) (h : Heap) : Prop where
  gd : Gd w mean mg mb (hideAll h Hs)
  live : ∀ b ∈ Hs, ∃ o, h.get? b = some o
  nd : Hs.Nodup
abbrev ownOf (env : Env) : List Addr := env.locals :: env.cells.map (·.2)
abbrev Mu := List (Addr × (Obj → Prop))
structure Sx (w : World) (mean : ExcName → Option Value) (mg mb : Str → Option Value) (g₀ : Heap) (Hs : List Addr) (env : Env) (ow : List Addr) (m : List (Str × Value)) (mu : Mu) (h : Heap) : Prop where
  base : Keeps g₀ h
  cx : Cx w mean mg mb Hs h
  vars : Vars env h m
  own : ∀ p ∈ mu, ∃ o, h.get? p.1 = some o ∧ p.2 o
  wr : ∀ b ∈ ow ++ mu.map (·.1), b ∈ Hs ∧ g₀.get? b = none
  nd : (ow ++ mu.map (·.1)).Nodup
section
variable {w : World} {mean : ExcName → Option Value} {mg mb : Str → Option Value} {A : Around} {E : Value → Shared → Prop} {s : Shared} {g₀ h h' : Heap} {Hs : List Addr} {env : Env} {ow : List Addr} {m : List (Str × Value)} {mu : Mu}
  {x : Str} {pos : Pos} {v : Value} {D : Addr} {P P' : Obj → Prop} {o : Obj}
theorem Cx.keeps (C : Cx w mean mg mb Hs h) (k : Keeps h h') : Cx w mean mg mb Hs h' := ⟨C.gd.keeps (vis_keeps k), fun b hb => let ⟨o, e⟩ := C.live b hb; ⟨o, k _ _ e⟩, C.nd⟩
theorem Cx.fresh (C : Cx w mean mg mb Hs h) (hD : h.get? D = none) : D ∉ Hs := fun hm => by obtain ⟨o, e⟩ := C.live D hm; rw [hD] at e; cases e
theorem Cx.more (C : Cx w mean mg mb Hs h) (k : Keeps h h') {Ds : List Addr} (hD : ∀ b ∈ Ds, h.get? b = none) (hl : ∀ b ∈ Ds, ∃ o, h'.get? b = some o) (hn : Ds.Nodup) : Cx w mean mg mb (Ds ++ Hs) h' ∧ Keeps (hideAll h Hs) (hideAll h' (Ds ++ Hs)) := by
  have kk : Keeps (hideAll h Hs) (hideAll h' (Ds ++ Hs)) := vis_to (fun b o _ e => k b o e) fun b hb => by
    rcases List.mem_append.mp hb with h1 | h1
    · exact .inr (hD b h1)
    · exact .inl h1
  refine ⟨⟨C.gd.keeps kk, fun b hb => ?_, ?_⟩, kk⟩
  · rcases List.mem_append.mp hb with h1 | h1
    · exact hl b h1
    · obtain ⟨o, e⟩ := C.live b h1; exact ⟨o, k _ _ e⟩
  · exact List.nodup_append.mpr ⟨hn, C.nd, fun a ha b hb q => C.fresh (hD a ha) (q ▸ hb)⟩
theorem Sx.keeps (S : Sx w mean mg mb g₀ Hs env ow m mu h) (k : Keeps h h') : Sx w mean mg mb g₀ Hs env ow m mu h' :=
  ⟨S.base.trans k, S.cx.keeps k, S.vars.keeps k, fun p hp => let ⟨o, e, q⟩ := S.own p hp; ⟨o, k _ _ e, q⟩, S.wr, S.nd⟩
theorem Sx.fresh (S : Sx w mean mg mb g₀ Hs env ow m mu h) (hD : h.get? D = none) : D ∉ Hs := S.cx.fresh hD
/-- a new object of my own, to be changed later -/
theorem Sx.made (S : Sx w mean mg mb g₀ Hs env ow m mu h) (hD : h.get? D = none) (k : Keeps h h') (ho : h'.get? D = some o) (hP : P o) :
    Sx w mean mg mb g₀ (D :: Hs) env ow m ((D, P) :: mu) h' ∧ Keeps (hideAll h Hs) (hideAll h' (D :: Hs)) := by
  obtain ⟨C, kk⟩ := S.cx.more k (Ds := [D]) (by simpa using hD) (by simpa using ⟨o, ho⟩) (by simp)
  have hDw : D ∉ ow ++ mu.map (·.1) := fun hm => S.fresh hD (S.wr D hm).1
  refine ⟨⟨S.base.trans k, C, S.vars.keeps k, fun p hp => ?_, fun b hb => ?_, ?_⟩, kk⟩
  · rcases List.mem_cons.mp hp with rfl | hp
    · exact ⟨o, ho, hP⟩
    · obtain ⟨o, e, q⟩ := S.own p hp; exact ⟨o, k _ _ e, q⟩
  · have : b = D ∨ b ∈ ow ++ mu.map (·.1) := by
      rcases List.mem_append.mp hb with h1 | h1
      · exact .inr (List.mem_append_left _ h1)
      · rcases List.mem_cons.mp h1 with h1 | h1
        · exact .inl h1
        · exact .inr (List.mem_append_right _ h1)
    rcases this with rfl | h1
    · refine ⟨List.mem_cons_self, ?_⟩
      cases e : g₀.get? b with
      | none => rfl
      | some o => rw [S.base b o e] at hD; cases hD
    · exact ⟨List.mem_cons_of_mem _ (S.wr b h1).1, (S.wr b h1).2⟩
  · rw [List.map_cons]
    exact (List.perm_middle.nodup_iff).mpr (List.nodup_cons.mpr ⟨hDw, S.nd⟩)
theorem Sx.perm {mu' : Mu} (S : Sx w mean mg mb g₀ Hs env ow m mu h) (hp : mu.Perm mu') : Sx w mean mg mb g₀ Hs env ow m mu' h :=
  ⟨S.base, S.cx, S.vars, fun p hm => S.own p (hp.mem_iff.mpr hm), fun b hb => S.wr b (((hp.map (·.1)).append_left ow).mem_iff.mpr hb), (((hp.map (·.1)).append_left ow).nodup_iff).mp S.nd⟩
theorem Sx.permH {Hs' : List Addr} (S : Sx w mean mg mb g₀ Hs env ow m mu h) (hp : Hs.Perm Hs') : Sx w mean mg mb g₀ Hs' env ow m mu h ∧ Keeps (hideAll h Hs) (hideAll h Hs') :=
  have kk : Keeps (hideAll h Hs) (hideAll h Hs') := vis_to (fun _ _ _ e => e) fun b hb => .inl (hp.mem_iff.mpr hb)
  ⟨⟨S.base, ⟨S.cx.gd.keeps kk, fun b hb => S.cx.live b (hp.mem_iff.mpr hb), hp.nodup_iff.mp S.cx.nd⟩, S.vars, S.own, fun b hb => ⟨hp.mem_iff.mp (S.wr b hb).1, (S.wr b hb).2⟩, S.nd⟩, kk⟩
/-- an object of my own is done: it can be seen now -/
theorem Sx.done (S : Sx w mean mg mb g₀ (D :: Hs) env ow m ((D, P) :: mu) h) : ∃ o, (hideAll h Hs).get? D = some o ∧ P o ∧ Sx w mean mg mb g₀ Hs env ow m mu h ∧ Keeps (hideAll h (D :: Hs)) (hideAll h Hs) := by
  obtain ⟨o, ho, hP⟩ := S.own (D, P) List.mem_cons_self
  have hDn : D ∉ Hs := (List.nodup_cons.mp S.cx.nd).1
  have kk : Keeps (hideAll h (D :: Hs)) (hideAll h Hs) := vis_to (fun _ _ _ e => e) fun b hb => .inl (List.mem_cons_of_mem _ hb)
  have hnd := S.nd
  rw [List.map_cons] at hnd
  have hnd' := List.nodup_cons.mp ((List.perm_middle.nodup_iff).mp hnd)
  refine ⟨o, hideAll_get Hs ho hDn, hP, ⟨S.base, ⟨S.cx.gd.keeps kk, fun b hb => S.cx.live b (List.mem_cons_of_mem _ hb), (List.nodup_cons.mp S.cx.nd).2⟩, S.vars, fun p hp => S.own p (List.mem_cons_of_mem _ hp), fun b hb => ?_, hnd'.2⟩, kk⟩
  have hb' : b ∈ ow ++ ((D, P) :: mu).map (·.1) := by
    rcases List.mem_append.mp hb with h1 | h1
    · exact List.mem_append_left _ h1
    · exact List.mem_append_right _ (List.mem_cons_of_mem _ h1)
  refine ⟨?_, (S.wr b hb').2⟩
  rcases List.mem_cons.mp (S.wr b hb').1 with q | q
  · exact absurd (q ▸ hb) hnd'.1
  · exact q
theorem okV_cases {env : Env} {x : Str} (h : (match env.kindOf x with | some .local => true | some .cell => (env.cells.lookup x).isSome | some .free => (env.cells.lookup x).isSome | _ => false) = true) :
    env.kindOf x = some .local ∨ ((env.kindOf x = some .cell ∨ env.kindOf x = some .free) ∧ ∃ c, env.cells.lookup x = some c) := by
  split at h
  · exact .inl (by assumption)
  · exact .inr ⟨.inl (by assumption), Option.isSome_iff_exists.mp h⟩
  · exact .inr ⟨.inr (by assumption), Option.isSome_iff_exists.mp h⟩
  · cases h
theorem ldV {Q : Value → Shared → Prop} (S : Sx w mean mg mb g₀ Hs env ow m mu s.heap) (hv : m.lookup x = some v) (h : Q v s) (hk : env.scope.kind = .function)
    (hl : (match env.kindOf x with | some .local => true | some .cell => (env.cells.lookup x).isSome | some .free => (env.cells.lookup x).isSome | _ => false) = true)
    (hd : (x == ("__debug__" : Str)) = false) (hc : (x == ("__classdict__" : Str)) = false) : wpAny (model pw w) A (eval (.Name x pos) env) Q E s := by
  refine wpAny_Name ?_ hd
  rcases okV_cases hl with h1 | ⟨h1, c, h2⟩
  · obtain ⟨ml, n, e⟩ := S.vars.ns
    exact wpAny_loadName_local hk h1 n (e x v h1 hv) h
  · obtain ⟨v0, hcell, q⟩ := S.vars.cl x c h2 (by rcases h1 with h1 | h1 <;> rw [h1] <;> simp)
    rw [q v hv] at hcell
    rcases h1 with h1 | h1
    · exact wpAny_loadName_cell hk h1 h2 hcell h
    · exact wpAny_loadName_free hk h1 h2 hcell h hc
theorem glV {Q : Value → Shared → Prop} (e : IsGl x v) (S : Sx w mean mg mb g₀ Hs env ow m mu s.heap) (h : Q v s) (hk : env.scope.kind = .function) (hx : env.kindOf x = some .globalImplicit) (hg : env.globals = mainGlobals) :
    wpAny (model pw w) A (eval (.Name x pos) env) Q E s :=
  Name_function_global hk hx (loadGlobal_global (hg ▸ (topRead_of S.cx.gd.T).g.keeps vis_self) (mg_of S.cx.gd.X (topRead_of S.cx.gd.T).g (e.1 _)) h) e.2
theorem biV {Q : Value → Shared → Prop} (e : IsBi x v) (S : Sx w mean mg mb g₀ Hs env ow m mu s.heap) (h : Q v s) (hk : env.scope.kind = .function) (hx : env.kindOf x = some .globalImplicit) (hg : env.globals = mainGlobals) (hb : env.builtins = builtinsNs) :
    wpAny (model pw w) A (eval (.Name x pos) env) Q E s :=
  Name_function_global hk hx (loadGlobal_builtin (hg ▸ (topRead_of S.cx.gd.T).g.keeps vis_self) (mg_none_of S.cx.gd.X (topRead_of S.cx.gd.T).g (e.1 _)) (hb ▸ (topRead_of S.cx.gd.T).b.keeps vis_self)
    (((topRead_of S.cx.gd.T).builtins x e.2.2.2).trans e.2.1) h) e.2.2.1
theorem Sx.setAny (S : Sx w mean mg mb g₀ Hs env ow m mu h) (hD : D ∈ ow) {m' : List (Str × Value)} (V : Vars env h' m') (ho : ∃ o, h'.get? D = some o) (hs : Heap.SameBut D h h') :
    Sx w mean mg mb g₀ Hs env ow m' mu h' ∧ Keeps (hideAll h Hs) (hideAll h' Hs) := by
  have hDw := S.wr D (List.mem_append_left _ hD)
  have kk : Keeps (hideAll h Hs) (hideAll h' Hs) := vis_to (fun b o hb e => hs.extBut b o (fun q => hb (q ▸ hDw.1)) e) fun b hb => .inl hb
  refine ⟨⟨fun b o e => hs.extBut b o (fun q => ?_) (S.base b o e), ⟨S.cx.gd.keeps kk, fun b hb => ?_, S.cx.nd⟩, V, fun p hp => ?_, S.wr, S.nd⟩, kk⟩
  · rw [q, hDw.2] at e; cases e
  · by_cases hb' : b = D
    · subst hb'; exact ho
    · obtain ⟨o, e⟩ := S.cx.live b hb; exact ⟨o, hs.extBut b o hb' e⟩
  · obtain ⟨o, e, q⟩ := S.own p hp
    exact ⟨o, hs.extBut _ o (fun q => (List.nodup_append.mp S.nd).2.2 _ hD _ (List.mem_map.mpr ⟨p, hp, rfl⟩) q.symm) e, q⟩
abbrev stOk (env : Env) (x : Str) : Bool := match env.kindOf x with | some .local => true | some .cell => (env.cells.lookup x).isSome | _ => false
noncomputable def whereIs (env : Env) (x : Str) : Option Addr := match env.kindOf x with | some .local => some env.locals | some .cell => env.cells.lookup x | _ => none
theorem stW {Q : Unit → Shared → Prop} (S : Sx w mean mg mb g₀ Hs env ow m mu s.heap) (hw : whereIs env x = some D) (hD : D ∈ ow)
    (h : ∀ h' tk, Sx w mean mg mb g₀ Hs env ow ((x, v) :: m) mu h' → Keeps (hideAll s.heap Hs) (hideAll h' Hs) → Q () { s with heap := h', toks := tk }) (hk : env.scope.kind = .function) :
    wpAny (model pw w) A (storeName env x v) Q E s := by
  unfold whereIs at hw
  split at hw
  · rename_i hx
    cases hw
    obtain ⟨ml, n, e⟩ := S.vars.ns
    refine wpAny_storeName_local hx n (fun h' hn hs => ?_) (by rw [hk]; rfl)
    have hD' : ∃ o, h'.get? env.locals = some o := let ⟨o, _, _, e, _⟩ := hn; ⟨o, e⟩
    obtain ⟨S', kk⟩ := S.setAny hD (S.vars.setL hx e hn hs) hD' hs
    exact h h' _ S' kk
  · rename_i hx
    obtain ⟨v0, hcell, _⟩ := S.vars.cl x D hw (by rw [hx]; simp)
    refine wpAny_storeName_cell hk hx hw hcell fun h' hn hs => ?_
    have hD' : ∃ o, h'.get? D = some o := let ⟨o, e, _⟩ := hn; ⟨o, e⟩
    obtain ⟨S', kk⟩ := S.setAny hD (S.vars.setC hx hw hn hs) hD' hs
    exact h h' _ S' kk
  · cases hw
theorem stOk_where {env : Env} {x : Str} (h : stOk env x = true) : ∃ D, whereIs env x = some D ∧ D ∈ ownOf env := by
  unfold stOk at h
  unfold whereIs
  split at h
  · exact ⟨_, rfl, List.mem_cons_self⟩
  · skip
    obtain ⟨c, hc⟩ := Option.isSome_iff_exists.mp h
    exact ⟨c, hc, List.mem_cons_of_mem _ (List.mem_map.mpr ⟨_, mem_of_lookup hc, rfl⟩)⟩
  · cases h
theorem stV {Q : Unit → Shared → Prop} (S : Sx w mean mg mb g₀ Hs env (ownOf env) m mu s.heap)
    (h : ∀ h' tk, Sx w mean mg mb g₀ Hs env (ownOf env) ((x, v) :: m) mu h' → Keeps (hideAll s.heap Hs) (hideAll h' Hs) → Q () { s with heap := h', toks := tk }) (hk : env.scope.kind = .function)
    (hl : stOk env x = true) : wpAny (model pw w) A (storeName env x v) Q E s :=
  let ⟨D, hw, hD⟩ := stOk_where hl; stW S hw hD h hk
theorem Sx.less {m' : List (Str × Value)} (S : Sx w mean mg mb g₀ Hs env ow m mu h) (k : ∀ p ∈ m', m.lookup p.1 = some p.2) : Sx w mean mg mb g₀ Hs env ow m' mu h :=
  ⟨S.base, S.cx, S.vars.less (less_of k), S.own, S.wr, S.nd⟩
end
end Mine
end
section
open PySem PySem.W PyProof.Rows PySem.Calls
set_option Elab.async false
set_option maxRecDepth 100000
set_option linter.unusedVariables false
namespace Mine
theorem bindC_loc {k : Str → Option NameKind} : ∀ {binds : List (Str × Value)} {m : Str → Option Value}, (∀ y ∈ binds, k y.1 = some .local) → bindC k binds m = m
  | [], m, _ => rfl
  | (n, v) :: r, m, h => by
    rw [bindC, if_pos (h (n, v) List.mem_cons_self)]
    exact bindC_loc fun y hy => h y (List.mem_cons_of_mem _ hy)
theorem bindL_loc {k : Str → Option NameKind} : ∀ {binds : List (Str × Value)} {m : Str → Option Value}, (∀ y ∈ binds, k y.1 = some .local) → ∀ y, bindL k binds m y = (binds.reverse.lookup y).or (m y)
  | [], m, _, y => rfl
  | (n, v) :: r, m, h, y => by
    rw [bindL, if_pos (h (n, v) List.mem_cons_self), bindL_loc (fun y hy => h y (List.mem_cons_of_mem _ hy)), List.reverse_cons, List.lookup_append]
    cases hr : r.reverse.lookup y with
    | some u => rfl
    | none =>
      simp only [Option.none_or, List.lookup_cons, List.lookup_nil]
      by_cases hy : y = n
      · subst hy; simp
      · have : (y == n) = false := by simpa using hy
        rw [if_neg hy, this]; rfl
section
variable {w : World} {mean : ExcName → Option Value} {mg mb : Str → Option Value} {A : Around} {E : Value → Shared → Prop} {s : Shared} {g₀ h h' : Heap} {Hs : List Addr}
theorem codeCE {R : Result → Shared → Prop} {f : Addr} {args : List Value} {binds : List (Str × Value)} {name qual : Str} {params : Arguments} {body : List Stmt} {scope : Scope} {dV kV doc pm cdv ct oc : Value} {an od : Option Addr} {osl : Array (Option Value)}
    (C : Cx w mean mg mb Hs s.heap) (hroom : A.depth < recursionLimit)
    (ho : (K w.params).lookup f = some ⟨oc, od, .func (fnOf name qual params body scope dV kV doc pm an cdv ct), osl⟩) (hcd : codeIn (K w.params) cdv qual = true)
    (hbind : BindsTo s (fnOf name qual params body scope dV kV doc pm an cdv ct) ⟨args, []⟩ binds) (hloc : ∀ y ∈ binds, scope.names.lookup y.1 = some .local)
    (hnd : ((cellsFrom 0 scope.names []).map (·.1)).Nodup) (hco : scope.isCoroutine = false) (hgen : scope.isGenerator = false) (hk : scope.kind = .function)
    (h : ∀ L h₁ tk, L = s.heap.objs.size → Sx w mean mg mb s.heap (ownOf (envX qual scope L f cdv (cellsFrom (L + 1) scope.names [])) ++ Hs) (envX qual scope L f cdv (cellsFrom (L + 1) scope.names [])) (ownOf (envX qual scope L f cdv (cellsFrom (L + 1) scope.names []))) binds.reverse [] h₁ →
      Keeps (hideAll s.heap Hs) (hideAll h₁ (ownOf (envX qual scope L f cdv (cellsFrom (L + 1) scope.names [])) ++ Hs)) →
      wpAny (model pw w) (A.deeper (envX qual scope L f cdv (cellsFrom (L + 1) scope.names []))) (execs body (envX qual scope L f cdv (cellsFrom (L + 1) scope.names []))) (fun fl s' => R (.ok (.ret (match fl with | .ret v => v | _ => .none))) s')
        (fun e s' => wpAny (model pw w) (A.deeper (envX qual scope L f cdv (cellsFrom (L + 1) scope.names []))) («leaving» (envX qual scope L f cdv (cellsFrom (L + 1) scope.names [])) e) (fun _ s'' => R (.error e) s'') (fun e' s'' => R (.error e') s'') s')
        { s with heap := h₁, toks := tk }) :
    codeAny (model pw w) A (.call (.ref f) ⟨args, []⟩) R s := by
  have hof : s.heap.get? f = some ⟨oc, od, .func (fnOf name qual params body scope dV kV doc pm an cdv ct), osl⟩ := vis_self _ _ (C.gd.X _ _ ho)
  have hcr : s.heap.CodeRec cdv qual := (codeRec_of C.gd.X hcd).keeps vis_self
  refine codeAny_call_function hroom hof rfl hco hgen rfl hcr (hbind _ _ _ _ ?_)
  refine wpAny_newFunctionEnv_cells hk (fun y hy => .inl (hloc y hy)) fun env' he s' x => ?_
  subst he
  have hk₁ := x.toInCall.keep
  refine ⟨(C.gd.T.nolimit.keeps vis_self).keeps hk₁, codeAny_func ?_⟩
  obtain ⟨h₁, tk, rfl, _⟩ := x.done
  have hloc' : ∀ y ∈ binds, (envX qual scope s.heap.objs.size f cdv (cellsFrom (s.heap.objs.size + 1) scope.names [])).kindOf y.1 = some .local := hloc
  have hapart : (ownOf (envX qual scope s.heap.objs.size f cdv (cellsFrom (s.heap.objs.size + 1) scope.names []))).Nodup := by
    refine List.nodup_cons.mpr ⟨fun hm => ?_, ?_⟩
    · obtain ⟨p, hp, e⟩ := List.mem_map.mp hm
      have h2 : s.heap.objs.size < p.2 := x.above p.1 p.2 hp
      rw [e] at h2
      exact Nat.lt_irrefl _ h2
    · exact List.pairwise_map.mpr x.apart
  have hfresh : ∀ b ∈ ownOf (envX qual scope s.heap.objs.size f cdv (cellsFrom (s.heap.objs.size + 1) scope.names [])), s.heap.get? b = none := fun b hb => by
    rcases List.mem_cons.mp hb with rfl | hb
    · exact none_ge (Nat.le_refl _)
    · obtain ⟨p, hp, rfl⟩ := List.mem_map.mp hb
      exact none_ge (Nat.le_of_lt (x.above p.1 p.2 hp))
  have hlive : ∀ b ∈ ownOf (envX qual scope s.heap.objs.size f cdv (cellsFrom (s.heap.objs.size + 1) scope.names [])), ∃ o, h₁.get? b = some o := fun b hb => by
    rcases List.mem_cons.mp hb with rfl | hb
    · obtain ⟨o, _, _, e, _⟩ := x.toInCall.ns; exact ⟨o, e⟩
    · obtain ⟨p, hp, rfl⟩ := List.mem_map.mp hb
      obtain ⟨o, e, _⟩ := x.cell p.1 p.2 (lookup_of_mem_nodup (cellsFrom_names scope.names 0 (s.heap.objs.size + 1) [] [] rfl ▸ hnd) hp)
      exact ⟨o, e⟩
  have V : Vars (envX qual scope s.heap.objs.size f cdv (cellsFrom (s.heap.objs.size + 1) scope.names [])) h₁ binds.reverse := by
    refine ⟨⟨_, x.toInCall.ns, fun y u hy hu => ?_⟩, fun y c hc hky => ?_, hapart, hlive⟩
    · have h1 := bindL_loc (m := fun _ => none) hloc' y
      rw [Option.or_none] at h1
      exact h1.trans hu
    · have h1 := x.cell y c hc
      have h2 : bindC (envX qual scope s.heap.objs.size f cdv (cellsFrom (s.heap.objs.size + 1) scope.names [])).kindOf binds (fun _ => none) y = none := by rw [bindC_loc hloc']
      have h3 : binds.reverse.lookup y = none := by
        cases q : binds.reverse.lookup y with
        | none => rfl
        | some u => exact absurd (hloc' _ (List.mem_reverse.mp (mem_of_lookup q))) hky
      exact ⟨_, h1, fun u hu => by rw [h3] at hu; cases hu⟩
  obtain ⟨C', kk⟩ := C.more hk₁ hfresh hlive hapart
  have hwr : ∀ b ∈ ownOf (envX qual scope s.heap.objs.size f cdv (cellsFrom (s.heap.objs.size + 1) scope.names [])) ++ (([] : Mu).map (·.1)), b ∈ ownOf (envX qual scope s.heap.objs.size f cdv (cellsFrom (s.heap.objs.size + 1) scope.names [])) ++ Hs ∧ s.heap.get? b = none := fun b hb => by
    rw [List.map_nil, List.append_nil] at hb
    exact ⟨List.mem_append_left _ hb, hfresh b hb⟩
  exact h _ h₁ tk rfl ⟨hk₁, C', V, fun p hp => (by cases hp), hwr, by rw [List.map_nil, List.append_nil]; exact hapart⟩ kk
theorem codeSE {Q : Value → Shared → Prop} {f : Addr} {args : List Value} {binds : List (Str × Value)} {name qual : Str} {params : Arguments} {body : List Stmt} {scope : Scope} {dV kV doc pm cdv ct oc : Value} {an od : Option Addr} {osl : Array (Option Value)}
    (C : Cx w mean mg mb Hs s.heap) (hroom : A.depth < recursionLimit)
    (ho : (K w.params).lookup f = some ⟨oc, od, .func (fnOf name qual params body scope dV kV doc pm an cdv ct), osl⟩) (hcd : codeIn (K w.params) cdv qual = true)
    (hbind : BindsTo s (fnOf name qual params body scope dV kV doc pm an cdv ct) ⟨args, []⟩ binds) (hloc : ∀ y ∈ binds, scope.names.lookup y.1 = some .local)
    (hnd : ((cellsFrom 0 scope.names []).map (·.1)).Nodup) (hco : scope.isCoroutine = false) (hgen : scope.isGenerator = false) (hk : scope.kind = .function)
    (h : ∀ L h₁ tk, L = s.heap.objs.size → Sx w mean mg mb s.heap (ownOf (envX qual scope L f cdv (cellsFrom (L + 1) scope.names [])) ++ Hs) (envX qual scope L f cdv (cellsFrom (L + 1) scope.names [])) (ownOf (envX qual scope L f cdv (cellsFrom (L + 1) scope.names []))) binds.reverse [] h₁ →
      Keeps (hideAll s.heap Hs) (hideAll h₁ (ownOf (envX qual scope L f cdv (cellsFrom (L + 1) scope.names [])) ++ Hs)) →
      wpAny (model pw w) (A.deeper (envX qual scope L f cdv (cellsFrom (L + 1) scope.names []))) (execs body (envX qual scope L f cdv (cellsFrom (L + 1) scope.names []))) (fun fl s' => Q (match fl with | .ret v => v | _ => .none) s')
        (fun e s' => wpAny (model pw w) (A.deeper (envX qual scope L f cdv (cellsFrom (L + 1) scope.names []))) («leaving» (envX qual scope L f cdv (cellsFrom (L + 1) scope.names [])) e) (fun _ s'' => E e s'') (fun e' s'' => E e' s'') s')
        { s with heap := h₁, toks := tk }) :
    wpAny (model pw w) A (call (.ref f) args) Q E s :=
  wpAny_call (codeCE C hroom ho hcd hbind hloc hnd hco hgen hk h)
noncomputable def IsEnv (env e : Env) : Prop := env = e
theorem IsEnv.eq {env e : Env} (h : IsEnv env e) : env = e := h
theorem codeS {Q : Value → Shared → Prop} {f : Addr} {args : List Value} {binds : List (Str × Value)} {name qual : Str} {params : Arguments} {body : List Stmt} {scope : Scope} {dV kV doc pm cdv ct oc : Value} {an od : Option Addr} {osl : Array (Option Value)}
    (C : Cx w mean mg mb Hs s.heap) (hroom : A.depth < recursionLimit)
    (ho : (K w.params).lookup f = some ⟨oc, od, .func (fnOf name qual params body scope dV kV doc pm an cdv ct), osl⟩) (hcd : codeIn (K w.params) cdv qual = true)
    (hbind : BindsTo s (fnOf name qual params body scope dV kV doc pm an cdv ct) ⟨args, []⟩ binds) (hloc : ∀ y ∈ binds, scope.names.lookup y.1 = some .local)
    (hnd : ((cellsFrom 0 scope.names []).map (·.1)).Nodup) (hco : scope.isCoroutine = false) (hgen : scope.isGenerator = false) (hk : scope.kind = .function)
    (h : ∀ L h₁ tk env, IsEnv env (envX qual scope L f cdv (cellsFrom (L + 1) scope.names [])) → Sx w mean mg mb s.heap (ownOf env ++ Hs) env (ownOf env) binds.reverse [] h₁ →
      Keeps (hideAll s.heap Hs) (hideAll h₁ (ownOf env ++ Hs)) → ∀ A', A' = A.deeper env →
      wpAny (model pw w) A' (execs body env) (fun fl s' => Q (match fl with | .ret v => v | _ => .none) s')
        (fun e s' => False) { s with heap := h₁, toks := tk }) :
    wpAny (model pw w) A (call (.ref f) args) Q E s :=
  codeSE C hroom ho hcd hbind hloc hnd hco hgen hk fun L h₁ tk _ S k => wpAny_noRaise (h L h₁ tk _ rfl S k _ rfl)
/-- what the caller gets back: his own world, the new things seen -/
theorem Sx.back {env : Env} {ow : List Addr} {m : List (Str × Value)} {mu : Mu} {O : List Addr} (S : Sx w mean mg mb g₀ (O ++ Hs) env ow m mu h) : Keeps g₀ h ∧ Keeps (hideAll h (O ++ Hs)) (hideAll h Hs) :=
  ⟨S.base, vis_to (fun _ _ _ e => e) fun b hb => .inl (List.mem_append_right _ hb)⟩
end
end Mine
namespace Mine
noncomputable def gtab : List (Str × Value) := [(Str.ofString "Whitespace", .ref 83), (Str.ofString "_parse_varint", .ref 94), (Str.ofString "b1_set", .ref 102), (Str.ofString "in_table_b1", .ref 112), (Str.ofString "b3_exceptions", .ref 113), (Str.ofString "map_table_b3", .ref 158),
  (Str.ofString "_law_sign", .ref 165), (Str.ofString "_law_prepared", .ref 172), (Str.ofString "_law_longest", .ref 177), (Str.ofString "_law_exchanged", .ref 182), (Str.ofString "_law_leads", .ref 189),
  (Str.ofString "range", .type "range"), (Str.ofString "chr", .builtin "chr"), (Str.ofString "ord", .builtin "ord"), (Str.ofString "len", .builtin "len"), (Str.ofString "min", .builtin "min"), (Str.ofString "max", .builtin "max"),
  (Str.ofString "iter", .builtin "iter"), (Str.ofString "next", .builtin "next"), (Str.ofString "tuple", .type "tuple"), (Str.ofString "StopIteration", .type "StopIteration")]
theorem gtab_ok {x : Str} {v : Value} (h : gtab.lookup x = some v) : IsGl x v ∨ IsBi x v := by
  have hm := mem_of_lookup h
  simp only [gtab, List.mem_cons, List.not_mem_nil, or_false, Prod.mk.injEq] at hm
  rcases hm with ⟨rfl, rfl⟩ | ⟨rfl, rfl⟩ | ⟨rfl, rfl⟩ | ⟨rfl, rfl⟩ | ⟨rfl, rfl⟩ | ⟨rfl, rfl⟩ | ⟨rfl, rfl⟩ | ⟨rfl, rfl⟩ | ⟨rfl, rfl⟩ | ⟨rfl, rfl⟩ | ⟨rfl, rfl⟩ | ⟨rfl, rfl⟩ | ⟨rfl, rfl⟩ | ⟨rfl, rfl⟩ | ⟨rfl, rfl⟩ | ⟨rfl, rfl⟩ | ⟨rfl, rfl⟩ | ⟨rfl, rfl⟩ | ⟨rfl, rfl⟩ | ⟨rfl, rfl⟩ | ⟨rfl, rfl⟩
  · exact .inl gl_Whitespace
  · exact .inl gl_parse_varint
  · exact .inl gl_b1_set
  · exact .inl gl_in_table_b1
  · exact .inl gl_b3_exceptions
  · exact .inl gl_map_table_b3
  · exact .inl gl_law_sign
  · exact .inl gl_law_prepared
  · exact .inl gl_law_longest
  · exact .inl gl_law_exchanged
  · exact .inl gl_law_leads
  · exact .inr bi_range
  · exact .inr bi_chr
  · exact .inr bi_ord
  · exact .inr bi_len
  · exact .inr bi_min
  · exact .inr bi_max
  · exact .inr bi_iter
  · exact .inr bi_next
  · exact .inr bi_tuple
  · exact .inr bi_StopIteration
theorem nmV {w : World} {mean : ExcName → Option Value} {mg mb : Str → Option Value} {A : Around} {E : Value → Shared → Prop} {s : Shared} {g₀ : Heap} {Hs : List Addr} {env : Env} {ow : List Addr} {m : List (Str × Value)} {mu : Mu} {x : Str} {pos : Pos} {v : Value}
    {Q : Value → Shared → Prop} (S : Sx w mean mg mb g₀ Hs env ow m mu s.heap) (e : gtab.lookup x = some v) (h : Q v s) (hk : env.scope.kind = .function) (hx : env.kindOf x = some .globalImplicit) (hg : env.globals = mainGlobals) (hb : env.builtins = builtinsNs) :
    wpAny (model pw w) A (eval (.Name x pos) env) Q E s :=
  (gtab_ok e).elim (fun e => glV e S h hk hx hg) (fun e => biV e S h hk hx hg hb)
/-- the set of the hidden signs -/
noncomputable def b1L : List Int := [173, 847, 6150, 6155, 6156, 6157, 8203, 8204, 8205, 8288, 65279, 65024, 65025, 65026, 65027, 65028, 65029, 65030, 65031, 65032, 65033, 65034, 65035, 65036, 65037, 65038, 65039]
noncomputable def keyI : Value → Int
  | .int n _ => n
  | _ => -1
theorem set_keys {w : World} {es : List (Int × Value)} {l : List Int} (h0 : l.all (fun k => decide (0 ≤ k)) = true) (h1 : ∀ e ∈ es, ∃ n t, e.2 = .int n t) (h2 : es.all (fun e => l.contains (keyI e.2)) = true) (h3 : l.all (fun k => es.any fun e => decide (keyI e.2 = k)) = true) (k : Int) :
    l.contains k = true ↔ ∃ e, e ∈ es ∧ (intKind pw w).is k e.2 = true := by
  constructor
  · intro h
    obtain ⟨e, he, q⟩ := List.any_eq_true.mp (List.all_eq_true.mp h3 k (List.contains_iff_mem.mp h))
    obtain ⟨n, t, hn⟩ := h1 e he
    refine ⟨e, he, ?_⟩
    rw [hn] at q ⊢
    have : n = k := of_decide_eq_true q
    rw [this]
    exact isInt_self k t
  · intro ⟨e, he, q⟩
    obtain ⟨n, t, hn⟩ := h1 e he
    have h := List.all_eq_true.mp h2 e he
    rw [hn] at q h
    have : k = n := (intKind pw w).inj _ _ _ q (isInt_self n t)
    rw [this]
    exact h
theorem b1_set_ {w : World} (P : Params) : Obj.SetObjOf (intKind pw w) (q6_102 P) (fun k => b1L.contains k) 27 := by
  refine ⟨⟨rfl, rfl, rfl⟩, _, _, _, rfl, ?_, ?_, rfl, by kernel_rfl⟩
  · have hI : ∀ (n : Int) (t : Tok), (intKind pw w).is n (.int n t) = true := fun n t => isInt_self n t
    intro e he
    simp only [List.mem_cons, List.not_mem_nil, or_false] at he
    rcases he with rfl | rfl | rfl | rfl | rfl | rfl | rfl | rfl | rfl | rfl | rfl | rfl | rfl | rfl | rfl | rfl | rfl | rfl | rfl | rfl | rfl | rfl | rfl | rfl | rfl | rfl | rfl <;> exact ⟨⟨_, hI _ _, by kernel_rfl⟩, rfl⟩
  · intro k
    refine set_keys (by decide +kernel) (fun e he => ?_) (by kernel_rfl) (by kernel_rfl) k
    simp only [List.mem_cons, List.not_mem_nil, or_false] at he
    rcases he with rfl | rfl | rfl | rfl | rfl | rfl | rfl | rfl | rfl | rfl | rfl | rfl | rfl | rfl | rfl | rfl | rfl | rfl | rfl | rfl | rfl | rfl | rfl | rfl | rfl | rfl | rfl <;> exact ⟨_, _, rfl⟩
end Mine
end
section
open PySem PySem.W PyProof.Rows PySem.Calls
set_option Elab.async false
set_option maxRecDepth 100000
set_option linter.unusedVariables false
namespace Mine
structure Rm (A : Around) (n : Nat) : Prop where
  hh : A.handled = none
  room : A.depth + n < recursionLimit
  un : A.units + 3 * n < cLine
theorem Rm.deeper {A : Around} {n : Nat} (R : Rm A (n + 1)) {env : Env} {A' : Around} (e : A' = A.deeper env) : Rm A' n := by
  subst e; exact ⟨R.hh, by have := R.room; show A.depth + 1 + n < _; omega, by have := R.un; show A.units + 3 + 3 * n < _; omega⟩
theorem Rm.less {A : Around} {n k : Nat} (R : Rm A n) (h : k ≤ n) : Rm A k := ⟨R.hh, by have := R.room; omega, by have := R.un; omega⟩
theorem Rm.at0 {A : Around} {n : Nat} (R : Rm A n) : A.depth < recursionLimit := by have := R.room; omega
noncomputable def listP (vs : List Value) (o : Obj) : Prop := ∃ n, o = { cls := .type "list", dict := none, data := .seq vs.toArray n, slots := #[] }
section
variable {w : World} {mean : ExcName → Option Value} {mg mb : Str → Option Value} {A : Around} {E : Value → Shared → Prop} {s : Shared} {g₀ h h' : Heap} {Hs : List Addr} {env : Env} {ow : List Addr} {m : List (Str × Value)} {mu : Mu}
  {x : Str} {pos : Pos} {v : Value} {D : Addr} {P P' : Obj → Prop} {o : Obj} {Q : Value → Shared → Prop} {vs : List Value}
theorem Sx.getK (S : Sx w mean mg mb g₀ Hs env ow m mu h) {f : Addr} (e : (K w.params).lookup f = some o) : h.get? f = some o := vis_self _ _ (S.cx.gd.X _ _ e)
theorem cwF {M : Model} {f : Addr} {fd : FuncData} {first : List Value} {e : Expr} {rest : List Expr} (hdat : o.data = .func fd)
    (h : wpAny M A (spliced (backTo pos (starEach (e :: rest) env))) (fun vs s₁ => s₁.heap.get? f = some o ∧ wpAny M A (call (.ref f) (first ++ vs)) Q E s₁) E s)
    (he : starEach (e :: rest) env = (false, eval e env) :: starEach rest env) : wpAny M A (callWith pos (.ref f) first (backTo pos (starEach (e :: rest) env)) []) Q E s := by
  rw [he] at h ⊢
  exact Calls.callWith_function (o := o) (fd := fd) (Calls.evalArgs_plain (wpAny_mono h (fun vs s₁ h₁ => ⟨⟨h₁.1, hdat⟩, h₁.2⟩) fun _ _ x => x))
theorem cwF0 {M : Model} {f : Addr} {fd : FuncData} {first : List Value} (hdat : o.data = .func fd) (ho : s.heap.get? f = some o)
    (h : wpAny M A (call (.ref f) first) Q E s) : wpAny M A (callWith pos (.ref f) first (backTo pos (starEach [] env)) []) Q E s := callWith_meth0 hdat ho h
theorem cwB {M : Model} {id : String} {first : List Value} {e : Expr} {rest : List Expr}
    (h : wpAny M A (spliced (backTo pos (starEach (e :: rest) env))) (fun vs s₁ => wpAny M A (call (.builtin id) (first ++ vs)) Q E s₁) E s)
    (he : starEach (e :: rest) env = (false, eval e env) :: starEach rest env) (hplain : (backTo pos (starEach rest env)).any (·.1) = false) :
    wpAny M A (callWith pos (.builtin id) first (backTo pos (starEach (e :: rest) env)) []) Q E s := by
  rw [he] at h ⊢
  exact Calls.callWith_builtin (by show (false || _) = false; rw [Bool.false_or]; exact hplain) (Calls.evalArgs_plain h)
theorem cwB0 {M : Model} {id : String} {first : List Value} (h : wpAny M A (call (.builtin id) first) Q E s) : wpAny M A (callWith pos (.builtin id) first (backTo pos (starEach [] env)) []) Q E s :=
  Calls.callWith_builtin rfl (PyProof.Rows.evalArgs_none (by simpa using h))
/-- a new object, seen -/
theorem Sx.newV (S : Sx w mean mg mb g₀ Hs env ow m mu h) (ho : o.isFreed = false) :
    Sx w mean mg mb g₀ Hs env ow m mu (h.push o) ∧ Keeps (hideAll h Hs) (hideAll (h.push o) Hs) ∧ (hideAll (h.push o) Hs).get? h.objs.size = some o :=
  have k : Keeps h (h.push o) := fun b o' e => Heap.get?_push_of_some _ e
  ⟨S.keeps k, vis_keeps k, hideAll_get Hs (Heap.get?_push_size _ ho) (S.fresh (none_ge (Nat.le_refl _)))⟩
/-- a new object, my own -/
theorem Sx.newM (S : Sx w mean mg mb g₀ Hs env ow m mu h) (ho : o.isFreed = false) (hP : P o) :
    Sx w mean mg mb g₀ (h.objs.size :: Hs) env ow m ((h.objs.size, P) :: mu) (h.push o) ∧ Keeps (hideAll h Hs) (hideAll (h.push o) (h.objs.size :: Hs)) :=
  S.made (none_ge (Nat.le_refl _)) (fun b o' e => Heap.get?_push_of_some _ e) (Heap.get?_push_size _ ho) hP
theorem newListV (S : Sx w mean mg mb g₀ Hs env ow m mu s.heap)
    (h : ∀ D h', Sx w mean mg mb g₀ Hs env ow m mu h' → Keeps (hideAll s.heap Hs) (hideAll h' Hs) → (hideAll h' Hs).PlainList D vs.toArray → Q (.ref D) { s with heap := h' }) (hsz : vs.length ≤ sizeLine) : wpAny (model pw w) A (newList vs) Q E s := by
  obtain ⟨S', k, e⟩ := S.newV (o := { cls := .type "list", data := .seq vs.toArray }) rfl
  exact wpAny_newObj_type (h _ _ S' k ⟨_, e⟩) (by simpa [sizeOk] using hsz)
theorem newListM (S : Sx w mean mg mb g₀ Hs env ow m mu s.heap)
    (h : ∀ D h', Sx w mean mg mb g₀ (D :: Hs) env ow m ((D, listP vs) :: mu) h' → Keeps (hideAll s.heap Hs) (hideAll h' (D :: Hs)) → Q (.ref D) { s with heap := h' }) (hsz : vs.length ≤ sizeLine) : wpAny (model pw w) A (newList vs) Q E s := by
  obtain ⟨S', k⟩ := S.newM (o := { cls := .type "list", data := .seq vs.toArray }) (P := listP vs) rfl ⟨_, rfl⟩
  exact wpAny_newObj_type (h _ _ S' k) (by simpa [sizeOk] using hsz)
theorem newTupV (S : Sx w mean mg mb g₀ Hs env ow m mu s.heap)
    (h : ∀ D h', Sx w mean mg mb g₀ Hs env ow m mu h' → Keeps (hideAll s.heap Hs) (hideAll h' Hs) → IsTup (hideAll h' Hs) D vs.toArray → Q (.ref D) { s with heap := h' }) (hsz : vs.length ≤ sizeLine) : wpAny (model pw w) A (newTuple vs) Q E s := by
  obtain ⟨S', k, e⟩ := S.newV (o := { cls := .type "tuple", data := .seq vs.toArray }) rfl
  exact wpAny_newObj_type (h _ _ S' k ⟨_, e, rfl, _, rfl⟩) (by simpa [sizeOk] using hsz)
end
end Mine
end
section
open PySem PySem.W PyProof.Rows PySem.Calls
set_option Elab.async false
set_option maxRecDepth 100000
set_option linter.unusedVariables false
namespace Mine
section
variable {w : World} {mean : ExcName → Option Value} {mg mb : Str → Option Value} {A : Around} {E : Value → Shared → Prop} {s : Shared} {g₀ h h' : Heap} {Hs : List Addr} {env : Env} {ow : List Addr} {m : List (Str × Value)} {mu : Mu}
  {x : Str} {pos : Pos} {v : Value} {D I : Addr} {P P' : Obj → Prop} {o : Obj} {vs : List Value}
theorem Vars.ext (V : Vars env h m) {D : Addr} (hD : D ∉ ownOf env) (hs : ∀ b o, b ≠ D → h.get? b = some o → h'.get? b = some o) : Vars env h' m := V.setAt hD hs
theorem Sx.head_out (S : Sx w mean mg mb g₀ Hs env ow m ((D, P) :: mu) h) : D ∉ ow ++ mu.map (·.1) := by
  have hnd := S.nd
  rw [List.map_cons] at hnd
  exact (List.nodup_cons.mp ((List.perm_middle.nodup_iff).mp hnd)).1
/-- my own object is changed, all else stays -/
theorem Sx.extG (S : Sx w mean mg mb g₀ Hs env ow m ((D, P) :: mu) h) (hDo : D ∉ ownOf env) (hs : ∀ b o, b ≠ D → h.get? b = some o → h'.get? b = some o) (ho : h'.get? D = some o) (hP : P' o) :
    Sx w mean mg mb g₀ Hs env ow m ((D, P') :: mu) h' ∧ Keeps (hideAll h Hs) (hideAll h' Hs) := by
  have hD := S.wr D (List.mem_append_right _ List.mem_cons_self)
  have kk : Keeps (hideAll h Hs) (hideAll h' Hs) := vis_to (fun b o hb e => hs b o (fun q => hb (q ▸ hD.1)) e) fun b hb => .inl hb
  have hDn := S.head_out
  refine ⟨⟨fun b o e => hs b o (fun q => ?_) (S.base b o e), ⟨S.cx.gd.keeps kk, fun b hb => ?_, S.cx.nd⟩, S.vars.ext hDo hs, fun p hp => ?_, S.wr, S.nd⟩, kk⟩
  · rw [q, hD.2] at e; cases e
  · by_cases hb' : b = D
    · subst hb'; exact ⟨o, ho⟩
    · obtain ⟨o, e⟩ := S.cx.live b hb; exact ⟨o, hs b o hb' e⟩
  · rcases List.mem_cons.mp hp with rfl | hp
    · exact ⟨o, ho, hP⟩
    · obtain ⟨o, e, q⟩ := S.own p (List.mem_cons_of_mem _ hp)
      exact ⟨o, hs _ o (fun q => hDn (List.mem_append_right _ (q ▸ List.mem_map.mpr ⟨p, hp, rfl⟩))) e, q⟩
theorem Sx.ext (S : Sx w mean mg mb g₀ Hs env (ownOf env) m ((D, P) :: mu) h) (hs : ∀ b o, b ≠ D → h.get? b = some o → h'.get? b = some o) (ho : h'.get? D = some o) (hP : P' o) :
    Sx w mean mg mb g₀ Hs env (ownOf env) m ((D, P') :: mu) h' ∧ Keeps (hideAll h Hs) (hideAll h' Hs) := S.extG (fun q => S.head_out (List.mem_append_left _ q)) hs ho hP
/-- my own object is let go -/
theorem Sx.dropG (S : Sx w mean mg mb g₀ (D :: Hs) env ow m ((D, P) :: mu) h) (hDo : D ∉ ownOf env) (hs : ∀ b o, b ≠ D → h.get? b = some o → h'.get? b = some o) :
    Sx w mean mg mb g₀ Hs env ow m mu h' ∧ Keeps (hideAll h (D :: Hs)) (hideAll h' Hs) := by
  have hD := S.wr D (List.mem_append_right _ List.mem_cons_self)
  have kk : Keeps (hideAll h (D :: Hs)) (hideAll h' Hs) := vis_to (fun b o hb e => hs b o (fun q => hb (q ▸ List.mem_cons_self)) e) fun b hb => .inl (List.mem_cons_of_mem _ hb)
  have hDn := S.head_out
  have hDH := (List.nodup_cons.mp S.cx.nd).1
  have hnd := S.nd
  rw [List.map_cons] at hnd
  have hnd' := List.nodup_cons.mp ((List.perm_middle.nodup_iff).mp hnd)
  refine ⟨⟨fun b o e => hs b o (fun q => ?_) (S.base b o e), ⟨S.cx.gd.keeps kk, fun b hb => ?_, (List.nodup_cons.mp S.cx.nd).2⟩, S.vars.ext hDo hs, fun p hp => ?_, fun b hb => ?_, hnd'.2⟩, kk⟩
  · rw [q, hD.2] at e; cases e
  · obtain ⟨o, e⟩ := S.cx.live b (List.mem_cons_of_mem _ hb); exact ⟨o, hs b o (fun q => hDH (q ▸ hb)) e⟩
  · obtain ⟨o, e, q⟩ := S.own p (List.mem_cons_of_mem _ hp)
    exact ⟨o, hs _ o (fun q => hDn (List.mem_append_right _ (q ▸ List.mem_map.mpr ⟨p, hp, rfl⟩))) e, q⟩
  · have hb' : b ∈ ow ++ ((D, P) :: mu).map (·.1) := by
      rcases List.mem_append.mp hb with h1 | h1
      · exact List.mem_append_left _ h1
      · exact List.mem_append_right _ (List.mem_cons_of_mem _ h1)
    refine ⟨?_, (S.wr b hb').2⟩
    rcases List.mem_cons.mp (S.wr b hb').1 with q | q
    · exact absurd (q ▸ hb) hnd'.1
    · exact q
theorem Sx.drop (S : Sx w mean mg mb g₀ (D :: Hs) env (ownOf env) m ((D, P) :: mu) h) (hs : ∀ b o, b ≠ D → h.get? b = some o → h'.get? b = some o) :
    Sx w mean mg mb g₀ Hs env (ownOf env) m mu h' ∧ Keeps (hideAll h (D :: Hs)) (hideAll h' Hs) := S.dropG (fun q => S.head_out (List.mem_append_left _ q)) hs
theorem Sx.anchor (S : Sx w mean mg mb g₀ Hs env ow m mu h) :
    Keeps g₀ (hideAll h (ow ++ mu.map (·.1))) ∧ Sx w mean mg mb (hideAll h (ow ++ mu.map (·.1))) Hs env ow m mu h ∧ Keeps (hideAll h Hs) (hideAll h (ow ++ mu.map (·.1))) :=
  ⟨fun b o e => hideAll_get _ (S.base b o e) fun hm => (by rw [(S.wr b hm).2] at e; cases e),
    ⟨vis_self, S.cx, S.vars, S.own, fun b hb => ⟨(S.wr b hb).1, hideAll_none _ hb⟩, S.nd⟩, vis_to (fun _ _ _ e => e) fun b hb => .inl (S.wr b hb).1⟩
theorem Sx.unanchor {g₁ : Heap} (k : Keeps g₀ g₁) (S : Sx w mean mg mb g₁ Hs env ow m mu h) : Sx w mean mg mb g₀ Hs env ow m mu h :=
  ⟨k.trans S.base, S.cx, S.vars, S.own, fun b hb => ⟨(S.wr b hb).1, by
    cases e : g₀.get? b with
    | none => rfl
    | some o => have := k b o e; rw [(S.wr b hb).2] at this; cases this⟩, S.nd⟩
noncomputable def ForPost (w : World) (mean : ExcName → Option Value) (mg mb : Str → Option Value) (g₁ : Heap) (Hs : List Addr) (env : Env) (I : Addr) (oI : Obj) (J : List (Str × Value) → Mu → Heap → Prop) (s : Shared) (Q : Flow → Shared → Prop) (f : Flow) (s' : Shared) : Prop :=
  match f with
  | .brk => Q .next s'
  | .ret v => Q (.ret v) s'
  | _ => ∃ h' tk m' mu', s' = { s with heap := h', toks := tk } ∧ Sx w mean mg mb g₁ (I :: Hs) env (ownOf env) m' ((I, (· = oI)) :: mu') h' ∧ J m' mu' (hideAll h' (I :: Hs))
theorem for_core {px : Pos} {body : List Stmt} {n : Nat} {Pv : Nat → Value → Prop} {St : Nat → Heap → Prop} {fp : List Addr} {Q : Flow → Shared → Prop} {R : Result → Shared → Prop}
    (S : Sx w mean mg mb g₀ (I :: Hs) env (ownOf env) m ((I, fun _ => True) :: mu) s.heap)
    (W : Walks pw w A I fp [I] n Pv St) (hfp : ∀ b ∈ fp, b = I ∨ ∃ o, (hideAll s.heap (I :: Hs)).get? b = some o) (hlive : ∀ i h, St i h → ∃ o, h.get? I = some o)
    (st0 : St 0 s.heap) (J : Nat → List (Str × Value) → Mu → Heap → Prop) (hJ : ∀ i m mu g g', Keeps g g' → J i m mu g → J i m mu g') (j0 : J 0 m mu (hideAll s.heap (I :: Hs)))
    (hk : env.scope.kind = .function) (hx : stOk env x = true)
    (step : ∀ i v m₁ mu₁ h₁ tk oI g₁, Keeps g₀ g₁ → i < n → Pv i v → Keeps (hideAll s.heap (I :: Hs)) (hideAll h₁ (I :: Hs)) → J i m₁ mu₁ (hideAll h₁ (I :: Hs)) →
      Sx w mean mg mb g₁ (I :: Hs) env (ownOf env) ((x, v) :: m₁) ((I, (· = oI)) :: mu₁) h₁ →
      wpAny (model pw w) A (execs body env) (ForPost w mean mg mb g₁ Hs env I oI (J (i + 1)) { s with heap := h₁, toks := tk } Q) (fun _ _ => False) { s with heap := h₁, toks := tk })
    (done : ∀ h' tk m' mu', Sx w mean mg mb g₀ Hs env (ownOf env) m' mu' h' → Keeps (hideAll s.heap (I :: Hs)) (hideAll h' Hs) → J n m' mu' (hideAll h' Hs) → Q .next { s with heap := h', toks := tk })
    (hR : ∀ f s', Q f s' → R (.ok f) s') :
    codeAny (model pw w) A (.forLoop (.Name x px) (.ref I) body [] env) R s := by
  obtain ⟨k01, S1, kv1⟩ := S.anchor
  generalize hg1 : hideAll s.heap (ownOf env ++ ((I, fun _ => True) :: mu).map (·.1)) = g₁ at k01 S1 kv1
  refine codeAny_forLoop
    (fun k s' => ∃ i h' tk m' mu', s' = { s with heap := h', toks := tk } ∧ St i h' ∧ Sx w mean mg mb g₁ (I :: Hs) env (ownOf env) m' ((I, fun _ => True) :: mu') h' ∧ J i m' mu' (hideAll h' (I :: Hs)) ∧ i ≤ n ∧ k = n + 1 - i) ?_ (n + 1)
    ⟨0, s.heap, s.toks, m, mu, rfl, st0, S1, j0, Nat.zero_le _, rfl⟩
  have visK : ∀ {m' mu' h'}, Sx w mean mg mb g₁ (I :: Hs) env (ownOf env) m' mu' h' → Keeps (hideAll s.heap (I :: Hs)) (hideAll h' (I :: Hs)) := fun S' b o e =>
    hideAll_get _ (S'.base b o (kv1 b o e)) (not_hid e)
  rintro k s' ⟨i, h₁, tk, m₁, mu₁, rfl, hst, S₁, hj, hi, rfl⟩
  by_cases hlt : i < n
  · refine W.item i _ _ _ hlt hst fun v h₂ tk₂ hPv hst₂ hk₂ => ?_
    obtain ⟨oI, hoI⟩ := hlive _ _ hst₂
    obtain ⟨S₂, kk₂⟩ := S₁.ext (P' := (· = oI)) (fun b o hb e => hk₂ b o (fun q => hb (List.mem_singleton.mp q)) e) hoI rfl
    refine wpAny_assign_Name (stV S₂ (fun h₃ tk₃ S₃ kk₃ => ?_) hk hx)
    have hst₃ : St (i + 1) h₃ := W.frame _ _ _ hst₂ fun b hb o e => by
      rcases hfp b hb with rfl | ⟨o', e'⟩
      · obtain ⟨o1, e1, rfl⟩ := S₃.own _ List.mem_cons_self
        rw [hoI] at e; cases e; exact e1
      · have e2 := S₂.base b o' (kv1 b o' e')
        rw [e] at e2; cases e2
        exact S₃.base b _ (kv1 b _ e')
    refine wpAny_noRaise (wpAny_mono (step i v m₁ mu₁ h₃ tk₃ oI g₁ k01 hlt hPv (visK S₃) (hJ _ _ _ _ _ (kk₂.trans kk₃) hj) S₃) (fun f s₄ h₄ => ?_) fun _ _ e => e)
    have nxt : (∃ h' tk m' mu', s₄ = { ({ s with heap := h₃, toks := tk₃ } : Shared) with heap := h', toks := tk } ∧ Sx w mean mg mb g₁ (I :: Hs) env (ownOf env) m' ((I, (· = oI)) :: mu') h' ∧ J (i + 1) m' mu' (hideAll h' (I :: Hs))) →
        ∃ m, m < n + 1 - i ∧ ∃ i h' tk m' mu', s₄ = { s with heap := h', toks := tk } ∧ St i h' ∧ Sx w mean mg mb g₁ (I :: Hs) env (ownOf env) m' ((I, fun _ => True) :: mu') h' ∧ J i m' mu' (hideAll h' (I :: Hs)) ∧ i ≤ n ∧ m = n + 1 - i := by
      rintro ⟨h₅, tk₅, m₅, mu₅, rfl, S₅, hj₅⟩
      obtain ⟨o5, e5, rfl⟩ := S₅.own _ List.mem_cons_self
      refine ⟨n + 1 - (i + 1), by omega, i + 1, h₅, tk₅, m₅, mu₅, rfl, ?_, (S₅.ext (P' := fun _ => True) (fun _ _ _ e => e) e5 trivial).1, hj₅, hlt, rfl⟩
      refine W.frame _ _ _ hst₂ fun b hb o e => ?_
      rcases hfp b hb with rfl | ⟨o', e'⟩
      · rw [hoI] at e; cases e; exact e5
      · have e2 := S₂.base b o' (kv1 b o' e')
        rw [e] at e2; cases e2
        exact S₅.base b _ (kv1 b _ e')
    cases f with
    | ret v => exact hR _ _ h₄
    | brk => exact hR _ _ h₄
    | cont => exact nxt h₄
    | next => exact nxt h₄
  · have hin : i = n := by omega
    subst hin
    refine W.done _ _ _ hst fun h₂ tk₂ hk₂ => wpAny_execs_nil (hR _ _ ?_)
    obtain ⟨S₂, kk₂⟩ := S₁.drop (h' := h₂) (fun b o hb e => hk₂ b o (fun q => hb (List.mem_singleton.mp q)) e)
    exact done h₂ tk₂ m₁ mu₁ (S₂.unanchor k01) ((visK S₁).trans kk₂) (hJ _ _ _ _ _ kk₂ hj)
theorem forL {px : Pos} {body : List Stmt} {ax : Addr} {items : List Value} {Q : Flow → Shared → Prop} {R : Result → Shared → Prop}
    (S : Sx w mean mg mb g₀ Hs env (ownOf env) m mu s.heap) (hl : (hideAll s.heap Hs).IsList ax items.toArray) (hh : A.handled = none)
    (J : Nat → List (Str × Value) → Mu → Heap → Prop) (hJ : ∀ i m mu g g', Keeps g g' → J i m mu g → J i m mu g') (j0 : J 0 m mu (hideAll s.heap Hs)) (hk : env.scope.kind = .function) (hx : stOk env x = true)
    (step : ∀ I i v m₁ mu₁ h₁ tk oI g₁, items[i]? = some v → Keeps (hideAll s.heap Hs) (hideAll h₁ (I :: Hs)) → J i m₁ mu₁ (hideAll h₁ (I :: Hs)) →
      Sx w mean mg mb g₁ (I :: Hs) env (ownOf env) ((x, v) :: m₁) ((I, (· = oI)) :: mu₁) h₁ →
      wpAny (model pw w) A (execs body env) (ForPost w mean mg mb g₁ Hs env I oI (J (i + 1)) { s with heap := h₁, toks := tk } Q) (fun _ _ => False) { s with heap := h₁, toks := tk })
    (done : ∀ h' tk m' mu', Sx w mean mg mb g₀ Hs env (ownOf env) m' mu' h' → Keeps (hideAll s.heap Hs) (hideAll h' Hs) → J items.length m' mu' (hideAll h' Hs) → Q .next { s with heap := h', toks := tk })
    (hR : ∀ f s', Q f s' → R (.ok f) s') :
    wpAny (model pw w) A (pyIter (.ref ax)) (fun it s₂ => codeAny (model pw w) A (.forLoop (.Name x px) it body [] env) R s₂) E s := by
  have hls : s.heap.IsList ax items.toArray := hl.at fun o e => vis_self _ _ e
  refine wpAny_pyIter_list hls ?_
  obtain ⟨S', kk⟩ := S.newM (o := { cls := .type "list_iterator", data := .fields #[.ref ax, .int 0 0] }) (P := fun _ => True) rfl trivial
  have hlt : ax < s.heap.objs.size := let ⟨o, e, _⟩ := hls; Heap.lt_size e
  have hl' := hl.at fun o e => kk _ _ e
  have W := Walks.list (prog := pw) (w := w) hh s.heap.objs.size ax (Nat.ne_of_lt hlt) items.toArray
  rw [show items.toArray.size = items.length by simp] at W
  refine for_core (s := { s with heap := _ }) S' W (fun b hb => ?_) (fun i h st => let ⟨o, e, _⟩ := st.1; ⟨o, e⟩) ⟨⟨_, Heap.get?_push_size _ rfl, rfl, rfl⟩, hl'.at fun o e => vis_self _ _ e⟩ J hJ (hJ _ _ _ _ _ kk j0) hk hx
    (fun i v m₁ mu₁ h₁ tk oI g₁ _ hi hv k1 hj S1 => step _ i v m₁ mu₁ h₁ tk oI g₁ (by simpa using hv) (kk.trans k1) hj S1) (fun h' tk m' mu' S1 k1 hj => done h' tk m' mu' S1 (kk.trans k1) hj) hR
  rcases List.mem_cons.mp hb with rfl | hb
  · exact .inl rfl
  · rw [List.mem_singleton.mp hb]; exact .inr (let ⟨o, e, _⟩ := hl'; ⟨o, e⟩)
theorem forR {px : Pos} {body : List Stmt} {r : Addr} {a b : Int} {t u u' : Tok} {n : Nat} {Q : Flow → Shared → Prop} {R : Result → Shared → Prop}
    (S : Sx w mean mg mb g₀ Hs env (ownOf env) m mu s.heap) (hr : IsRange (hideAll s.heap Hs) r a b 1 t u u') (hn : n = (b - a).toNat) (hb0 : -(2 ^ 62) ≤ a ∧ a < 2 ^ 62 ∧ -(2 ^ 62) ≤ b ∧ b < 2 ^ 62) (hh : A.handled = none)
    (J : Nat → List (Str × Value) → Mu → Heap → Prop) (hJ : ∀ i m mu g g', Keeps g g' → J i m mu g → J i m mu g') (j0 : J 0 m mu (hideAll s.heap Hs)) (hk : env.scope.kind = .function) (hx : stOk env x = true)
    (step : ∀ I i t m₁ mu₁ h₁ tk oI g₁, i < n → Keeps (hideAll s.heap Hs) (hideAll h₁ (I :: Hs)) → J i m₁ mu₁ (hideAll h₁ (I :: Hs)) →
      Sx w mean mg mb g₁ (I :: Hs) env (ownOf env) ((x, .int (a + (i : Int)) t) :: m₁) ((I, (· = oI)) :: mu₁) h₁ →
      wpAny (model pw w) A (execs body env) (ForPost w mean mg mb g₁ Hs env I oI (J (i + 1)) { s with heap := h₁, toks := tk } Q) (fun _ _ => False) { s with heap := h₁, toks := tk })
    (done : ∀ h' tk m' mu', Sx w mean mg mb g₀ Hs env (ownOf env) m' mu' h' → Keeps (hideAll s.heap Hs) (hideAll h' Hs) → J n m' mu' (hideAll h' Hs) → Q .next { s with heap := h', toks := tk })
    (hR : ∀ f s', Q f s' → R (.ok f) s') :
    wpAny (model pw w) A (pyIter (.ref r)) (fun it s₂ => codeAny (model pw w) A (.forLoop (.Name x px) it body [] env) R s₂) E s := by
  refine wpAny_pyIter_range (vis_self _ _ hr) (small_one hb0.1 hb0.2.1 hb0.2.2.1 hb0.2.2.2) ?_
  have hsz : Builtin.Range.rangeSize a b 1 = (n : Int) := by rw [rangeSize_one, hn]; split <;> omega
  rw [hsz]
  obtain ⟨S', kk⟩ := S.newM (o := { cls := .type "range_iterator", data := .fields #[rawInt a, rawInt n, rawInt 1] }) (P := fun _ => True) rfl trivial
  refine for_core (s := { s with heap := _ }) S' (Walks.range (prog := pw) (w := w) hh s.heap.objs.size a 1 n) (fun b hb => .inl (List.mem_singleton.mp hb)) (fun i h st => ⟨_, st⟩) ?_ J hJ (hJ _ _ _ _ _ kk j0) hk hx
    (fun i v m₁ mu₁ h₁ tk oI g₁ _ hi hv k1 hj S1 => ?_) (fun h' tk m' mu' S1 k1 hj => done h' tk m' mu' S1 (kk.trans k1) hj) hR
  · have e := Heap.get?_push_size s.heap (o := { cls := .type "range_iterator", data := .fields #[rawInt a, rawInt n, rawInt 1] }) rfl
    simpa [IsRangeIter] using e
  · obtain ⟨t, rfl⟩ := hv
    rw [Int.mul_one] at S1
    exact step _ i t m₁ mu₁ h₁ tk oI g₁ hi (kk.trans k1) hj S1
theorem forRK {px : Pos} {body : List Stmt} {r : Addr} {a b : Int} {t u u' : Tok} {n : Nat} {Q : Flow → Shared → Prop} {R : Result → Shared → Prop}
    (S : Sx w mean mg mb g₀ Hs env (ownOf env) m mu s.heap) (hr : IsRange (hideAll s.heap Hs) r a b 1 t u u') (hn : n = (b - a).toNat) (hb0 : -(2 ^ 62) ≤ a ∧ a < 2 ^ 62 ∧ -(2 ^ 62) ≤ b ∧ b < 2 ^ 62) (hh : A.handled = none)
    (J : Nat → List (Str × Value) → Mu → Heap → Prop) (hJ : ∀ i m mu g g', Keeps g g' → J i m mu g → J i m mu g') (j0 : J 0 m mu (hideAll s.heap Hs)) (hk : env.scope.kind = .function) (hx : stOk env x = true)
    (step : ∀ I i t m₁ mu₁ h₁ tk oI g₁, Keeps g₀ g₁ → i < n → Keeps (hideAll s.heap Hs) (hideAll h₁ (I :: Hs)) → J i m₁ mu₁ (hideAll h₁ (I :: Hs)) →
      Sx w mean mg mb g₁ (I :: Hs) env (ownOf env) ((x, .int (a + (i : Int)) t) :: m₁) ((I, (· = oI)) :: mu₁) h₁ →
      wpAny (model pw w) A (execs body env) (ForPost w mean mg mb g₁ Hs env I oI (J (i + 1)) { s with heap := h₁, toks := tk } Q) (fun _ _ => False) { s with heap := h₁, toks := tk })
    (done : ∀ h' tk m' mu', Sx w mean mg mb g₀ Hs env (ownOf env) m' mu' h' → Keeps (hideAll s.heap Hs) (hideAll h' Hs) → J n m' mu' (hideAll h' Hs) → Q .next { s with heap := h', toks := tk })
    (hR : ∀ f s', Q f s' → R (.ok f) s') :
    wpAny (model pw w) A (pyIter (.ref r)) (fun it s₂ => codeAny (model pw w) A (.forLoop (.Name x px) it body [] env) R s₂) E s := by
  refine wpAny_pyIter_range (vis_self _ _ hr) (small_one hb0.1 hb0.2.1 hb0.2.2.1 hb0.2.2.2) ?_
  have hsz : Builtin.Range.rangeSize a b 1 = (n : Int) := by rw [rangeSize_one, hn]; split <;> omega
  rw [hsz]
  obtain ⟨S', kk⟩ := S.newM (o := { cls := .type "range_iterator", data := .fields #[rawInt a, rawInt n, rawInt 1] }) (P := fun _ => True) rfl trivial
  refine for_core (s := { s with heap := _ }) S' (Walks.range (prog := pw) (w := w) hh s.heap.objs.size a 1 n) (fun b hb => .inl (List.mem_singleton.mp hb)) (fun i h st => ⟨_, st⟩) ?_ J hJ (hJ _ _ _ _ _ kk j0) hk hx
    (fun i v m₁ mu₁ h₁ tk oI g₁ kg hi hv k1 hj S1 => ?_) (fun h' tk m' mu' S1 k1 hj => done h' tk m' mu' S1 (kk.trans k1) hj) hR
  · have e := Heap.get?_push_size s.heap (o := { cls := .type "range_iterator", data := .fields #[rawInt a, rawInt n, rawInt 1] }) rfl
    simpa [IsRangeIter] using e
  · obtain ⟨t, rfl⟩ := hv
    rw [Int.mul_one] at S1
    exact step _ i t m₁ mu₁ h₁ tk oI g₁ kg hi (kk.trans k1) hj S1
theorem forS {px : Pos} {body : List Stmt} {y : Str} {t : Tok} {Q : Flow → Shared → Prop} {R : Result → Shared → Prop}
    (S : Sx w mean mg mb g₀ Hs env (ownOf env) m mu s.heap) (hh : A.handled = none)
    (J : Nat → List (Str × Value) → Mu → Heap → Prop) (hJ : ∀ i m mu g g', Keeps g g' → J i m mu g → J i m mu g') (j0 : J 0 m mu (hideAll s.heap Hs)) (hk : env.scope.kind = .function) (hx : stOk env x = true)
    (step : ∀ I i c t m₁ mu₁ h₁ tk oI g₁, y.cps[i]? = some c → Keeps (hideAll s.heap Hs) (hideAll h₁ (I :: Hs)) → J i m₁ mu₁ (hideAll h₁ (I :: Hs)) →
      Sx w mean mg mb g₁ (I :: Hs) env (ownOf env) ((x, .str ⟨#[c]⟩ t) :: m₁) ((I, (· = oI)) :: mu₁) h₁ →
      wpAny (model pw w) A (execs body env) (ForPost w mean mg mb g₁ Hs env I oI (J (i + 1)) { s with heap := h₁, toks := tk } Q) (fun _ _ => False) { s with heap := h₁, toks := tk })
    (done : ∀ h' tk m' mu', Sx w mean mg mb g₀ Hs env (ownOf env) m' mu' h' → Keeps (hideAll s.heap Hs) (hideAll h' Hs) → J y.cps.size m' mu' (hideAll h' Hs) → Q .next { s with heap := h', toks := tk })
    (hR : ∀ f s', Q f s' → R (.ok f) s') :
    wpAny (model pw w) A (pyIter (.str y t)) (fun it s₂ => codeAny (model pw w) A (.forLoop (.Name x px) it body [] env) R s₂) E s := by
  cases ha : y.cps.all (· < 128)
  · refine wpAny_pyIter_wide ha ?_
    obtain ⟨S', kk⟩ := S.newM (o := { cls := .type "str_iterator", data := .fields #[.str y t, .int 0 0] }) (P := fun _ => True) rfl trivial
    refine for_core (s := { s with heap := _ }) S' (Walks.strWide (prog := pw) (w := w) hh s.heap.objs.size y t) (fun b hb => .inl (List.mem_singleton.mp hb)) (fun i h st => let ⟨o, e, _⟩ := st; ⟨o, e⟩) ⟨_, Heap.get?_push_size _ rfl, rfl, rfl⟩ J hJ (hJ _ _ _ _ _ kk j0) hk hx
      (fun i v m₁ mu₁ h₁ tk oI g₁ _ hi hv k1 hj S1 => ?_) (fun h' tk m' mu' S1 k1 hj => done h' tk m' mu' S1 (kk.trans k1) hj) hR
    obtain ⟨c, u, hc, rfl⟩ := hv
    exact step _ i c u m₁ mu₁ h₁ tk oI g₁ hc (kk.trans k1) hj S1
  · refine wpAny_pyIter_ascii ha ?_
    obtain ⟨S', kk⟩ := S.newM (o := { cls := .type "str_ascii_iterator", data := .fields #[.str y t, .int 0 0] }) (P := fun _ => True) rfl trivial
    refine for_core (s := { s with heap := _ }) S' (Walks.strAscii (prog := pw) (w := w) hh s.heap.objs.size y t) (fun b hb => .inl (List.mem_singleton.mp hb)) (fun i h st => let ⟨o, e, _⟩ := st; ⟨o, e⟩) ⟨_, Heap.get?_push_size _ rfl, rfl, rfl⟩ J hJ (hJ _ _ _ _ _ kk j0) hk hx
      (fun i v m₁ mu₁ h₁ tk oI g₁ _ hi hv k1 hj S1 => ?_) (fun h' tk m' mu' S1 k1 hj => done h' tk m' mu' S1 (kk.trans k1) hj) hR
    obtain ⟨c, u, hc, rfl⟩ := hv
    exact step _ i c u m₁ mu₁ h₁ tk oI g₁ hc (kk.trans k1) hj S1
theorem rng2 {a b : Int} {t u : Tok} {Q : Value → Shared → Prop} (S : Sx w mean mg mb g₀ Hs env ow m mu s.heap)
    (h : ∀ D h' tk, Sx w mean mg mb g₀ Hs env ow m mu h' → Keeps (hideAll s.heap Hs) (hideAll h' Hs) → IsRange (hideAll h' Hs) D a b 1 t u s.toks → Q (.ref D) { s with heap := h', toks := tk }) : wpAny (model pw w) A (call (.type "range") [.int a t, .int b u]) Q E s := by
  refine call_range_2 ?_
  obtain ⟨S', k, e⟩ := S.newV (o := { cls := .type "range", data := .fields #[.int a t, .int b u, .int 1 s.toks] }) rfl
  exact h _ _ _ S' k e
theorem rng1 {n : Int} {t : Tok} {Q : Value → Shared → Prop} (S : Sx w mean mg mb g₀ Hs env ow m mu s.heap)
    (h : ∀ D h' tk, Sx w mean mg mb g₀ Hs env ow m mu h' → Keeps (hideAll s.heap Hs) (hideAll h' Hs) → IsRange (hideAll h' Hs) D 0 n 1 s.toks t (s.toks + 1) → Q (.ref D) { s with heap := h', toks := tk }) : wpAny (model pw w) A (call (.type "range") [.int n t]) Q E s := by
  refine call_range_1 ?_
  obtain ⟨S', k, e⟩ := S.newV (o := { cls := .type "range", data := .fields #[.int 0 s.toks, .int n t, .int 1 (s.toks + 1)] }) rfl
  exact h _ _ _ S' k e
end
end Mine
end
section
open PySem PySem.W PyProof.Rows PySem.Calls
set_option Elab.async false
set_option maxRecDepth 100000
set_option linter.unusedVariables false
namespace Mine
noncomputable def closL (env : Env) : List (Str × NameKind) → List (Str × Addr) → List (Str × Addr)
  | [], acc => acc
  | (n, k) :: r, acc => if k == .free then closL env r ((n, (env.cells.lookup n).getD 0) :: acc) else closL env r acc
noncomputable def compOk (env : Env) (scope : Scope) : Bool := scope.names.all fun p => p.2 != .free || ((env.cells.lookup p.1).isSome && (env.kindOf p.1 != some .local))
theorem compOk_free {env : Env} {scope : Scope} (h : compOk env scope = true) {n : Str} (hn : (n, NameKind.free) ∈ scope.names) : (∃ c, env.cells.lookup n = some c) ∧ env.kindOf n ≠ some .local := by
  have h1 := List.all_eq_true.mp h _ hn
  simp only [bne_self_eq_false, Bool.false_or, Bool.and_eq_true, bne_iff_ne, ne_eq] at h1
  exact ⟨Option.isSome_iff_exists.mp h1.1, h1.2⟩
theorem closureFor_go {env : Env} (f : Str × NameKind → List (Str × Addr) → Sem (ForInStep (List (Str × Addr))))
    (hf : ∀ n k cs, f (n, k) cs = if k == .free then (do pure (.yield ((n, ← cellOf env n) :: cs))) else pure (.yield cs)) :
    ∀ (l : List (Str × NameKind)) (acc : List (Str × Addr)), (∀ n, (n, NameKind.free) ∈ l → ∃ c, env.cells.lookup n = some c) → forIn l acc f = pure (closL env l acc)
  | [], acc, _ => rfl
  | (n, k) :: r, acc, h => by
    rw [List.forIn_cons, hf, closL]
    by_cases hk : k = .free
    · subst hk
      obtain ⟨c, hc⟩ := h n List.mem_cons_self
      have : cellOf env n = pure c := by unfold cellOf; rw [hc]
      simp only [beq_self_eq_true, if_true, this, pure_bind, hc, Option.getD_some]
      exact closureFor_go f hf r _ fun m hm => h m (List.mem_cons_of_mem _ hm)
    · have hb : (k == NameKind.free) = false := by simpa using hk
      simp only [hb, Bool.false_eq_true, if_false, pure_bind]
      exact closureFor_go f hf r _ fun m hm => h m (List.mem_cons_of_mem _ hm)
theorem closureFor_eq {env : Env} {scope : Scope} (h : compOk env scope = true) : closureFor scope env = pure (closL env scope.names []) := by
  have e := closureFor_go (env := env) (fun x cs => if x.2 == .free then (do pure (.yield ((x.1, ← cellOf env x.1) :: cs))) else pure (.yield cs)) (fun _ _ _ => rfl) scope.names [] fun n hn => (compOk_free h hn).1
  rw [← bind_pure (closureFor scope env), ← e.symm.symm]
  unfold closureFor
  simp only [bind_pure]
theorem closL_mem {env : Env} : ∀ {l : List (Str × NameKind)} {acc : List (Str × Addr)} {n : Str} {c : Addr}, (n, c) ∈ closL env l acc → (n, c) ∈ acc ∨ ((n, NameKind.free) ∈ l ∧ c = (env.cells.lookup n).getD 0)
  | [], acc, n, c, h => .inl h
  | (k, q) :: r, acc, n, c, h => by
    rw [closL] at h
    split at h
    · rename_i hq
      have hq' : q = .free := by simpa using hq
      subst hq'
      rcases closL_mem h with h | ⟨h, e⟩
      · rcases List.mem_cons.mp h with h | h
        · cases h; exact .inr ⟨List.mem_cons_self, rfl⟩
        · exact .inl h
      · exact .inr ⟨List.mem_cons_of_mem _ h, e⟩
    · rcases closL_mem h with h | ⟨h, e⟩
      · exact .inl h
      · exact .inr ⟨List.mem_cons_of_mem _ h, e⟩
theorem closL_nodup {env : Env} : ∀ {l : List (Str × NameKind)} {acc : List (Str × Addr)}, (l.map (·.1)).Nodup → (acc.map (·.1)).Nodup → (∀ n, n ∈ l.map (·.1) → n ∉ acc.map (·.1)) → ((closL env l acc).map (·.1)).Nodup
  | [], acc, _, h, _ => h
  | (k, q) :: r, acc, h, ha, hd => by
    rw [List.map_cons, List.nodup_cons] at h
    rw [closL]
    split
    · refine closL_nodup h.2 ?_ fun n hn hm => ?_
      · rw [List.map_cons, List.nodup_cons]; exact ⟨hd k List.mem_cons_self, ha⟩
      · rw [List.map_cons] at hm
        rcases List.mem_cons.mp hm with e | hm
        · subst e; exact h.1 hn
        · exact hd n (List.mem_cons_of_mem _ hn) hm
    · exact closL_nodup h.2 ha fun n hn => hd n (List.mem_cons_of_mem _ hn)
theorem addr_nodup : ∀ {cl es : List (Str × Addr)}, (cl.map (·.1)).Nodup → (∀ p ∈ cl, p ∈ es) → (es.map (·.2)).Nodup → (cl.map (·.2)).Nodup
  | [], _, _, _, _ => List.Pairwise.nil
  | (n, c) :: r, es, h, hs, he => by
    rw [List.map_cons, List.nodup_cons] at h ⊢
    refine ⟨fun hm => ?_, addr_nodup h.2 (fun p hp => hs p (List.mem_cons_of_mem _ hp)) he⟩
    obtain ⟨p, hp, e⟩ := List.mem_map.mp hm
    have h1 := hs p (List.mem_cons_of_mem _ hp)
    have h2 := hs (n, c) List.mem_cons_self
    have : p.1 = n := apart_names he (n := p.1) (n' := n) (c := c) (by rw [show c = p.2 from e.symm]; exact h1) h2
    exact h.1 (this ▸ List.mem_map.mpr ⟨p, hp, rfl⟩)
theorem cellsFrom_append : ∀ (l : List (Str × NameKind)) (n : Nat) (acc acc' : List (Str × Addr)), cellsFrom n l (acc ++ acc') = cellsFrom n l acc ++ acc'
  | [], _, _, _ => rfl
  | (x, k) :: r, n, acc, acc' => by
    rw [cellsFrom, cellsFrom]
    split
    · rw [← List.cons_append, cellsFrom_append r]
    · exact cellsFrom_append r _ _ _
theorem cellsFrom_mem : ∀ {l : List (Str × NameKind)} {n : Nat} {acc : List (Str × Addr)} {x : Str} {c : Addr}, (x, c) ∈ cellsFrom n l acc → (x, c) ∈ acc ∨ (x, NameKind.cell) ∈ l
  | [], _, _, _, _, h => .inl h
  | (y, k) :: r, n, acc, x, c, h => by
    rw [cellsFrom] at h
    split at h
    · rename_i hk
      have hk' : k = .cell := by simpa using hk
      subst hk'
      rcases cellsFrom_mem h with h | h
      · rcases List.mem_cons.mp h with h | h
        · cases h; exact .inr List.mem_cons_self
        · exact .inl h
      · exact .inr (List.mem_cons_of_mem _ h)
    · rcases cellsFrom_mem h with h | h
      · exact .inl h
      · exact .inr (List.mem_cons_of_mem _ h)
theorem look_relabel {env : Env} (l : List (Str × NameKind)) (x : Str) :
    (l.map fun (n, k) => if (k == NameKind.free && env.scope.kind == .function && env.kindOf n == some .cell) then (n, NameKind.cell) else (n, k)).lookup x = (l.lookup x).map fun k => if (k == NameKind.free && env.scope.kind == .function && env.kindOf x == some .cell) then NameKind.cell else k := by
  induction l with
  | nil => rfl
  | cons p r ih =>
    obtain ⟨n, k⟩ := p
    rw [List.map_cons]
    show List.lookup x ((if (k == NameKind.free && env.scope.kind == .function && env.kindOf n == some .cell) = true then (n, NameKind.cell) else (n, k)) :: _) = _
    by_cases hx : x = n
    · subst hx
      by_cases hc : (k == NameKind.free && env.scope.kind == .function && env.kindOf x == some .cell) = true
      · rw [if_pos hc, List.lookup_cons, List.lookup_cons, beq_self_eq_true]
        exact congrArg some (if_pos hc).symm
      · rw [if_neg hc, List.lookup_cons, List.lookup_cons, beq_self_eq_true]
        exact congrArg some (if_neg hc).symm
    · have hx' : (x == n) = false := by simpa using hx
      split <;> (rw [List.lookup_cons, List.lookup_cons, hx']; exact ih)
theorem lookup_nodup {α : Type} : ∀ {l : List (Str × α)} {n : Str} {c : α}, (l.map (·.1)).Nodup → (n, c) ∈ l → l.lookup n = some c
  | (k, v) :: r, n, c, hd, h => by
    rw [List.map_cons, List.nodup_cons] at hd
    rcases List.mem_cons.mp h with e | h
    · cases e; simp
    · have : (n == k) = false := by
        have : n ≠ k := fun q => hd.1 (q ▸ List.mem_map.mpr ⟨_, h, rfl⟩)
        simpa using this
      rw [List.lookup_cons, this]; exact lookup_nodup hd.2 h
theorem lookup_append' {α : Type} {l l' : List (Str × α)} {n : Str} {c : α} (h : (l ++ l').lookup n = some c) : l.lookup n = some c ∨ l'.lookup n = some c := by
  rw [List.lookup_append] at h
  cases e : l.lookup n with
  | some u => rw [e] at h; exact .inl h
  | none => rw [e] at h; exact .inr h

section
variable {w : World} {mean : ExcName → Option Value} {mg mb : Str → Option Value} {A : Around} {E : Value → Shared → Prop} {s : Shared} {g₀ h h' : Heap} {Hs : List Addr} {env : Env} {ow : List Addr} {m mf : List (Str × Value)} {mu : Mu}
  {x : Str} {pos : Pos} {v : Value} {D I : Addr} {P P' : Obj → Prop} {o : Obj} {vs : List Value} {scope : Scope} {R : Result → Shared → Prop}
theorem newFunctionEnv_comp {M : Model} {globals : Addr} {cl : List (Str × Addr)} {qual : Str} {outer : Env} {Q : Env → Shared → Prop}
    (hQ : Q { scope, locals := s.heap.objs.size, globals, cells := cellsFrom (s.heap.objs.size + 1) scope.names cl, qual, func := none, code := outer.code, frame := outer.frame, builtins := outer.builtins }
      { s with heap := pushCells (s.heap.push { cls := .type "dict", data := .dict #[] }) scope.names }) :
    wpAny M A (newFunctionEnv scope globals cl [] qual none .none (some outer)) Q E s := by
  simp only [newFunctionEnv, Option.isSome_some, if_true]
  refine wpAny_bind (wpAny_alloc ?_)
  refine wpAny_bind (wpAny_layCells _ (fun name kind cells => by cases hkc : kind == NameKind.cell <;> simp [hkc]) _ _ _ _ ?_)
  rw [show ({ s with heap := s.heap.push { cls := .type "dict", data := .dict #[] } } : Shared).heap.objs.size = s.heap.objs.size + 1 from Heap.size_push ..]
  simp only [List.forIn_nil, pure_bind]
  exact wpAny_pure hQ
theorem codeAny_compLoop_own {elt target iter : Expr} {ifs : List Expr} {scope : Scope} {pos : Pos} {it acc : Value} {env : Env} (I : Nat → Shared → Prop)
    (turn : ∀ n s, I n s → wpAny (model pw w) A (pyNext it) (fun r s₁ => match r with
      | none => R (.ok .next) s₁
      | some v => wpAny (model pw w) A (letOwnedTupleGo target it v) (fun _ s₁' => wpAny (model pw w) A (assign target env v) (fun _ s₂ =>
          wpAny (model pw w) A (forIn ifs true fun c r => if r = true then do let ok ← isTrue c env (eval c env); pure (ForInStep.yield ok) else pure (ForInStep.yield r)) (fun ok s₃ =>
            if ok = true then wpAny (model pw w) A (eval elt env) (fun x s₄ =>
              wpAny (model pw w) A (call (.builtin "list.append") [acc, x]) (fun _ s₅ => ∃ m, m < n ∧ I m s₅) (notedBy (model pw w) A env fun e s' => R (.error e) s') s₄) (notedBy (model pw w) A env fun e s' => R (.error e) s') s₃
            else ∃ m, m < n ∧ I m s₃) (notedBy (model pw w) A env fun e s' => R (.error e) s') s₂) (notedBy (model pw w) A env fun e s' => R (.error e) s') s₁') (notedBy (model pw w) A env fun e s' => R (.error e) s') s₁) (notedBy (model pw w) A env fun e s' => R (.error e) s') s)
    (n : Nat) (h : I n s) :
    codeAny (model pw w) A (.compLoop (.ListComp elt [⟨target, iter, ifs, 0⟩] scope pos) 0 it acc env) R s := by
  refine codeAny_loop rfl I (fun n s hI => ?_) n h
  show wpAny _ A ((compTurn (.ListComp elt [⟨target, iter, ifs, 0⟩] scope pos) 0 it acc env).onRaise (fun x => do noteFrame x env; theTreesLotGoes x)) _ _ s
  refine wpAny_noted ?_
  rw [compTurn_list]
  refine wpAny_bind (wpAny_standAt (wpAny_bind (wpAny_mono (turn n s hI) (fun r s₁ h₁ => ?_) fun _ _ h' => h')))
  cases r with
  | none => exact wpAny_pure h₁
  | some v =>
    refine wpAny_bind (wpAny_mono h₁ (fun _ s₁' h₁' => ?_) fun _ _ h' => h')
    refine wpAny_bind (wpAny_mono h₁' (fun _ s₂ h₂ => wpAny_bind (wpAny_mono h₂ (fun ok s₃ h₃ => ?_) fun _ _ h' => h')) fun _ _ h' => h')
    cases ok with
    | false => exact wpAny_pure ⟨rfl, h₃⟩
    | true =>
      exact wpAny_bind (wpAny_bind (wpAny_mono h₃ (fun x s₄ h₄ => wpAny_bind (wpAny_mono h₄ (fun _ s₅ h₅ => wpAny_pure (wpAny_pure ⟨rfl, h₅⟩)) fun _ _ h' => h')) fun _ _ h' => h'))
end
end Mine
end
section
open PySem PySem.W PyProof.Rows PySem.Calls
set_option Elab.async false
set_option maxRecDepth 100000
set_option linter.unusedVariables false
namespace Mine
abbrev CE (scope : Scope) (cl : List (Str × Addr)) (C : Addr) (env : Env) : Env :=
  { scope := relabel scope env, locals := C, globals := env.globals, cells := cellsFrom (C + 1) scope.names cl, qual := env.qual, func := none, code := env.code, frame := env.frame, builtins := env.builtins }
noncomputable def ElPost (w : World) (mean : ExcName → Option Value) (mg mb : Str → Option Value) (g₁ : Heap) (Hc : List Addr) (cenv : Env) (owc : List Addr) (mf : List (Str × Value)) (I : Addr) (oI : Obj) (D : Addr) (oD : Obj) (J : List Value → Heap → Prop) (s : Shared) (ys : List Value) (s' : Shared) : Prop :=
  ∃ h' tk, s' = { s with heap := h', toks := tk } ∧ Sx w mean mg mb g₁ Hc cenv owc mf [(I, (· = oI)), (D, (· = oD))] h' ∧ J ys (hideAll h' Hc)
section
variable {w : World} {mean : ExcName → Option Value} {mg mb : Str → Option Value} {A : Around} {E : Value → Shared → Prop} {s : Shared} {g₀ h h' : Heap} {Hs : List Addr} {env : Env} {ow : List Addr} {m mf : List (Str × Value)} {mu : Mu}
  {x : Str} {pos : Pos} {v : Value} {D I : Addr} {P P' : Obj → Prop} {o : Obj} {vs : List Value} {scope : Scope} {R : Result → Shared → Prop}
theorem comp_vars (V : Vars env s.heap m) (hmf : ∀ p ∈ mf, scope.names.lookup p.1 = some .free ∧ m.lookup p.1 = some p.2) (hok : compOk env scope = true) (hnd : (scope.names.map (·.1)).Nodup)
    {C : Nat} {H3 : Heap} (hsC : s.heap.objs.size ≤ C) (hk : Keeps s.heap H3) (hns : H3.Ns C fun _ => none) (ok : CellsOk H3 (C + 1) (cellsFrom (C + 1) scope.names [])) :
    Vars (CE scope (closL env scope.names []) C env) H3 mf ∧ (C :: (cellsFrom (C + 1) scope.names []).map (·.2)).Nodup ∧ (∀ b ∈ (closL env scope.names []).map (·.2), ∃ o, s.heap.get? b = some o) := by
  have hcells : cellsFrom (C + 1) scope.names (closL env scope.names []) = cellsFrom (C + 1) scope.names [] ++ closL env scope.names [] := by
    rw [← cellsFrom_append, List.nil_append]
  have hcl : ∀ n c, (n, c) ∈ closL env scope.names [] → (n, NameKind.free) ∈ scope.names ∧ env.cells.lookup n = some c := fun n c hm => by
    rcases closL_mem hm with hm | ⟨hm, e⟩
    · cases hm
    · obtain ⟨⟨c', hc'⟩, _⟩ := compOk_free hok hm
      rw [hc'] at e
      exact ⟨hm, e ▸ hc'⟩
  have hclive : ∀ b ∈ (closL env scope.names []).map (·.2), ∃ o, s.heap.get? b = some o := fun b hb => by
    obtain ⟨p, hp, rfl⟩ := List.mem_map.mp hb
    exact V.live _ (List.mem_cons_of_mem _ (List.mem_map.mpr ⟨_, mem_of_lookup (hcl p.1 p.2 hp).2, rfl⟩))
  have hocs : ∀ b : Nat, b ∈ (cellsFrom (C + 1) scope.names []).map (·.2) → C + 1 ≤ b := fun b hb => by
    obtain ⟨p, hp, rfl⟩ := List.mem_map.mp hb
    exact (ok.empty p.1 p.2 hp).2
  have hocn : ((cellsFrom (C + 1) scope.names []).map (·.2)).Nodup := List.pairwise_map.mpr ok.apart
  have hcln : ((closL env scope.names []).map (·.2)).Nodup := addr_nodup (closL_nodup hnd List.Pairwise.nil fun _ _ hm => by cases hm) (fun p hp => mem_of_lookup (hcl p.1 p.2 hp).2) (List.nodup_cons.mp V.apart).2
  have hlt : ∀ b : Nat, b ∈ (closL env scope.names []).map (·.2) → b < C := fun b hb => let ⟨o, e⟩ := hclive b hb; Nat.lt_of_lt_of_le (Heap.lt_size e) hsC
  have hown : (C :: (cellsFrom (C + 1) scope.names []).map (·.2)).Nodup := List.nodup_cons.mpr ⟨fun hm => by have := hocs C hm; omega, hocn⟩
  refine ⟨⟨⟨_, hns, fun y u hy hu => ?_⟩, fun y c hc hky => ?_, ?_, fun b hb => ?_⟩, hown, hclive⟩
  · exfalso
    have h1 := (hmf _ (mem_of_lookup hu)).1
    have h2 : (relabel scope env).names.lookup y = some .local := hy
    unfold relabel at h2
    rw [look_relabel, h1] at h2
    simp only [Option.map_some, Option.some.injEq] at h2
    split at h2 <;> cases h2
  · have hc' : (cellsFrom (C + 1) scope.names [] ++ closL env scope.names []).lookup y = some c := hcells ▸ hc
    rcases lookup_append' hc' with h1 | h1
    · refine ⟨none, (ok.empty y c (mem_of_lookup h1)).1, fun u hu => ?_⟩
      exfalso
      have h2 := (hmf _ (mem_of_lookup hu)).1
      rcases cellsFrom_mem (mem_of_lookup h1) with h3 | h3
      · cases h3
      · rw [lookup_nodup hnd h3] at h2; cases h2
    · obtain ⟨h2, h3⟩ := hcl y c (mem_of_lookup h1)
      obtain ⟨v0, hv0, q⟩ := V.cl y c h3 (compOk_free hok h2).2
      exact ⟨v0, hv0.keeps hk, fun u hu => q u (hmf _ (mem_of_lookup hu)).2⟩
  · show (C :: (cellsFrom (C + 1) scope.names (closL env scope.names [])).map (·.2)).Nodup
    rw [hcells, List.map_append]
    refine List.nodup_cons.mpr ⟨fun hm => ?_, List.nodup_append.mpr ⟨hocn, hcln, fun a ha b hb q => ?_⟩⟩
    · rcases List.mem_append.mp hm with hm | hm
      · have := hocs C hm; omega
      · have := hlt C hm; omega
    · have h1 := hocs a ha; have h2 := hlt b hb; rw [q] at h1; omega
  · have hb' : b ∈ C :: (cellsFrom (C + 1) scope.names (closL env scope.names [])).map (·.2) := hb
    rw [hcells, List.map_append] at hb'
    rcases List.mem_cons.mp hb' with rfl | hb'
    · obtain ⟨o, _, _, e, _⟩ := hns; exact ⟨o, e⟩
    · rcases List.mem_append.mp hb' with hb' | hb'
      · obtain ⟨p, hp, rfl⟩ := List.mem_map.mp hb'
        obtain ⟨⟨o, e, _⟩, _⟩ := ok.empty p.1 p.2 hp; exact ⟨o, e⟩
      · obtain ⟨o, e⟩ := hclive b hb'; exact ⟨o, hk _ _ e⟩
theorem comp_core {elt target iter : Expr} {ifs : List Expr} {n : Nat} {Pv : Nat → Value → Prop} {St : Nat → Heap → Prop} {fp : List Addr} {RR : Value → Addr → Result → Shared → Prop}
    (C₀ : Cx w mean mg mb (I :: Hs) s.heap) (V : Vars env s.heap m) (hmf : ∀ p ∈ mf, scope.names.lookup p.1 = some .free ∧ m.lookup p.1 = some p.2) (hok : compOk env scope = true) (hnd : (scope.names.map (·.1)).Nodup) (hIo : I ∉ ownOf env)
    (W : Walks pw w A I fp [I] n Pv St) (hfp : ∀ b ∈ fp, b = I ∨ ∃ o, (hideAll s.heap (I :: Hs)).get? b = some o) (hlive : ∀ i h, St i h → ∃ o, h.get? I = some o) (st0 : St 0 s.heap) (hsz : n ≤ sizeLine)
    (J : Nat → List Value → Heap → Prop) (hJ : ∀ i ys g g', Keeps g g' → J i ys g → J i ys g') (j0 : J 0 [] (hideAll s.heap (I :: Hs)))
    (ht : ∀ i v s' (Q : Unit → Shared → Prop) E, Pv i v → St (i + 1) s'.heap → Q () s' → wpAny (model pw w) A (letOwnedTupleGo target (.ref I) v) Q E s')
    (step : ∀ i v ys h₁ tk C cenv Hc owc g₁ oI D oD, i < n → Pv i v → IsEnv cenv (CE scope (closL env scope.names []) C env) → owc = C :: (cellsFrom (C + 1) scope.names []).map (·.2) →
      Keeps (hideAll s.heap (I :: Hs)) (hideAll h₁ Hc) → J i ys (hideAll h₁ Hc) → ys.length ≤ i → Sx w mean mg mb g₁ Hc cenv owc mf [(I, (· = oI)), (D, (· = oD))] h₁ →
      wpAny (model pw w) A (assign target cenv v) (fun _ s₁ => wpAny (model pw w) A (forIn ifs true fun c r => if r = true then do let ok ← isTrue c cenv (eval c cenv); pure (ForInStep.yield ok) else pure (ForInStep.yield r))
        (fun ok s₂ => if ok = true then wpAny (model pw w) A (eval elt cenv) (fun y s₃ => ElPost w mean mg mb g₁ Hc cenv owc mf I oI D oD (J (i + 1)) { s with heap := h₁, toks := tk } (ys ++ [y]) s₃) (fun _ _ => False) s₂
          else ElPost w mean mg mb g₁ Hc cenv owc mf I oI D oD (J (i + 1)) { s with heap := h₁, toks := tk } ys s₂) (fun _ _ => False) s₁) (fun _ _ => False) { s with heap := h₁, toks := tk })
    (hRR : ∀ D C h' tk ys mC, s.heap.get? D = none → s.heap.get? C = none → D ≠ C → h'.Ns C mC → Keeps (hideAll s.heap [I]) h' → (hideAll h' (C :: Hs)).PlainList D ys.toArray → J n ys (hideAll h' (C :: Hs)) → RR (.ref D) C (.ok .next) { s with heap := h', toks := tk }) :
    wpAny (model pw w) A (newList []) (fun acc s₃ => wpAny (model pw w) A (newFunctionEnv scope env.globals (closL env scope.names []) [] env.qual none .none (some env)) (fun cenv s₄ =>
      codeAny (model pw w) A (.compStart (.ListComp elt [⟨target, iter, ifs, 0⟩] scope pos) 0 (.ref I) acc { cenv with scope := relabel scope env }) (RR acc cenv.locals) s₄) E s₃) E s := by
  refine wpAny_newObj_type (newFunctionEnv_comp ?_)
  dsimp only
  generalize hH2 : s.heap.push { cls := .type "list", dict := none, data := .seq ([] : List Value).toArray } = H2
  have hC : H2.objs.size = s.heap.objs.size + 1 := by rw [← hH2, Heap.size_push]
  have k2 : Keeps s.heap H2 := fun b o e => hH2 ▸ Heap.get?_push_of_some _ e
  have k3 : Keeps H2 (H2.push { cls := .type "dict", data := .dict #[] }) := fun b o e => Heap.get?_push_of_some _ e
  have k4 : Keeps (H2.push { cls := .type "dict", data := .dict #[] }) (pushCells (H2.push { cls := .type "dict", data := .dict #[] }) scope.names) := fun b o e => pushCells_keeps _ _ b o e
  have ok := cellsFrom_ok scope.names (H2.push { cls := .type "dict", data := .dict #[] }) (H2.objs.size + 1) [] ⟨fun _ _ hm => (nomatch hm), List.Pairwise.nil⟩ (by rw [Heap.size_push]; exact Nat.le_refl _)
  rw [Heap.size_push] at ok
  have hns : (pushCells (H2.push { cls := .type "dict", data := .dict #[] }) scope.names).Ns H2.objs.size fun _ => none := (Heap.Ns.new H2 (.type "dict")).keeps (pushCells_keeps _ _)
  have hD3 : (pushCells (H2.push { cls := .type "dict", data := .dict #[] }) scope.names).get? s.heap.objs.size = some { cls := .type "list", dict := none, data := .seq ([] : List Value).toArray } :=
    k4 _ _ (k3 _ _ (hH2 ▸ Heap.get?_push_size _ rfl))
  generalize hH3 : pushCells (H2.push { cls := .type "dict", data := .dict #[] }) scope.names = H3 at ok hns hD3 k4 ⊢
  generalize hCC : H2.objs.size = C at ok hns ⊢
  rw [hCC] at hC
  have kk : Keeps s.heap H3 := (k2.trans k3).trans k4
  obtain ⟨V3, hown, hclive⟩ := comp_vars V hmf hok hnd (by omega) kk hns ok
  generalize hD : s.heap.objs.size = D at hC hD3 ⊢
  have hfC : s.heap.get? C = none := none_ge (by omega)
  have hfD : s.heap.get? D = none := none_ge (by omega)
  have hDC : D ≠ C := by omega
  have hocge : ∀ b : Nat, b ∈ C :: (cellsFrom (C + 1) scope.names []).map (·.2) → C ≤ b := fun b hb => by
    rcases List.mem_cons.mp hb with rfl | hb
    · exact Nat.le_refl _
    · obtain ⟨p, hp, rfl⟩ := List.mem_map.mp hb
      have h9 : C + 1 ≤ (p.2 : Nat) := (ok.empty p.1 p.2 hp).2
      show C ≤ (p.2 : Nat); omega
  have hIlt : @LT.lt Nat _ I s.heap.objs.size := let ⟨o, e⟩ := hlive 0 _ st0; Heap.lt_size e
  have hfr : ∀ b ∈ D :: C :: (cellsFrom (C + 1) scope.names []).map (·.2), s.heap.get? b = none := fun b hb => by
    rcases List.mem_cons.mp hb with rfl | hb
    · exact hfD
    · have := hocge b hb; exact none_ge (by omega)
  have hlv : ∀ b ∈ D :: C :: (cellsFrom (C + 1) scope.names []).map (·.2), ∃ o, H3.get? b = some o := fun b hb => by
    rcases List.mem_cons.mp hb with rfl | hb
    · exact ⟨_, hD3⟩
    · rcases List.mem_cons.mp hb with rfl | hb
      · obtain ⟨o, _, _, e, _⟩ := hns; exact ⟨o, e⟩
      · obtain ⟨p, hp, rfl⟩ := List.mem_map.mp hb
        obtain ⟨⟨o, e, _⟩, _⟩ := ok.empty p.1 p.2 hp; exact ⟨o, e⟩
  have hDn : D ∉ C :: (cellsFrom (C + 1) scope.names []).map (·.2) := fun hm => by have := hocge D hm; omega
  obtain ⟨C3, kv⟩ := C₀.more kk hfr hlv (List.nodup_cons.mpr ⟨hDn, hown⟩)
  generalize hHc : (D :: C :: (cellsFrom (C + 1) scope.names []).map (·.2)) ++ (I :: Hs) = Hc at C3 kv
  have hIc : I ∈ Hc := hHc ▸ List.mem_append_right _ List.mem_cons_self
  generalize how : C :: (cellsFrom (C + 1) scope.names []).map (·.2) = owc at *
  have hg1 : Keeps (hideAll s.heap [I]) H3 := vis_self.trans kk
  have hout : ∀ b ∈ ownOf (CE scope (closL env scope.names []) C env), b ∈ owc ∨ b ∈ (closL env scope.names []).map (·.2) := fun b hb => by
    have hb' : b ∈ C :: (cellsFrom (C + 1) scope.names (closL env scope.names [])).map (·.2) := hb
    rw [show cellsFrom (C + 1) scope.names (closL env scope.names []) = cellsFrom (C + 1) scope.names [] ++ closL env scope.names [] by rw [← cellsFrom_append, List.nil_append], List.map_append, ← List.cons_append, how] at hb'
    exact List.mem_append.mp hb'
  have hDo : D ∉ ownOf (CE scope (closL env scope.names []) C env) := fun hm => by
    rcases hout D hm with h1 | h1
    · exact hDn h1
    · obtain ⟨o, e⟩ := hclive D h1; rw [hfD] at e; cases e
  have hIo' : I ∉ ownOf (CE scope (closL env scope.names []) C env) := fun hm => by
    rcases hout I hm with h1 | h1
    · have h9 : @LE.le Nat _ C I := hocge I h1
      omega
    · obtain ⟨p, hp, e⟩ := List.mem_map.mp h1
      rcases closL_mem (n := p.1) (c := p.2) hp with h2 | ⟨h2, e2⟩
      · cases h2
      · obtain ⟨⟨c', hc'⟩, _⟩ := compOk_free hok h2
        rw [hc'] at e2
        exact hIo (List.mem_cons_of_mem _ (List.mem_map.mpr ⟨_, mem_of_lookup hc', by rw [← e]; exact e2.symm⟩))
  obtain ⟨oI0, hoI0⟩ := hlive 0 _ st0
  have S3 : Sx w mean mg mb (hideAll s.heap [I]) Hc (CE scope (closL env scope.names []) C env) owc mf [(I, fun _ => True), (D, listP [])] H3 := by
    refine ⟨hg1, C3, V3, fun p hp => ?_, fun b hb => ?_, ?_⟩
    · rcases List.mem_cons.mp hp with rfl | hp
      · exact ⟨oI0, kk _ _ hoI0, trivial⟩
      · rw [List.mem_singleton.mp hp]; exact ⟨_, hD3, _, rfl⟩
    · have hb' : b ∈ owc ∨ b = I ∨ b = D := by
        rcases List.mem_append.mp hb with h1 | h1
        · exact .inl h1
        · simp only [List.map_cons, List.map_nil, List.mem_cons, List.not_mem_nil, or_false] at h1; exact .inr h1
      rcases hb' with h1 | rfl | rfl
      · refine ⟨hHc ▸ List.mem_append_left _ (List.mem_cons_of_mem _ h1), ?_⟩
        cases e : (hideAll s.heap [I]).get? b with
        | none => rfl
        | some o => have := vis_self _ _ e; rw [hfr b (List.mem_cons_of_mem _ h1)] at this; cases this
      · exact ⟨hIc, hideAll_none _ List.mem_cons_self⟩
      · refine ⟨hHc ▸ List.mem_append_left _ List.mem_cons_self, ?_⟩
        cases e : (hideAll s.heap [I]).get? b with
        | none => rfl
        | some o => have := vis_self _ _ e; rw [hfD] at this; cases this
    · refine List.nodup_append.mpr ⟨hown, ?_, fun a ha b hb q => ?_⟩
      · show [I, D].Nodup
        refine List.nodup_cons.mpr ⟨fun hm => ?_, List.nodup_cons.mpr ⟨fun hm => by (cases hm), List.Pairwise.nil⟩⟩
        have h9 : @Eq Nat I D := List.mem_singleton.mp hm
        omega
      · have h1 := hocge a ha
        simp only [List.map_cons, List.map_nil, List.mem_cons, List.not_mem_nil, or_false] at hb
        rcases hb with h2 | h2
        · have h9 : @Eq Nat a I := q.trans h2
          have h8 : @LE.le Nat _ C a := h1
          omega
        · have h9 : @Eq Nat a D := q.trans h2
          have h8 : @LE.le Nat _ C a := h1
          omega
  have hVis : ∀ {mf' mu' h'}, Sx w mean mg mb (hideAll s.heap [I]) Hc (CE scope (closL env scope.names []) C env) owc mf' mu' h' → Keeps (hideAll s.heap (I :: Hs)) (hideAll h' Hc) := fun S' => fun b o e => by
    have hb := not_hid e
    have e0 := vis_self _ _ e
    refine hideAll_get _ (S'.base b o (hideAll_get _ e0 fun hm => hb (List.mem_singleton.mp hm ▸ List.mem_cons_self))) fun hm => ?_
    rw [← hHc] at hm
    rcases List.mem_append.mp hm with hm | hm
    · rw [hfr b hm] at e0; cases e0
    · exact hb hm
  have hfp' : ∀ {mf' mu' mf'' mu'' h₁ h₂}, Sx w mean mg mb (hideAll s.heap [I]) Hc (CE scope (closL env scope.names []) C env) owc mf' mu' h₁ → Sx w mean mg mb (hideAll s.heap [I]) Hc (CE scope (closL env scope.names []) C env) owc mf'' mu'' h₂ →
      ∀ b ∈ fp, b ≠ I → ∀ o, h₁.get? b = some o → h₂.get? b = some o := fun S1 S2 b hb hbI o e => by
    rcases hfp b hb with h1 | ⟨o', e'⟩
    · exact absurd h1 hbI
    · have e1 := vis_self _ _ (hVis S1 b o' e')
      have e2 := vis_self _ _ (hVis S2 b o' e')
      rw [e] at e1; cases e1; exact e2
  have loop : codeAny (model pw w) A (.compLoop (.ListComp elt [⟨target, iter, ifs, 0⟩] scope pos) 0 (.ref I) (.ref D) (CE scope (closL env scope.names []) C env)) (RR (.ref D) C) { s with heap := H3 } := by
    refine codeAny_compLoop_own
      (fun k s' => ∃ i h' tk ys, s' = { s with heap := h', toks := tk } ∧ St i h' ∧ Sx w mean mg mb (hideAll s.heap [I]) Hc (CE scope (closL env scope.names []) C env) owc mf [(I, fun _ => True), (D, listP ys)] h' ∧ J i ys (hideAll h' Hc) ∧ ys.length ≤ i ∧ i ≤ n ∧ k = n + 1 - i) ?_ (n + 1)
      ⟨0, H3, s.toks, [], rfl, W.frame _ _ _ st0 fun b _ o e => kk b o e, S3, hJ _ _ _ _ kv j0, Nat.le_refl _, Nat.zero_le _, rfl⟩
    rintro k s' ⟨i, h₁, tk, ys, rfl, hst, S₁, hj, hle, hi, rfl⟩
    by_cases hlt : i < n
    · refine W.item i _ _ _ hlt hst fun v h₂ tk₂ hPv hst₂ hk₂ => ?_
      obtain ⟨oI, hoI⟩ := hlive _ _ hst₂
      obtain ⟨S₂, kk₂⟩ := S₁.extG hIo' (P' := (· = oI)) (fun b o hb e => hk₂ b o (fun q => hb (List.mem_singleton.mp q)) e) hoI rfl
      obtain ⟨oD, hoD, hPD⟩ := S₂.own (D, listP ys) (List.mem_cons_of_mem _ List.mem_cons_self)
      have S₂' : Sx w mean mg mb (hideAll s.heap [I]) Hc (CE scope (closL env scope.names []) C env) owc mf [(I, (· = oI)), (D, (· = oD))] h₂ :=
        ⟨S₂.base, S₂.cx, S₂.vars, fun p hp => by
          rcases List.mem_cons.mp hp with rfl | hp
          · exact ⟨oI, hoI, rfl⟩
          · rw [List.mem_singleton.mp hp]; exact ⟨oD, hoD, rfl⟩, S₂.wr, S₂.nd⟩
      refine ht i v _ _ _ hPv hst₂ (wpAny_noRaise (wpAny_mono (step i v ys h₂ tk₂ C _ Hc owc (hideAll s.heap [I]) oI D oD hlt hPv rfl how.symm (hVis S₂') (hJ _ _ _ _ kk₂ hj) hle S₂') (fun _ s₃ h₃ => ?_) fun _ _ e => e))
      refine wpAny_noRaise (wpAny_mono h₃ (fun ok s₄ h₄ => ?_) fun _ _ e => e)
      have hstOf : ∀ {oD'} h₅, Sx w mean mg mb (hideAll s.heap [I]) Hc (CE scope (closL env scope.names []) C env) owc mf [(I, (· = oI)), (D, (· = oD'))] h₅ → St (i + 1) h₅ := fun h₅ S₅ =>
        W.frame _ _ _ hst₂ fun b hb o e => by
          by_cases hbI : b = I
          · subst hbI
            obtain ⟨o5, e5, rfl⟩ := S₅.own _ List.mem_cons_self
            rw [hoI] at e; cases e; exact e5
          · exact hfp' S₂' S₅ b hb hbI o e
      have hopen : ∀ {h₅ oD' ys'}, Sx w mean mg mb (hideAll s.heap [I]) Hc (CE scope (closL env scope.names []) C env) owc mf [(I, (· = oI)), (D, (· = oD'))] h₅ → listP ys' oD' →
          Sx w mean mg mb (hideAll s.heap [I]) Hc (CE scope (closL env scope.names []) C env) owc mf [(I, fun _ => True), (D, listP ys')] h₅ := fun S₅ hl =>
        ⟨S₅.base, S₅.cx, S₅.vars, fun p hp => by
          rcases List.mem_cons.mp hp with rfl | hp
          · obtain ⟨o, e, _⟩ := S₅.own _ List.mem_cons_self; exact ⟨o, e, trivial⟩
          · rw [List.mem_singleton.mp hp]
            obtain ⟨o, e, q⟩ := S₅.own _ (List.mem_cons_of_mem _ List.mem_cons_self)
            exact ⟨o, e, q ▸ hl⟩, S₅.wr, S₅.nd⟩
      cases ok with
      | false =>
        rw [if_neg Bool.false_ne_true] at h₄ ⊢
        obtain ⟨h₅, tk₅, rfl, S₅, hj₅⟩ := h₄
        exact ⟨n + 1 - (i + 1), by omega, i + 1, h₅, tk₅, ys, rfl, hstOf _ S₅, hopen S₅ hPD, hj₅, by omega, hlt, rfl⟩
      | true =>
        rw [if_pos rfl] at h₄ ⊢
        refine wpAny_noRaise (wpAny_mono h₄ (fun y s₅ h₅' => ?_) fun _ _ e => e)
        obtain ⟨h₅, tk₅, rfl, S₅, hj₅⟩ := h₅'
        have hlD : h₅.PlainList D ys.toArray := by
          obtain ⟨o, e, q⟩ := S₅.own _ (List.mem_cons_of_mem _ List.mem_cons_self)
          obtain ⟨n9, q9⟩ := hPD
          have q8 : o = oD := q
          exact ⟨n9, by rw [e, q8, q9]⟩
        have hysz : ys.toArray.size ≤ sizeLine := by
          have : ys.toArray.size = ys.length := by simp
          omega
        refine wpAny_list_append_plain (s := { s with heap := h₅, toks := tk₅ }) hlD (fun h₆ hl₆ hs₆ => ?_) hysz
        obtain ⟨n6, e6⟩ := hl₆
        have S₅' := S₅.perm (mu' := [(D, (· = oD)), (I, (· = oI))]) (List.Perm.swap ..)
        obtain ⟨S₆, kk₆⟩ := S₅'.extG hDo (P' := (· = _)) (h' := h₆) (fun b o hb e => hs₆.extBut b o hb e) e6 rfl
        have S₆' := S₆.perm (mu' := [(I, (· = oI)), (D, _)]) (List.Perm.swap ..)
        exact ⟨n + 1 - (i + 1), by omega, i + 1, h₆, tk₅, ys ++ [y], rfl, hstOf _ S₆', hopen S₆' ⟨n6, by simp⟩, hJ _ _ _ _ kk₆ hj₅, by simp; omega, hlt, rfl⟩
    · have hin : i = n := by omega
      subst hin
      refine W.done _ _ _ hst fun h₂ tk₂ hk₂ => ?_
      have hstay : ∀ b o, b ≠ I → h₁.get? b = some o → h₂.get? b = some o := fun b o hb e => hk₂ b o (fun q => hb (List.mem_singleton.mp q)) e
      have hCI : C ≠ I := fun q => by have h9 : @Eq Nat C I := q; omega
      obtain ⟨ml, hml, _⟩ := S₁.vars.ns
      have kvis : Keeps (hideAll h₁ Hc) (hideAll h₂ (C :: Hs)) := vis_to (fun b o hb e => hstay b o (fun q => hb (q ▸ hIc)) e) fun b hb => .inl (by
        rw [← hHc]
        rcases List.mem_cons.mp hb with rfl | hb
        · exact List.mem_append_left _ (List.mem_cons_of_mem _ (how ▸ List.mem_cons_self))
        · exact List.mem_append_right _ (List.mem_cons_of_mem _ hb))
      refine hRR D C h₂ tk₂ ys _ hfD hfC hDC (hml.at' fun o e => hstay _ o hCI e) (fun b o e => hstay b o (fun q => by rw [q, hideAll_none _ List.mem_cons_self] at e; cases e) (S₁.base b o e)) ?_ (hJ _ _ _ _ kvis hj)
      obtain ⟨o, e, n9, q9⟩ := S₁.own (D, listP ys) (List.mem_cons_of_mem _ List.mem_cons_self)
      subst q9
      refine ⟨n9, hideAll_get _ (hstay _ _ (fun q => by have h9 : @Eq Nat D I := q; omega) e) fun hm => ?_⟩
      rcases List.mem_cons.mp hm with h1 | h1
      · exact hDC h1
      · obtain ⟨o', e'⟩ := C₀.live D (List.mem_cons_of_mem _ h1)
        rw [hfD] at e'; cases e'
  exact codeAny_compStart_list loop (W.self 0 _ _ _ (W.frame _ _ _ st0 fun b _ o e => kk b o e) loop)
end
end Mine
end
section
open PySem PySem.W PyProof.Rows PySem.Calls
set_option Elab.async false
set_option maxRecDepth 100000
set_option linter.unusedVariables false
namespace Mine
theorem cellsFrom_has : ∀ {l : List (Str × NameKind)} {n : Nat} {acc : List (Str × Addr)} {x : Str}, (x, NameKind.cell) ∈ l → ∃ c, (x, c) ∈ cellsFrom n l acc
  | (y, k) :: r, n, acc, x, h => by
    have keep : ∀ {l : List (Str × NameKind)} {n : Nat} {acc : List (Str × Addr)} {p : Str × Addr}, p ∈ acc → p ∈ cellsFrom n l acc := by
      intro l
      induction l with
      | nil => intro n acc p hp; exact hp
      | cons q r ih =>
        intro n acc p hp
        obtain ⟨y, k⟩ := q
        rw [cellsFrom]
        split
        · exact ih (List.mem_cons_of_mem _ hp)
        · exact ih hp
    rw [cellsFrom]
    rcases List.mem_cons.mp h with e | h
    · cases e
      exact ⟨n, by rw [if_pos (by decide)]; exact keep List.mem_cons_self⟩
    · split
      · exact cellsFrom_has h
      · exact cellsFrom_has h
theorem lookup_of_in {α : Type} : ∀ {l : List (Str × α)} {x : Str} {c : α}, (x, c) ∈ l → ∃ c', l.lookup x = some c'
  | (k, v) :: r, x, c, h => by
    rw [List.lookup_cons]
    by_cases hx : x = k
    · subst hx; exact ⟨v, by simp⟩
    · have : (x == k) = false := by simpa using hx
      rw [this]
      rcases List.mem_cons.mp h with e | h
      · cases e; exact absurd rfl hx
      · exact lookup_of_in h
theorem where_tgt {scope : Scope} {env : Env} {x : Str} {C : Addr} (hx : scope.names.lookup x = some .local ∨ scope.names.lookup x = some .cell) :
    ∃ D, whereIs (CE scope (closL env scope.names []) C env) x = some D ∧ D ∈ C :: (cellsFrom (C + 1) scope.names []).map (·.2) := by
  have hk : (CE scope (closL env scope.names []) C env).kindOf x = (scope.names.lookup x).map fun k => if (k == NameKind.free && env.scope.kind == .function && env.kindOf x == some .cell) then NameKind.cell else k := look_relabel scope.names x
  unfold whereIs
  rcases hx with hx | hx
  · rw [hx] at hk
    have hk' : (CE scope (closL env scope.names []) C env).kindOf x = some .local := hk
    rw [hk']
    exact ⟨_, rfl, List.mem_cons_self⟩
  · rw [hx] at hk
    have hk' : (CE scope (closL env scope.names []) C env).kindOf x = some .cell := hk
    rw [hk']
    obtain ⟨c, hc⟩ := cellsFrom_has (n := C + 1) (acc := []) (mem_of_lookup hx)
    obtain ⟨c', hc'⟩ := lookup_of_in hc
    refine ⟨c', ?_, List.mem_cons_of_mem _ (List.mem_map.mpr ⟨_, mem_of_lookup hc', rfl⟩)⟩
    show (cellsFrom (C + 1) scope.names (closL env scope.names [])).lookup x = some c'
    rw [show cellsFrom (C + 1) scope.names (closL env scope.names []) = cellsFrom (C + 1) scope.names [] ++ closL env scope.names [] by rw [← cellsFrom_append, List.nil_append], List.lookup_append, hc']
    rfl
/-- after one item, nothing old is changed -/
noncomputable def ElP (h₁ : Heap) (Hc : List Addr) (J : List Value → Heap → Prop) (s : Shared) (ys : List Value) (s' : Shared) : Prop := ∃ h' tk, s' = { s with heap := h', toks := tk } ∧ Keeps h₁ h' ∧ J ys (hideAll h' Hc)
section
variable {w : World} {mean : ExcName → Option Value} {mg mb : Str → Option Value} {A : Around} {E : Value → Shared → Prop} {s : Shared} {g₀ h h' : Heap} {Hs : List Addr} {env : Env} {ow : List Addr} {m mf : List (Str × Value)} {mu : Mu}
  {x : Str} {pos px : Pos} {v : Value} {D I : Addr} {P P' : Obj → Prop} {o : Obj} {vs : List Value} {scope : Scope} {R : Result → Shared → Prop}
abbrev Tail (w : World) (A : Around) (E : Value → Shared → Prop) (env : Env) (scope : Scope) (elt target iter : Expr) (ifs : List Expr) (pos : Pos) (RR : Value → Addr → Result → Shared → Prop) (it : Value) (s : Shared) : Prop :=
  wpAny (model pw w) A (newList []) (fun acc s₃ => wpAny (model pw w) A (newFunctionEnv scope env.globals (closL env scope.names []) [] env.qual none .none (some env)) (fun cenv s₄ =>
      codeAny (model pw w) A (.compStart (.ListComp elt [⟨target, iter, ifs, 0⟩] scope pos) 0 it acc { cenv with scope := relabel scope env }) (RR acc cenv.locals) s₄) E s₃) E s
abbrev StepN (w : World) (mean : ExcName → Option Value) (mg mb : Str → Option Value) (A : Around) (env : Env) (scope : Scope) (elt : Expr) (ifs : List Expr) (x : Str) (mf : List (Str × Value)) (Hs : List Addr) (n : Nat) (Pv : Nat → Value → Prop) (J : Nat → List Value → Heap → Prop) (s : Shared) : Prop :=
  ∀ i v ys h₁ tk C cenv Hc owc g₁ mu, i < n → Pv i v → IsEnv cenv (CE scope (closL env scope.names []) C env) → Keeps (hideAll s.heap Hs) (hideAll h₁ Hc) → J i ys (hideAll h₁ Hc) → ys.length ≤ i →
    Sx w mean mg mb g₁ Hc cenv owc ((x, v) :: mf) mu h₁ →
    wpAny (model pw w) A (forIn ifs true fun c r => if r = true then do let ok ← isTrue c cenv (eval c cenv); pure (ForInStep.yield ok) else pure (ForInStep.yield r))
      (fun ok s₂ => if ok = true then wpAny (model pw w) A (eval elt cenv) (fun y s₃ => ElP h₁ Hc (J (i + 1)) { s with heap := h₁, toks := tk } (ys ++ [y]) s₃) (fun _ _ => False) s₂
        else ElP h₁ Hc (J (i + 1)) { s with heap := h₁, toks := tk } ys s₂) (fun _ _ => False) { s with heap := h₁, toks := tk }
abbrev RRok (Hs : List Addr) (J : List Value → Heap → Prop) (s : Shared) (RR : Value → Addr → Result → Shared → Prop) : Prop :=
  ∀ D C h' tk ys mC, s.heap.get? D = none → s.heap.get? C = none → D ≠ C → h'.Ns C mC → Keeps s.heap h' → (hideAll h' (C :: Hs)).PlainList D ys.toArray → J ys (hideAll h' (C :: Hs)) → RR (.ref D) C (.ok .next) { s with heap := h', toks := tk }
theorem Sx.lessF {m' : List (Str × Value)} (S : Sx w mean mg mb g₀ Hs env ow m mu h) (k : ∀ x v, m'.lookup x = some v → m.lookup x = some v) : Sx w mean mg mb g₀ Hs env ow m' mu h :=
  ⟨S.base, S.cx, S.vars.less k, S.own, S.wr, S.nd⟩
theorem comp_all {elt iter : Expr} {ifs : List Expr} {n : Nat} {Pv : Nat → Value → Prop} {St : Nat → Heap → Prop} {fp : List Addr} {RR : Value → Addr → Result → Shared → Prop} {s₀ : Heap}
    (S : Sx w mean mg mb g₀ (I :: Hs) env ow m ((I, fun _ => True) :: mu) s.heap) (hI : s₀.get? I = none) (k0 : Keeps s₀ s.heap) (hIo : I ∉ ownOf env)
    (hmf : ∀ p ∈ mf, scope.names.lookup p.1 = some .free ∧ m.lookup p.1 = some p.2) (hok : compOk env scope = true) (hnd : (scope.names.map (·.1)).Nodup) (hkind : scope.kind = .function)
    (hx : scope.names.lookup x = some .local ∨ scope.names.lookup x = some .cell) (hxm : ∀ p ∈ mf, p.1 ≠ x)
    (W : Walks pw w A I fp [I] n Pv St) (hfp : ∀ b ∈ fp, b = I ∨ ∃ o, (hideAll s.heap (I :: Hs)).get? b = some o) (hlive : ∀ i h, St i h → ∃ o, h.get? I = some o) (st0 : St 0 s.heap) (hsz : n ≤ sizeLine)
    (J : Nat → List Value → Heap → Prop) (hJ : ∀ i ys g g', Keeps g g' → J i ys g → J i ys g') (j0 : J 0 [] (hideAll s.heap (I :: Hs)))
    (step : StepN w mean mg mb A env scope elt ifs x mf (I :: Hs) n Pv J s)
    (hRR : ∀ D C h' tk ys mC, s.heap.get? D = none → s.heap.get? C = none → D ≠ C → h'.Ns C mC → Keeps s₀ h' → (hideAll h' (C :: Hs)).PlainList D ys.toArray → J n ys (hideAll h' (C :: Hs)) → RR (.ref D) C (.ok .next) { s with heap := h', toks := tk }) :
    Tail w A E env scope elt (.Name x px) iter ifs pos RR (.ref I) s := by
  refine comp_core S.cx S.vars hmf hok hnd hIo W hfp hlive st0 hsz J hJ j0 (fun i v s' Q E _ _ hq => wpAny_of_eq rfl hq)
    (fun i v ys h₁ tk C cenv Hc owc g₁ oI D oD hi hv hcenv how k1 hj hle S1 => ?_) (fun D C h' tk ys mC hD hC hDC hns k1 hl hj => hRR D C h' tk ys mC hD hC hDC hns (fun b o e => k1 b o (hideAll_get _ (k0 b o e) fun hm => by rw [List.mem_singleton.mp hm, hI] at e; cases e)) hl hj)
  obtain ⟨D', hw, hD'⟩ := where_tgt (env := env) (C := C) hx
  have hk : cenv.scope.kind = .function := by rw [hcenv.eq]; exact hkind
  refine wpAny_assign_Name (stW S1 (D := D') (by rw [hcenv.eq]; exact hw) (how ▸ hD') (fun h₂ tk₂ S2 k2 => ?_) hk)
  refine wpAny_mono (step i v ys h₂ tk₂ C cenv Hc owc g₁ _ hi hv hcenv (k1.trans k2) (hJ _ _ _ _ k2 hj) hle S2) (fun ok s₃ h₃ => ?_) fun _ _ e => e
  have fin : ∀ ys' s', ElP h₂ Hc (J (i + 1)) { s with heap := h₂, toks := tk₂ } ys' s' → ElPost w mean mg mb g₁ Hc cenv owc mf I oI D oD (J (i + 1)) { s with heap := h₁, toks := tk } ys' s' := by
    rintro ys' s' ⟨h₅, tk₅, rfl, k5, hj5⟩
    exact ⟨h₅, tk₅, rfl, (S2.keeps k5).lessF fun y u hu => by
      rw [look_cons, if_neg (hxm (y, u) (mem_of_lookup hu))]
      exact hu, hj5⟩
  cases ok with
  | true => rw [if_pos rfl] at h₃ ⊢; exact wpAny_mono h₃ (fun y s₄ h₄ => fin _ _ h₄) fun _ _ e => e
  | false => rw [if_neg Bool.false_ne_true] at h₃ ⊢; exact fin _ _ h₃
theorem out_of_new (S : Sx w mean mg mb g₀ Hs env ow m mu h) (hI : h.get? I = none) : I ∉ ownOf env := fun hm => by
  obtain ⟨o, e⟩ := S.vars.live I hm
  rw [hI] at e; cases e
theorem compR {elt iter : Expr} {ifs : List Expr} {r : Addr} {a b : Int} {t u u' : Tok} {n : Nat} {RR : Value → Addr → Result → Shared → Prop}
    (S : Sx w mean mg mb g₀ Hs env ow m mu s.heap) (hr : IsRange (hideAll s.heap Hs) r a b 1 t u u') (hn : n = (b - a).toNat) (hb0 : -(2 ^ 62) ≤ a ∧ a < 2 ^ 62 ∧ -(2 ^ 62) ≤ b ∧ b < 2 ^ 62) (hh : A.handled = none)
    (hmf : ∀ p ∈ mf, scope.names.lookup p.1 = some .free ∧ m.lookup p.1 = some p.2) (hok : compOk env scope = true) (hnd : (scope.names.map (·.1)).Nodup) (hkind : scope.kind = .function)
    (hx : scope.names.lookup x = some .local ∨ scope.names.lookup x = some .cell) (hxm : ∀ p ∈ mf, p.1 ≠ x) (hsz : n ≤ sizeLine)
    (J : Nat → List Value → Heap → Prop) (hJ : ∀ i ys g g', Keeps g g' → J i ys g → J i ys g') (j0 : J 0 [] (hideAll s.heap Hs))
    (step : StepN w mean mg mb A env scope elt ifs x mf Hs n (fun i v => ∃ t, v = .int (a + (i : Int)) t) J s) (hRR : RRok Hs (J n) s RR) :
    wpAny (model pw w) A (pyIter (.ref r)) (fun it s₂ => Tail w A E env scope elt (.Name x px) iter ifs pos RR it s₂) E s := by
  refine wpAny_pyIter_range (vis_self _ _ hr) (small_one hb0.1 hb0.2.1 hb0.2.2.1 hb0.2.2.2) ?_
  have hsz' : Builtin.Range.rangeSize a b 1 = (n : Int) := by rw [rangeSize_one, hn]; split <;> omega
  rw [hsz']
  have hI : s.heap.get? s.heap.objs.size = none := none_ge (Nat.le_refl _)
  obtain ⟨S', kk⟩ := S.newM (o := { cls := .type "range_iterator", data := .fields #[rawInt a, rawInt n, rawInt 1] }) (P := fun _ => True) rfl trivial
  have kp : Keeps s.heap (s.heap.push { cls := .type "range_iterator", data := .fields #[rawInt a, rawInt n, rawInt 1] }) := fun b o e => Heap.get?_push_of_some _ e
  refine comp_all (s := { s with heap := _ }) (s₀ := s.heap) S' hI kp (out_of_new S hI) hmf hok hnd hkind hx hxm (Walks.range (prog := pw) (w := w) hh s.heap.objs.size a 1 n) (fun b hb => .inl (List.mem_singleton.mp hb)) (fun i h st => ⟨_, st⟩) ?_ hsz J hJ (hJ _ _ _ _ kk j0)
    (fun i v ys h₁ tk C cenv Hc owc g₁ mu hi hv hc k1 hj hle S1 => step i v ys h₁ tk C cenv Hc owc g₁ mu hi (by obtain ⟨t, e⟩ := hv; exact ⟨t, by rw [e, Int.mul_one]⟩) hc (kk.trans k1) hj hle S1)
    (fun D C h' tk ys mC hD hC hDC hns k1 hl hj => hRR D C h' tk ys mC ?_ ?_ hDC hns k1 hl hj)
  · have e := Heap.get?_push_size s.heap (o := { cls := .type "range_iterator", data := .fields #[rawInt a, rawInt n, rawInt 1] }) rfl
    simpa [IsRangeIter] using e
  · cases e : s.heap.get? D with
    | none => rfl
    | some o => have := kp _ _ e; rw [hD] at this; cases this
  · cases e : s.heap.get? C with
    | none => rfl
    | some o => have := kp _ _ e; rw [hC] at this; cases this
theorem compS {elt iter : Expr} {ifs : List Expr} {y : Str} {t : Tok} {RR : Value → Addr → Result → Shared → Prop}
    (S : Sx w mean mg mb g₀ Hs env ow m mu s.heap) (hh : A.handled = none)
    (hmf : ∀ p ∈ mf, scope.names.lookup p.1 = some .free ∧ m.lookup p.1 = some p.2) (hok : compOk env scope = true) (hnd : (scope.names.map (·.1)).Nodup) (hkind : scope.kind = .function)
    (hx : scope.names.lookup x = some .local ∨ scope.names.lookup x = some .cell) (hxm : ∀ p ∈ mf, p.1 ≠ x) (hsz : y.cps.size ≤ sizeLine)
    (J : Nat → List Value → Heap → Prop) (hJ : ∀ i ys g g', Keeps g g' → J i ys g → J i ys g') (j0 : J 0 [] (hideAll s.heap Hs))
    (step : StepN w mean mg mb A env scope elt ifs x mf Hs y.cps.size (fun i v => ∃ c t, y.cps[i]? = some c ∧ v = .str ⟨#[c]⟩ t) J s) (hRR : RRok Hs (J y.cps.size) s RR) :
    wpAny (model pw w) A (pyIter (.str y t)) (fun it s₂ => Tail w A E env scope elt (.Name x px) iter ifs pos RR it s₂) E s := by
  have hI : s.heap.get? s.heap.objs.size = none := none_ge (Nat.le_refl _)
  have go : ∀ o : Obj, o.isFreed = false → ∀ St : Nat → Heap → Prop, Walks pw w A s.heap.objs.size [s.heap.objs.size] [s.heap.objs.size] y.cps.size (SignAt y) St → St 0 (s.heap.push o) → (∀ i h, St i h → ∃ o, h.get? s.heap.objs.size = some o) →
      Tail w A E env scope elt (.Name x px) iter ifs pos RR (.ref s.heap.objs.size) { s with heap := s.heap.push o } := fun o hf St W st0 hlv => by
    obtain ⟨S', kk⟩ := S.newM (o := o) (P := fun _ => True) hf trivial
    have kp : Keeps s.heap (s.heap.push o) := fun b o e => Heap.get?_push_of_some _ e
    refine comp_all (s := { s with heap := _ }) (s₀ := s.heap) S' hI kp (out_of_new S hI) hmf hok hnd hkind hx hxm W (fun b hb => .inl (List.mem_singleton.mp hb)) hlv st0 hsz J hJ (hJ _ _ _ _ kk j0)
      (fun i v ys h₁ tk C cenv Hc owc g₁ mu hi hv hc k1 hj hle S1 => step i v ys h₁ tk C cenv Hc owc g₁ mu hi hv hc (kk.trans k1) hj hle S1)
      (fun D C h' tk ys mC hD hC hDC hns k1 hl hj => hRR D C h' tk ys mC ?_ ?_ hDC hns k1 hl hj)
    · cases e : s.heap.get? D with
      | none => rfl
      | some o => have := kp _ _ e; rw [hD] at this; cases this
    · cases e : s.heap.get? C with
      | none => rfl
      | some o => have := kp _ _ e; rw [hC] at this; cases this
  cases ha : y.cps.all (· < 128)
  · exact wpAny_pyIter_wide ha (go _ rfl _ (Walks.strWide (prog := pw) (w := w) hh s.heap.objs.size y t) ⟨_, Heap.get?_push_size _ rfl, rfl, rfl⟩ fun i h st => let ⟨o, e, _⟩ := st; ⟨o, e⟩)
  · exact wpAny_pyIter_ascii ha (go _ rfl _ (Walks.strAscii (prog := pw) (w := w) hh s.heap.objs.size y t) ⟨_, Heap.get?_push_size _ rfl, rfl, rfl⟩ fun i h st => let ⟨o, e, _⟩ := st; ⟨o, e⟩)
theorem evalComp {elt target iter : Expr} {ifs : List Expr} {Q : Value → Shared → Prop} (hok : compOk env scope = true) (hkind : scope.kind = .function) (hnames : ∀ y ∈ scope.names, y.2 = .local → scope.names.lookup y.1 = some .local)
    (hs : ∀ x, foldedSetIterable iter env x = pure x)
    (h : wpAny (model pw w) A (eval iter env) (fun xv s₁ => wpAny (model pw w) A (pyIter xv) (fun it s₂ => Tail w A E env scope elt target iter ifs pos (fun acc C => compPost (model pw w) A E none Q acc C) it s₂) E s₁) E s) :
    wpAny (model pw w) A (eval (.ListComp elt [⟨target, iter, ifs, 0⟩] scope pos) env) Q E s := by
  rw [eval_ListComp]
  exact wpAny_comprehension_free (use := none) rfl hs (closureFor_eq hok) hkind hnames h
theorem execComp {elt target iter : Expr} {ifs : List Expr} {y : Str} {py spos : Pos} {Q : Flow → Shared → Prop} (hok : compOk env scope = true) (hkind : scope.kind = .function) (hnames : ∀ y ∈ scope.names, y.2 = .local → scope.names.lookup y.1 = some .local)
    (hsw : swapsWith (.ListComp elt [⟨target, iter, ifs, 0⟩] scope pos) (some (.Name y py)) spos.line env = pure true) (hs : ∀ x, foldedSetIterable iter env x = pure x)
    (h : wpAny (model pw w) A (eval iter env) (fun xv s₁ => wpAny (model pw w) A (pyIter xv) (fun it s₂ => Tail w A E env scope elt target iter ifs pos (fun acc C => compPost (model pw w) A E (some (assign (.Name y py) env)) (fun _ s' => Q .next s') acc C) it s₂) E s₁) E s) :
    wpAny (model pw w) A (exec (.Assign [.Name y py] (.ListComp elt [⟨target, iter, ifs, 0⟩] scope pos) spos) env) Q E s := by
  rw [exec_Assign_Name_used _ _ _ _ hsw]
  refine wpAny_bind (wpAny_standAt (wpAny_bind ?_))
  show wpAny _ A (do let _ ← comprehension (.ListComp elt [⟨target, iter, ifs, 0⟩] scope pos) scope env _ (newList []) false (eval iter env) (some (assign (.Name y py) env))) _ _ s
  exact wpAny_bind (wpAny_mono (wpAny_comprehension_free (use := some (assign (.Name y py) env)) (Q := fun _ s' => Q .next s') rfl hs (closureFor_eq hok) hkind hnames h) (fun _ s' hq => wpAny_pure (wpAny_pure hq)) fun _ _ e => e)
theorem hid_in (S : Sx w mean mg mb g₀ Hs env ow m mu h) {C : Addr} (hC : h.get? C = none) (k : Keeps h h') (ho : h'.get? C = some o) :
    Sx w mean mg mb g₀ (C :: Hs) env ow m ((C, fun _ => True) :: mu) h' ∧ Keeps (hideAll h Hs) (hideAll h' (C :: Hs)) ∧ C ∉ ownOf env :=
  let ⟨S', kk⟩ := S.made (P := fun _ => True) hC k ho trivial
  ⟨S', kk, out_of_new S hC⟩
theorem rrV {J : List Value → Heap → Prop} {Q : Value → Shared → Prop} (S : Sx w mean mg mb g₀ Hs env ow m mu s.heap) (hJ : ∀ ys g g', Keeps g g' → J ys g → J ys g')
    (done : ∀ D h' tk ys, Sx w mean mg mb g₀ Hs env ow m mu h' → Keeps (hideAll s.heap Hs) (hideAll h' Hs) → (hideAll h' Hs).PlainList D ys.toArray → J ys (hideAll h' Hs) → Q (.ref D) { s with heap := h', toks := tk }) :
    RRok Hs J s (fun acc C => compPost (model pw w) A E none Q acc C) := by
  intro D C h' tk ys mC hD hC hDC hns k1 hl hj
  refine ⟨mC, hns, fun h'' hs'' => ?_⟩
  obtain ⟨o, _, _, e, _⟩ := id hns
  obtain ⟨S', kk, hCo⟩ := hid_in S hC k1 e
  obtain ⟨S'', kk'⟩ := S'.dropG hCo (h' := h'') (fun b o hb e => hs''.extBut b o hb e)
  exact done D h'' tk ys S'' (kk.trans kk') (hl.at fun o e => kk' _ _ e) (hJ _ _ _ kk' hj)
theorem rrA {J : List Value → Heap → Prop} {y : Str} {py : Pos} {Q : Value → Shared → Prop} (S : Sx w mean mg mb g₀ Hs env (ownOf env) m mu s.heap) (hJ : ∀ ys g g', Keeps g g' → J ys g → J ys g') (hk : env.scope.kind = .function) (hy : stOk env y = true)
    (done : ∀ D h' tk ys, Sx w mean mg mb g₀ Hs env (ownOf env) ((y, .ref D) :: m) mu h' → Keeps (hideAll s.heap Hs) (hideAll h' Hs) → (hideAll h' Hs).PlainList D ys.toArray → J ys (hideAll h' Hs) → Q .none { s with heap := h', toks := tk }) :
    RRok Hs J s (fun acc C => compPost (model pw w) A E (some (assign (.Name y py) env)) Q acc C) := by
  intro D C h' tk ys mC hD hC hDC hns k1 hl hj
  obtain ⟨o, _, _, e, _⟩ := id hns
  obtain ⟨S', kk, hCo⟩ := hid_in S hC k1 e
  show wpAny (model pw w) A (assign (.Name y py) env (.ref D)) _ E _
  obtain ⟨D', hw, hD'⟩ := stOk_where hy
  have hCD : C ≠ D' := fun q => hCo (q ▸ hD')
  have S2 : Sx w mean mg mb g₀ (C :: Hs) env (ownOf env) m ((C, (· = o)) :: mu) h' := (S'.extG (P' := (· = o)) hCo (fun _ _ _ e => e) e rfl).1
  refine wpAny_assign_Name (stV (s := { s with heap := h', toks := tk }) S2 (fun h₂ tk₂ S3 k3 => ?_) hk hy)
  obtain ⟨o', e', rfl⟩ := S3.own _ List.mem_cons_self
  refine ⟨mC, ?_, fun h'' hs'' => ?_⟩
  · obtain ⟨o1, es, ep, e1, r⟩ := hns
    have e2 : h'.get? C = some o1 := e1
    have e4 : h'.get? C = some o' := e
    rw [e2] at e4
    have e5 := Option.some.inj e4
    subst e5
    exact ⟨_, es, ep, e', r⟩
  · obtain ⟨S4, kk'⟩ := S3.dropG hCo (h' := h'') (fun b o hb e => hs''.extBut b o hb e)
    exact done D h'' tk₂ ys S4 ((kk.trans k3).trans kk') (hl.at fun o e => kk' _ _ (k3 _ _ e)) (hJ _ _ _ kk' (hJ _ _ _ k3 hj))
end
end Mine
end
section
open PySem PySem.W PyProof.Rows PySem.Calls
set_option Elab.async false
set_option maxRecDepth 100000
set_option linter.unusedVariables false
namespace Mine
abbrev sT (l : List Nat) : Str := ⟨l.toArray⟩
theorem sT_eq (x : Str) : sT x.cps.toList = x := by cases x; simp [sT]
theorem len_sT (l : List Nat) : (sT l).length = l.length := by show (l.toArray).size = _; simp
section
variable {w : World} {mean : ExcName → Option Value} {mg mb : Str → Option Value} {A : Around} {E : Value → Shared → Prop} {s : Shared} {g₀ h h' : Heap} {Hs : List Addr} {env : Env} {ow : List Addr} {m : List (Str × Value)} {mu : Mu}
  {x : Str} {pos : Pos} {v : Value} {D : Addr} {P P' : Obj → Prop} {o : Obj} {Q : Value → Shared → Prop} {vs ys zs : List Value} {value slice : Expr}
/-- items of a list, of a tuple, of a text -/
theorem itemL {a : Addr} {k : Int} {u : Tok} (hl : s.heap.IsList a vs.toArray) (h0 : 0 ≤ k) (hfit : k < 2 ^ 63) (hx : vs[k.toNat]? = some v) (h : Q v s)
    (hs : subscripted slice false (.ref a) (.int k u) = operate [.ref a, .int k u] (getItem (.ref a) (.int k u))) (ht : ∀ r, letTemporaryGo value (.ref a) r = pure ()) :
    wpAny (model pw w) A (subscriptTail value slice (.ref a) (.int k u)) Q E s :=
  subscriptTail_builtin hl.typeIs slot_list_getitem.lookup (getItem_listL hl h0 hfit hx h) hs ht
theorem itemS {l : List Nat} {t u : Tok} {k : Int} {c : Nat} (h0 : 0 ≤ k) (hfit : k < 2 ^ 63) (hc : l[k.toNat]? = some c) (h : Q (.str ⟨#[c]⟩ s.toks) { s with toks := s.toks + 1 })
    (hs : subscripted slice false (.str (sT l) t) (.int k u) = operate [.str (sT l) t, .int k u] (getItem (.str (sT l) t) (.int k u))) (ht : ∀ r, letTemporaryGo value (.str (sT l) t) r = pure ()) :
    wpAny (model pw w) A (subscriptTail value slice (.str (sT l) t) (.int k u)) Q E s := by
  refine subscriptTail_builtin (typeIs_str s _ t) PySem.F.slot_str_getitem.lookup (P.getItem_str ?_ ?_ h) hs ht
  · simp only [Bool.or_eq_false_iff, decide_eq_false_iff_not]; omega
  · have hlt := (List.getElem?_eq_some_iff.mp hc).1
    unfold seqIndex?
    rw [len_sT]
    have h1 : (0 ≤ (if k < 0 then k + l.length else k) && (if k < 0 then k + (l.length : Int) else k) < l.length) = true := by
      rw [if_neg (by omega)]; simp; omega
    simp only [h1, if_true]
    rw [if_neg (by omega)]
    simpa [sT] using hc
theorem itemT {a : Addr} {k : Int} {u : Tok} {j : Nat} (ht : IsTup s.heap a vs.toArray) (hlo : -(2 ^ 63) ≤ k) (hhi : k < 2 ^ 63) (hj : seqIndex? k vs.length = some j) (hx : vs[j]? = some v) (h : Q v s)
    (hs : subscripted slice false (.ref a) (.int k u) = operate [.ref a, .int k u] (getItem (.ref a) (.int k u))) (hg : ∀ r, letTemporaryGo value (.ref a) r = pure ()) :
    wpAny (model pw w) A (subscriptTail value slice (.ref a) (.int k u)) Q E s := item_tupleL ht hlo hhi hj hx h hs hg
/-- a slice of a text -/
theorem slS {lower upper : Option Expr} {p : Pos}
    (h : wpAny (model pw w) A (eval value env) (fun o s₁ => wpAny (model pw w) A (evalPart lower env) (fun vl s₂ => wpAny (model pw w) A (evalPart upper env) (fun vu s₃ =>
      ∃ x t l u, o = .str x t ∧ vl = partValue l ∧ vu = partValue u ∧ x.length ≤ sizeLine ∧ ∀ h' tk t', Keeps s₃.heap h' → Q (.str (Txt.slice x (l.map (·.1)) (u.map (·.1))) t') { s₃ with heap := h', toks := tk }) E s₂) E s₁) E s)
    (ht : ∀ o r, letTemporaryGo value o r = pure ()) : wpAny (model pw w) A (eval (.Subscript value (.Slice lower upper none p) pos) env) Q E s := by
  refine wpAny_Subscript_str_slice (wpAny_mono h (fun o s₁ h₁ => wpAny_mono h₁ (fun vl s₂ h₂ => wpAny_mono h₂ (fun vu s₃ h₃ => ?_) fun _ _ e => e) fun _ _ e => e) fun _ _ e => e) ht
  obtain ⟨x, t, l, u, rfl, rfl, rfl, hsz, hq⟩ := h₃
  refine ⟨x, t, l, u, rfl, rfl, rfl, ?_⟩
  exact post_val_or_str ⟨Nat.le_trans (Txt.slice_le x _ _) hsz, fun t' k => hq _ k t' fun b o e => Heap.get?_push_of_some _ e⟩
/-- methods of my own list -/
theorem ownL (S : Sx w mean mg mb g₀ Hs env ow m ((D, listP ys) :: mu) h) : h.PlainList D ys.toArray := by
  obtain ⟨o, e, n, rfl⟩ := S.own _ List.mem_cons_self
  exact ⟨n, e⟩
theorem Heap.PlainList.typeIs' {s : Shared} {a : Addr} {items : Array Value} (x : s.heap.PlainList a items) : s.TypeIs (.ref a) "list" := x.isList.typeIs
theorem noDictL {a : Addr} {items : Array Value} (x : h.PlainList a items) : ∀ b, Value.ref a = .ref b → ∃ o, h.get? b = some o ∧ o.dict = none := fun b e => by
  cases e; obtain ⟨n, e⟩ := x; exact ⟨_, e, rfl⟩
theorem getM_append {pl : Sem Bool} {Q : Value × List Value → Shared → Prop} {a : Addr} {items : Array Value} (x : s.heap.PlainList a items) (h : Q (.builtin "list.append", [.ref a]) s) : wpAny (model pw w) A (getMethod (.ref a) "append" pl) Q E s :=
  getMethod_builtin x.isList.typeIs PySem.F.plainAttrs_list PySem.F.slot_list_append PySem.F.type_list_append (noDictL x) h
theorem getM_extend {pl : Sem Bool} {Q : Value × List Value → Shared → Prop} {a : Addr} {items : Array Value} (x : s.heap.PlainList a items) (h : Q (.builtin "list.extend", [.ref a]) s) : wpAny (model pw w) A (getMethod (.ref a) "extend" pl) Q E s :=
  getMethod_builtin x.isList.typeIs PySem.F.plainAttrs_list PySem.F.slot_list_extend PySem.F.type_list_extend (noDictL x) h
theorem appM (S : Sx w mean mg mb g₀ Hs env (ownOf env) m ((D, listP ys) :: mu) s.heap) (hsz : ys.length ≤ sizeLine)
    (h : ∀ h', Sx w mean mg mb g₀ Hs env (ownOf env) m ((D, listP (ys ++ [v])) :: mu) h' → Keeps (hideAll s.heap Hs) (hideAll h' Hs) → Q .none { s with heap := h' }) :
    wpAny (model pw w) A (call (.builtin "list.append") [.ref D, v]) Q E s := by
  refine wpAny_list_append_plain (ownL S) (fun h' hl hs => ?_) (by simpa using hsz)
  obtain ⟨n, e⟩ := hl
  obtain ⟨S', k⟩ := S.ext (P' := listP (ys ++ [v])) (fun b o hb e => hs.extBut b o hb e) e ⟨n, by simp⟩
  exact h h' S' k
theorem extM {b : Addr} (S : Sx w mean mg mb g₀ Hs env (ownOf env) m ((D, listP ys) :: mu) s.heap) (hb : s.heap.PlainList b zs.toArray) (hsz : ys.length + zs.length ≤ sizeLine)
    (h : ∀ h', Sx w mean mg mb g₀ Hs env (ownOf env) m ((D, listP (ys ++ zs)) :: mu) h' → Keeps (hideAll s.heap Hs) (hideAll h' Hs) → Q .none { s with heap := h' }) :
    wpAny (model pw w) A (call (.builtin "list.extend") [.ref D, .ref b]) Q E s := by
  obtain ⟨n, e1⟩ := ownL S
  obtain ⟨n2, e2⟩ := hb
  have hsz' : ys.toArray.size + zs.toArray.size ≤ sizeLine := by simpa using hsz
  refine call_meets PySem.F.slot_list_extend ⟨_, e1, rfl⟩ PySem.F.entry_list_extend (PySem.F.args_list_extend_2 _ _) (AutoSeq1.list_extend_list_list_0 D ys.toArray n b zs.toArray n2 (extend_door hsz') (Nat.le_trans (Nat.le_add_right _ _) hsz')) ⟨e1, e2, ?_⟩
  have e : ys.toArray ++ zs.toArray = (ys ++ zs).toArray := by simp
  have ho' : (s.heap.update D (Obj.mapSeq fun x => x ++ zs.toArray)).get? D = some { cls := .type "list", data := .seq (ys ++ zs).toArray (if (ys.toArray ++ zs.toArray).size == ys.toArray.size then n else n + 1) } := by
    rw [Heap.get?_update_self _ e1 (by rw [mapSeq_app]; rfl), mapSeq_app, e]
  obtain ⟨S', k⟩ := S.ext (P' := listP (ys ++ zs)) (fun b o hb e => (Heap.SameBut.update s.heap D _).extBut b o hb e) ho' ⟨_, rfl⟩
  exact h _ S' k
end
end Mine
end
section
open PySem PySem.W PyProof.Rows PySem.Calls
set_option Elab.async false
set_option maxRecDepth 100000
set_option linter.unusedVariables false
namespace Mine
section
variable {w : World} {mean : ExcName → Option Value} {mg mb : Str → Option Value} {A : Around} {E : Value → Shared → Prop} {s : Shared} {g₀ h h' : Heap} {Hs : List Addr} {env : Env} {ow : List Addr} {m : List (Str × Value)} {mu : Mu}
  {x : Str} {pos : Pos} {v : Value} {D : Addr} {P P' : Obj → Prop} {o : Obj} {Q : Value → Shared → Prop} {vs ys zs : List Value} {value slice : Expr}
theorem keeps_of_ext {I : Addr} (hI : h.get? I = none) (he : Heap.ExtBut I h h') : Keeps h h' := fun b o e => he b o (fun q => by rw [q, hI] at e; cases e) e
theorem asgTup {elts : List Expr} {k : Nat} {tpos : Pos} {t : Addr} {Q : Unit → Shared → Prop} (S : Sx w mean mg mb g₀ Hs env ow m mu s.heap) (hh : A.handled = none) (ht : IsTup (hideAll s.heap Hs) t vs.toArray)
    (hn : (assignEach elts env).length = vs.length) (hstar : (assignEach elts env).findIdx? (·.1) = none)
    (h : ∀ h', Sx w mean mg mb g₀ Hs env ow m mu h' → Keeps (hideAll s.heap Hs) (hideAll h' Hs) → wpAny (model pw w) A (assignInOrder ((assignEach elts env).map (·.2)) vs) Q E { s with heap := h' }) :
    wpAny (model pw w) A (assign (.Tuple elts k tpos) env (.ref t)) Q E s := by
  refine assign_Tuple_tuple hh (ht.keeps vis_self) (by simpa using hn) hstar fun h' he => ?_
  have k := keeps_of_ext (none_ge (Nat.le_refl _)) he
  exact h h' (S.keeps k) (vis_keeps k)
theorem unpTup {n : Nat} {t : Addr} {Q : List Value → Shared → Prop} (S : Sx w mean mg mb g₀ Hs env ow m mu s.heap) (hh : A.handled = none) (ht : IsTup (hideAll s.heap Hs) t vs.toArray) (hn : n = vs.length)
    (h : ∀ h', Sx w mean mg mb g₀ Hs env ow m mu h' → Keeps (hideAll s.heap Hs) (hideAll h' Hs) → Q vs { s with heap := h' }) :
    wpAny (model pw w) A (unpackItems (.ref t) n none) Q E s := by
  have e : n = vs.toArray.size := by simpa using hn
  subst e
  refine unpackItems_tuple hh (ht.keeps vis_self) fun h' he => ?_
  have k := keeps_of_ext (none_ge (Nat.le_refl _)) he
  simpa using h h' (S.keeps k) (vis_keeps k)
theorem Walks.shift {I : Addr} {fp wr : List Addr} {n : Nat} {Pv : Nat → Value → Prop} {St : Nat → Heap → Prop} (W : Walks pw w A I fp wr n Pv St) (ys : List Value) :
    Walks pw w A I fp wr (ys.length + n) (fun j v => if j < ys.length then ys[j]? = some v else Pv (j - ys.length) v) (fun j h => ys.length ≤ j ∧ St (j - ys.length) h) where
  sub := W.sub
  frame := fun i h h' st hk => ⟨st.1, W.frame _ _ _ st.2 hk⟩
  item := fun i s Q E hi st hQ => W.item (i - ys.length) s Q E (by omega) st.2 fun v h' tk hP hst hk => hQ v h' tk (by rw [if_neg (by omega)]; exact hP) ⟨by omega, by rw [show i + 1 - ys.length = i - ys.length + 1 by omega]; exact hst⟩ hk
  done := fun s Q E st hQ => W.done s Q E (by have := st.2; rw [Nat.add_sub_cancel_left] at this; exact this) hQ
  self := fun i s Q E st hQ => W.self _ s Q E st.2 hQ
theorem extR_go {R : Result → Shared → Prop} {r : Addr} {a b c : Int} {t u v : Tok} {n : Nat} (hh : A.handled = none) (hr : IsRange s.heap r a b c t u v) (hsmall : Builtin.Range.small a b c = true)
    (hn : Builtin.Range.rangeSize a b c = n) (S : Addr) (res : Value) (c₀ : Nat) (hlen : ys.length + n + 2 ≤ 2 ^ 24) (hS : s.heap.get? S = some { cls := .type "list", data := .seq ys.toArray c₀ })
    (hR : ∀ h' tk zs c', (∀ b o, b ≠ S → s.heap.get? b = some o → h'.get? b = some o) → h'.get? S = some { cls := .type "list", dict := none, data := .seq (ys ++ zs).toArray c', slots := #[] } →
      zs.length = n → (∀ (i : Nat) v, zs[i]? = some v → ∃ t, v = .int (a + i * c) t) → R (.ok (.ret res)) { s with heap := h', toks := tk }) :
    wpAny (model pw w) A.in1 (Builtin.List.listExtendWith (.ref S) (.ref r) res)
      (fun fin s' => match fin with | .done f => R (.ok f) s' | .again c' => c'.quiet = true ∧ codeAny (model pw w) A c' R s') (fun e s' => R (.error e) s') s := by
  have hSr : S ≠ r := fun e => by rw [e, hr] at hS; simp at hS
  have hSlt : S < s.heap.objs.size := Heap.lt_size hS
  have hSI : S ≠ s.heap.objs.size := Nat.ne_of_lt hSlt
  have hSf : S ∉ [s.heap.objs.size] := fun hm => hSI (List.mem_singleton.mp hm)
  have W := (Walks.shift (Walks.range (prog := pw) (w := w) (A := A.in1) hh s.heap.objs.size a c n) ys).toS
  have key : ∀ (h : Heap) (c₁ tk : Nat), IsRangeIter h s.heap.objs.size (a + ((0 : Nat) : Int) * c) ((n : Int) - ((0 : Nat) : Int)) c → (∀ b o, b ≠ S → s.heap.get? b = some o → h.get? b = some o) →
      h.get? S = some { cls := .type "list", data := .seq ys.toArray c₁ } → codeAny (model pw w) A (.builtin "list.extend.loop" ⟨[.ref S, .ref s.heap.objs.size, res], []⟩) R { s with heap := h, toks := tk } := by
    intro h c₁ tk hit hk hS₁
    refine codeAny_extend_loopS W (by rw [sizeLine_eq]; omega) S hSf res n ys.length _ ys.toArray c₁ (by omega) (by omega) ⟨Nat.le_refl _, by rw [Nat.sub_self]; exact hit⟩ hS₁ ⟨by simp, fun j v hj => ?_⟩ fun s' acc' c' hm hS' hacc => ?_
    · have hlt : j < ys.length := by have := (Array.getElem?_eq_some_iff.mp hj).1; simpa using this
      show (if j < ys.length then ys[j]? = some v else _)
      rw [if_pos hlt]; simpa using hj
    · rw [Moved.eq_with hm]
      have e1 : acc'.toList.take ys.length = ys := by
        refine List.ext_getElem? fun j => ?_
        by_cases hj : j < ys.length
        · rw [List.getElem?_take_of_lt hj]
          have hsz := hacc.1
          have h1 : j < acc'.size := by omega
          have h2 := hacc.2 j acc'[j] (by simp [h1])
          dsimp only at h2
          rw [if_pos hj] at h2
          rw [h2]; simp [h1]
        · rw [List.getElem?_eq_none (by rw [List.length_take]; omega), List.getElem?_eq_none (by omega)]
      have e2 : acc' = (ys ++ acc'.toList.drop ys.length).toArray := by
        have : acc'.toList = ys ++ acc'.toList.drop ys.length := by conv => lhs; rw [← List.take_append_drop ys.length acc'.toList, e1]
        rw [← this]
      rw [e2] at hS'
      refine hR s'.heap s'.toks _ c' (fun b o hb e => hm.heap b o (fun hmem => ?_) (hk b o hb e)) hS' ?_ ?_
      · rcases List.mem_cons.mp hmem with e' | hmem
        · exact hb e'
        · exact absurd (Heap.lt_size e) (by rw [List.mem_singleton.mp hmem]; exact Nat.lt_irrefl _)
      · have := hacc.1; simp; omega
      · intro i v hv
        rw [List.getElem?_drop] at hv
        have h2 := hacc.2 (ys.length + i) v (by rw [← hv]; simp)
        dsimp only at h2
        rw [if_neg (by omega), Nat.add_sub_cancel_left] at h2
        exact h2
  unfold Builtin.List.listExtendWith
  refine wpAny_bind (wpAny_typeOf (T := "range") ⟨_, hr, rfl⟩ ?_)
  have h1 : Builtin.List.listSameRef (.ref S) (.ref r) = false := by simp [Builtin.List.listSameRef, hSr]
  have h2 : (Value.type "range" == Value.type "list") = false := by decide
  have h3 : (Value.type "range" == Value.type "tuple") = false := by decide
  simp only [h1, h2, h3, Bool.or_false, Bool.false_eq_true, if_false]
  refine wpAny_bind (wpAny_pyIter_range hr hsmall ?_)
  refine wpAny_bind (wpAny_holding (wpAny_hint_range (n := n) (Heap.get?_push_of_some _ hr) hn (by omega) ?_))
  have hit₁ : IsRangeIter (s.heap.push { cls := .type "range_iterator", data := .fields #[rawInt a, rawInt (Builtin.Range.rangeSize a b c), rawInt c] }) s.heap.objs.size (a + ((0 : Nat) : Int) * c) ((n : Int) - ((0 : Nat) : Int)) c := by
    show IsRangeIter _ _ _ _ _; rw [hn]; simpa using Heap.get?_push_size _ rfl
  have hS₁ := Heap.get?_push_of_some { cls := .type "range_iterator", data := .fields #[rawInt a, rawInt (Builtin.Range.rangeSize a b c), rawInt c] } hS
  refine wpAny_ite_split (fun _ => ?_) (fun _ => wpAny_pure ⟨plainId_quiet PySem.F.plain_extend_loop _, key _ c₀ _ hit₁ (fun b o _ e => Heap.get?_push_of_some _ e) hS₁⟩)
  refine wpAny_bind (wpAny_rule ?_)
  refine wpAny_bind ?_
  show wpAny _ _ (updateSeq S (·.push .none) >>= fun _ => updateSeq S (·.pop)) _ _ _
  have hys : ys.toArray.size ≤ sizeLine := by rw [sizeLine_eq]; simp; omega
  have hys2 : (ys.toArray.push Value.none).size ≤ sizeLine := by rw [sizeLine_eq]; simp; omega
  refine wpAny_bind (wpAny_updateSeq hS₁ rfl ?_ hys (Nat.le_succ_of_le hys2))
  have hS₂ := Heap.get?_update_self (Obj.mapSeq (·.push Value.none)) hS₁ rfl
  refine wpAny_updateSeq hS₂ rfl ?_ hys2 (by show ((ys.toArray.push Value.none).pop).size ≤ _; rw [Array.size_pop]; omega)
  have hS₃ := Heap.get?_update_self (Obj.mapSeq (·.pop)) hS₂ rfl
  have hobj : ∃ c, Obj.mapSeq (·.pop) (Obj.mapSeq (·.push Value.none) { cls := .type "list", data := .seq ys.toArray c₀ }) = { cls := .type "list", data := .seq ys.toArray c } :=
    by
      have e : (ys.toArray.push Value.none).pop = ys.toArray := by simp
      unfold Obj.mapSeq
      dsimp only
      rw [e]
      exact ⟨_, rfl⟩
  obtain ⟨c₁, hobj⟩ := hobj
  rw [hobj] at hS₃
  refine wpAny_pure ⟨plainId_quiet PySem.F.plain_extend_loop _, key _ _ _ ?_ (fun b o hb e => ?_) hS₃⟩
  · exact (Heap.get?_update_other _ _ hSI).trans ((Heap.get?_update_other _ _ hSI).trans hit₁)
  · exact (Heap.get?_update_other _ _ (Ne.symm hb)).trans ((Heap.get?_update_other _ _ (Ne.symm hb)).trans (Heap.get?_push_of_some _ e))
theorem extR {r : Addr} {a b : Int} {t u u' : Tok} {n : Nat} (S : Sx w mean mg mb g₀ Hs env (ownOf env) m ((D, listP ys) :: mu) s.heap) (hh : A.handled = none) (hr : IsRange s.heap r a b 1 t u u')
    (hb0 : -(2 ^ 62) ≤ a ∧ a < 2 ^ 62 ∧ -(2 ^ 62) ≤ b ∧ b < 2 ^ 62) (hn : n = (b - a).toNat) (hlen : ys.length + n + 2 ≤ 2 ^ 24)
    (h : ∀ h' tk zs, zs.length = n → (∀ (i : Nat) v, zs[i]? = some v → ∃ t, v = .int (a + i) t) → Sx w mean mg mb g₀ Hs env (ownOf env) m ((D, listP (ys ++ zs)) :: mu) h' → Keeps (hideAll s.heap Hs) (hideAll h' Hs) → Q .none { s with heap := h', toks := tk }) :
    wpAny (model pw w) A (call (.builtin "list.extend") [.ref D, .ref r]) Q E s := by
  obtain ⟨n0, e1⟩ := ownL S
  have hsz : Builtin.Range.rangeSize a b 1 = (n : Int) := by rw [rangeSize_one, hn]; split <;> omega
  refine wpAny_call (codeAny_call_builtin PySem.F.slot_list_extend.plain PySem.F.entry_list_extend (PySem.F.slot_list_extend.check _ _ _ _ _ _ _ _ ⟨_, e1, rfl⟩ (PySem.F.args_list_extend_2 _ _) ?_))
  show wpAny _ _ (Builtin.List.listExtendWith (.ref D) (.ref r) .none) _ _ s
  refine extR_go (R := fun r s' => match r with | .ok (.ret v) => Q v s' | .ok _ => False | .error e => E e s') hh hr (small_one hb0.1 hb0.2.1 hb0.2.2.1 hb0.2.2.2) hsz D .none n0 hlen e1 fun h' tk zs c' hk hD hzl hz => ?_
  obtain ⟨S', k⟩ := S.ext (P' := listP (ys ++ zs)) hk hD ⟨_, rfl⟩
  exact h h' tk zs hzl (fun i v hv => by obtain ⟨t, e⟩ := hz i v hv; exact ⟨t, by rw [e, Int.mul_one]⟩) S' k
theorem cwT {T : String} {first : List Value} {e : Expr} {rest : List Expr}
    (h : wpAny (model pw w) A (spliced (backTo pos (starEach (e :: rest) env))) (fun vs s₁ => wpAny (model pw w) A (call (.type T) (first ++ vs)) Q E s₁) E s)
    (he : starEach (e :: rest) env = (false, eval e env) :: starEach rest env) (hplain : (backTo pos (starEach rest env)).any (·.1) = false) :
    wpAny (model pw w) A (callWith pos (.type T) first (backTo pos (starEach (e :: rest) env)) []) Q E s := by
  rw [he] at h ⊢
  exact PyProof.Rows.callWith_type (by show (false || _) = false; rw [Bool.false_or]; exact hplain) (Calls.evalArgs_plain h)
end
end Mine
end
section
open PySem PySem.W PyProof.Rows PySem.Calls
set_option Elab.async false
set_option maxRecDepth 100000
set_option linter.unusedVariables false
namespace Mine
/-! the rules on a flat state: the tokens are fresh each time -/
section
variable {w : World} {mean : ExcName → Option Value} {mg mb : Str → Option Value} {A : Around} {E : Value → Shared → Prop} {g₀ hp : Heap} {Hs : List Addr} {env : Env} {ow : List Addr} {m : List (Str × Value)} {mu : Mu}
  {x : Str} {pos : Pos} {v : Value} {D : Addr} {Q : Value → Shared → Prop} {vs : List Value} {gn : Array GenState} {dr : Drawn} {t : Nat} {os : OsState} {a b : Int} {ta tb : Tok} {k0 : Nat} {y z : Str}
theorem fInt {i : Int} (h : ∀ u k, Q (.int i u) ⟨hp, gn, dr, k, os⟩) : wpAny (model pw w) A (eval (.Constant (.int i) k0 pos) env) Q E ⟨hp, gn, dr, t, os⟩ := PySem.wpAny_Constant_int (h _ _)
theorem fStr (h : ∀ u k, Q (.str x u) ⟨hp, gn, dr, k, os⟩) : wpAny (model pw w) A (eval (.Constant (.str x) k0 pos) env) Q E ⟨hp, gn, dr, t, os⟩ := PySem.wpAny_Constant_str (h _ _)
theorem fAdd (h : ∀ u k, Q (.int (a + b) u) ⟨hp, gn, dr, k, os⟩) : wpAny (model pw w) A (binaryOp .Add (.int a ta) (.int b tb)) Q E ⟨hp, gn, dr, t, os⟩ := add_int (h _ _)
theorem fSub (h : ∀ u k, Q (.int (a - b) u) ⟨hp, gn, dr, k, os⟩) : wpAny (model pw w) A (binaryOp .Sub (.int a ta) (.int b tb)) Q E ⟨hp, gn, dr, t, os⟩ := sub_int (h _ _)
theorem fMod (hb : b ≠ 0) (h : ∀ u k, Q (.int (a.fmod b) u) ⟨hp, gn, dr, k, os⟩) : wpAny (model pw w) A (binaryOp .Mod (.int a ta) (.int b tb)) Q E ⟨hp, gn, dr, t, os⟩ := mod_int' hb (h _ _)
theorem fChr (h0 : 0 ≤ a) (h1 : a ≤ 1114111) (h : ∀ u k, Q (.str ⟨#[a.toNat]⟩ u) ⟨hp, gn, dr, k, os⟩) : wpAny (model pw w) A (call (.builtin "chr") [.int a ta]) Q E ⟨hp, gn, dr, t, os⟩ := chr_of_range h0 h1 (h _ _)
theorem fOrd {c : Nat} (h : ∀ u k, Q (.int (c : Int) u) ⟨hp, gn, dr, k, os⟩) : wpAny (model pw w) A (call (.builtin "ord") [.str ⟨#[c]⟩ ta]) Q E ⟨hp, gn, dr, t, os⟩ := ord_of_one rfl (h _ _)
theorem fTup (S : Sx w mean mg mb g₀ Hs env ow m mu hp)
    (h : ∀ D h', Sx w mean mg mb g₀ Hs env ow m mu h' → Keeps (hideAll hp Hs) (hideAll h' Hs) → IsTup (hideAll h' Hs) D vs.toArray → Q (.ref D) ⟨h', gn, dr, t, os⟩) (hsz : vs.length ≤ sizeLine) : wpAny (model pw w) A (newTuple vs) Q E ⟨hp, gn, dr, t, os⟩ := newTupV S h hsz
theorem fListV (S : Sx w mean mg mb g₀ Hs env ow m mu hp)
    (h : ∀ D h', Sx w mean mg mb g₀ Hs env ow m mu h' → Keeps (hideAll hp Hs) (hideAll h' Hs) → (hideAll h' Hs).PlainList D vs.toArray → Q (.ref D) ⟨h', gn, dr, t, os⟩) (hsz : vs.length ≤ sizeLine) : wpAny (model pw w) A (newList vs) Q E ⟨hp, gn, dr, t, os⟩ := newListV S h hsz
theorem fListM (S : Sx w mean mg mb g₀ Hs env ow m mu hp)
    (h : ∀ D h', Sx w mean mg mb g₀ (D :: Hs) env ow m ((D, listP vs) :: mu) h' → Keeps (hideAll hp Hs) (hideAll h' (D :: Hs)) → Q (.ref D) ⟨h', gn, dr, t, os⟩) (hsz : vs.length ≤ sizeLine) : wpAny (model pw w) A (newList vs) Q E ⟨hp, gn, dr, t, os⟩ := newListM S h hsz
theorem fSt {Q : Unit → Shared → Prop} (S : Sx w mean mg mb g₀ Hs env (ownOf env) m mu hp)
    (h : ∀ h' k, Sx w mean mg mb g₀ Hs env (ownOf env) ((x, v) :: m) mu h' → Keeps (hideAll hp Hs) (hideAll h' Hs) → Q () ⟨h', gn, dr, k, os⟩) (hk : env.scope.kind = .function)
    (hl : stOk env x = true) : wpAny (model pw w) A (storeName env x v) Q E ⟨hp, gn, dr, t, os⟩ := stV S h hk hl
theorem fRng2 (S : Sx w mean mg mb g₀ Hs env ow m mu hp)
    (h : ∀ D h' k u, Sx w mean mg mb g₀ Hs env ow m mu h' → Keeps (hideAll hp Hs) (hideAll h' Hs) → IsRange (hideAll h' Hs) D a b 1 ta tb u → Q (.ref D) ⟨h', gn, dr, k, os⟩) : wpAny (model pw w) A (call (.type "range") [.int a ta, .int b tb]) Q E ⟨hp, gn, dr, t, os⟩ :=
  rng2 S fun D h' k S' K hr => h D h' k _ S' K hr
theorem fRng1 (S : Sx w mean mg mb g₀ Hs env ow m mu hp)
    (h : ∀ D h' k u u', Sx w mean mg mb g₀ Hs env ow m mu h' → Keeps (hideAll hp Hs) (hideAll h' Hs) → IsRange (hideAll h' Hs) D 0 a 1 u ta u' → Q (.ref D) ⟨h', gn, dr, k, os⟩) : wpAny (model pw w) A (call (.type "range") [.int a ta]) Q E ⟨hp, gn, dr, t, os⟩ :=
  rng1 S fun D h' k S' K hr => h D h' k _ _ S' K hr
end
end Mine
end
section
open PySem PySem.W PyProof.Rows PySem.Calls
set_option Elab.async false
set_option maxRecDepth 100000
set_option linter.unusedVariables false
namespace Mine
noncomputable def lessP : List (Str × Value) → List (Str × Value) → Prop
  | [], _ => True
  | p :: r, m => m.lookup p.1 = some p.2 ∧ lessP r m
theorem lessP_mem {r m : List (Str × Value)} (h : lessP r m) : ∀ p ∈ r, m.lookup p.1 = some p.2 := by
  induction r with
  | nil => intro p hp; cases hp
  | cons q r ih =>
    intro p hp
    rcases List.mem_cons.mp hp with rfl | hp
    · exact h.1
    · exact ih h.2 p hp
theorem sT_append (a b : List Nat) : sT a ++ sT b = sT (a ++ b) := by
  show (Str.mk (a.toArray ++ b.toArray)) = Str.mk (a ++ b).toArray
  simp
section
variable {w : World} {mean : ExcName → Option Value} {mg mb : Str → Option Value} {A : Around} {E : Value → Shared → Prop} {g₀ hp : Heap} {Hs : List Addr} {env : Env} {ow : List Addr} {m : List (Str × Value)} {mu : Mu}
  {x : Str} {pos : Pos} {v : Value} {D : Addr} {Q : Value → Shared → Prop} {vs : List Value} {gn : Array GenState} {dr : Drawn} {t : Nat} {os : OsState} {a b : Int} {ta tb : Tok} {k0 : Nat} {y z : List Nat} {s : Shared}
theorem Sx.lessL {m' : List (Str × Value)} (S : Sx w mean mg mb g₀ Hs env ow m mu hp) (k : lessP m' m) : Sx w mean mg mb g₀ Hs env ow m' mu hp := S.less (lessP_mem k)
theorem Sx.kin (S : Sx w mean mg mb g₀ Hs env ow m mu hp) : (K w.params).In hp := S.cx.gd.X.keeps vis_self
theorem kin_and {P : Prop} (S : Sx w mean mg mb g₀ Hs env ow m mu hp) (h : P) : (K w.params).In hp ∧ P := ⟨S.kin, h⟩
noncomputable def isFn (o : Obj) : Bool := match o.data with | .func _ => true | _ => false
theorem isFn_of {o : Obj} (h : isFn o = true) : ∃ fd, o.data = .func fd := by
  unfold isFn at h
  split at h
  · exact ⟨_, by assumption⟩
  · cases h
theorem cwK {f : Addr} {first : List Value} {e : Expr} {rest : List Expr} (ho : ((K w.params).lookup f).any isFn = true)
    (h : wpAny (model pw w) A (spliced (backTo pos (starEach (e :: rest) env))) (fun vs s₁ => (K w.params).In s₁.heap ∧ wpAny (model pw w) A (call (.ref f) (first ++ vs)) Q E s₁) E s)
    (he : starEach (e :: rest) env = (false, eval e env) :: starEach rest env) : wpAny (model pw w) A (callWith pos (.ref f) first (backTo pos (starEach (e :: rest) env)) []) Q E s := by
  obtain ⟨o, ho, hf⟩ : ∃ o, (K w.params).lookup f = some o ∧ isFn o = true := by
    cases e : (K w.params).lookup f with
    | none => rw [e] at ho; cases ho
    | some o => rw [e] at ho; exact ⟨o, rfl, ho⟩
  obtain ⟨fd, hd⟩ := isFn_of hf
  exact cwF hd (wpAny_mono h (fun vs s₁ h₁ => ⟨h₁.1 _ _ ho, h₁.2⟩) fun _ _ x => x) he
theorem fAddS (hsz : y.length + z.length ≤ sizeLine) (h : ∀ u k, Q (.str (sT (y ++ z)) u) ⟨hp, gn, dr, k, os⟩) : wpAny (model pw w) A (binaryOp .Add (.str (sT y) ta) (.str (sT z) tb)) Q E ⟨hp, gn, dr, t, os⟩ := by
  refine PyProof.Rows.add_str (fun t' tk => ?_) (by rw [len_sT, len_sT]; exact hsz)
  rw [sT_append]; exact h t' tk
theorem fLeS (h : Q (.bool (!decide (z < y))) ⟨hp, gn, dr, t, os⟩) : wpAny (model pw w) A (compareOp .LtE (.str (sT y) ta) (.str (sT z) tb)) Q E ⟨hp, gn, dr, t, os⟩ := PySem.P.le_str h
theorem fLtS (h : Q (.bool (decide (y < z))) ⟨hp, gn, dr, t, os⟩) : wpAny (model pw w) A (compareOp .Lt (.str (sT y) ta) (.str (sT z) tb)) Q E ⟨hp, gn, dr, t, os⟩ := PyProof.Rows.lt_str h
theorem fForL {px : Pos} {body : List Stmt} {ax : Addr} {items : List Value} {Q : Flow → Shared → Prop} {R : Result → Shared → Prop}
    (J : Nat → List (Str × Value) → Mu → Heap → Prop) (hJ : ∀ i m mu g g', Keeps g g' → J i m mu g → J i m mu g')
    (S : Sx w mean mg mb g₀ Hs env (ownOf env) m mu hp) (hl : (hideAll hp Hs).IsList ax items.toArray) (hh : A.handled = none)
    (j0 : J 0 m mu (hideAll hp Hs)) (hk : env.scope.kind = .function) (hx : stOk env x = true)
    (step : ∀ I i v m₁ mu₁ h₁ tk oI g₁, items[i]? = some v → Keeps (hideAll hp Hs) (hideAll h₁ (I :: Hs)) → J i m₁ mu₁ (hideAll h₁ (I :: Hs)) →
      Sx w mean mg mb g₁ (I :: Hs) env (ownOf env) ((x, v) :: m₁) ((I, (· = oI)) :: mu₁) h₁ →
      wpAny (model pw w) A (execs body env) (ForPost w mean mg mb g₁ Hs env I oI (J (i + 1)) ⟨h₁, gn, dr, tk, os⟩ Q) (fun _ _ => False) ⟨h₁, gn, dr, tk, os⟩)
    (done : ∀ h' tk m' mu', Sx w mean mg mb g₀ Hs env (ownOf env) m' mu' h' → Keeps (hideAll hp Hs) (hideAll h' Hs) → J items.length m' mu' (hideAll h' Hs) → Q .next ⟨h', gn, dr, tk, os⟩)
    (hR : ∀ f s', Q f s' → R (.ok f) s') :
    wpAny (model pw w) A (pyIter (.ref ax)) (fun it s₂ => codeAny (model pw w) A (.forLoop (.Name x px) it body [] env) R s₂) E ⟨hp, gn, dr, t, os⟩ :=
  forL S hl hh J hJ j0 hk hx step done hR
theorem fForR {px : Pos} {body : List Stmt} {r : Addr} {a b : Int} {t₀ u u' : Tok} {n : Nat} {Q : Flow → Shared → Prop} {R : Result → Shared → Prop}
    (J : Nat → List (Str × Value) → Mu → Heap → Prop) (hJ : ∀ i m mu g g', Keeps g g' → J i m mu g → J i m mu g')
    (S : Sx w mean mg mb g₀ Hs env (ownOf env) m mu hp) (hr : IsRange (hideAll hp Hs) r a b 1 t₀ u u') (hn : n = (b - a).toNat) (hb0 : -(2 ^ 62) ≤ a ∧ a < 2 ^ 62 ∧ -(2 ^ 62) ≤ b ∧ b < 2 ^ 62) (hh : A.handled = none)
    (j0 : J 0 m mu (hideAll hp Hs)) (hk : env.scope.kind = .function) (hx : stOk env x = true)
    (step : ∀ I i t m₁ mu₁ h₁ tk oI g₁, i < n → Keeps (hideAll hp Hs) (hideAll h₁ (I :: Hs)) → J i m₁ mu₁ (hideAll h₁ (I :: Hs)) →
      Sx w mean mg mb g₁ (I :: Hs) env (ownOf env) ((x, .int (a + (i : Int)) t) :: m₁) ((I, (· = oI)) :: mu₁) h₁ →
      wpAny (model pw w) A (execs body env) (ForPost w mean mg mb g₁ Hs env I oI (J (i + 1)) ⟨h₁, gn, dr, tk, os⟩ Q) (fun _ _ => False) ⟨h₁, gn, dr, tk, os⟩)
    (done : ∀ h' tk m' mu', Sx w mean mg mb g₀ Hs env (ownOf env) m' mu' h' → Keeps (hideAll hp Hs) (hideAll h' Hs) → J n m' mu' (hideAll h' Hs) → Q .next ⟨h', gn, dr, tk, os⟩)
    (hR : ∀ f s', Q f s' → R (.ok f) s') :
    wpAny (model pw w) A (pyIter (.ref r)) (fun it s₂ => codeAny (model pw w) A (.forLoop (.Name x px) it body [] env) R s₂) E ⟨hp, gn, dr, t, os⟩ :=
  forR S hr hn hb0 hh J hJ j0 hk hx step done hR
theorem fForRK {px : Pos} {body : List Stmt} {r : Addr} {a b : Int} {t₀ u u' : Tok} {n : Nat} {Q : Flow → Shared → Prop} {R : Result → Shared → Prop}
    (J : Nat → List (Str × Value) → Mu → Heap → Prop) (hJ : ∀ i m mu g g', Keeps g g' → J i m mu g → J i m mu g')
    (S : Sx w mean mg mb g₀ Hs env (ownOf env) m mu hp) (hr : IsRange (hideAll hp Hs) r a b 1 t₀ u u') (hn : n = (b - a).toNat) (hb0 : -(2 ^ 62) ≤ a ∧ a < 2 ^ 62 ∧ -(2 ^ 62) ≤ b ∧ b < 2 ^ 62) (hh : A.handled = none)
    (j0 : J 0 m mu (hideAll hp Hs)) (hk : env.scope.kind = .function) (hx : stOk env x = true)
    (step : ∀ I i t m₁ mu₁ h₁ tk oI g₁, Keeps g₀ g₁ → i < n → Keeps (hideAll hp Hs) (hideAll h₁ (I :: Hs)) → J i m₁ mu₁ (hideAll h₁ (I :: Hs)) →
      Sx w mean mg mb g₁ (I :: Hs) env (ownOf env) ((x, .int (a + (i : Int)) t) :: m₁) ((I, (· = oI)) :: mu₁) h₁ →
      wpAny (model pw w) A (execs body env) (ForPost w mean mg mb g₁ Hs env I oI (J (i + 1)) ⟨h₁, gn, dr, tk, os⟩ Q) (fun _ _ => False) ⟨h₁, gn, dr, tk, os⟩)
    (done : ∀ h' tk m' mu', Sx w mean mg mb g₀ Hs env (ownOf env) m' mu' h' → Keeps (hideAll hp Hs) (hideAll h' Hs) → J n m' mu' (hideAll h' Hs) → Q .next ⟨h', gn, dr, tk, os⟩)
    (hR : ∀ f s', Q f s' → R (.ok f) s') :
    wpAny (model pw w) A (pyIter (.ref r)) (fun it s₂ => codeAny (model pw w) A (.forLoop (.Name x px) it body [] env) R s₂) E ⟨hp, gn, dr, t, os⟩ :=
  forRK S hr hn hb0 hh J hJ j0 hk hx step done hR
theorem fForS {px : Pos} {body : List Stmt} {y : List Nat} {t₀ : Tok} {Q : Flow → Shared → Prop} {R : Result → Shared → Prop}
    (J : Nat → List (Str × Value) → Mu → Heap → Prop) (hJ : ∀ i m mu g g', Keeps g g' → J i m mu g → J i m mu g')
    (S : Sx w mean mg mb g₀ Hs env (ownOf env) m mu hp) (hh : A.handled = none)
    (j0 : J 0 m mu (hideAll hp Hs)) (hk : env.scope.kind = .function) (hx : stOk env x = true)
    (step : ∀ I i c t m₁ mu₁ h₁ tk oI g₁, y[i]? = some c → Keeps (hideAll hp Hs) (hideAll h₁ (I :: Hs)) → J i m₁ mu₁ (hideAll h₁ (I :: Hs)) →
      Sx w mean mg mb g₁ (I :: Hs) env (ownOf env) ((x, .str (sT [c]) t) :: m₁) ((I, (· = oI)) :: mu₁) h₁ →
      wpAny (model pw w) A (execs body env) (ForPost w mean mg mb g₁ Hs env I oI (J (i + 1)) ⟨h₁, gn, dr, tk, os⟩ Q) (fun _ _ => False) ⟨h₁, gn, dr, tk, os⟩)
    (done : ∀ h' tk m' mu', Sx w mean mg mb g₀ Hs env (ownOf env) m' mu' h' → Keeps (hideAll hp Hs) (hideAll h' Hs) → J y.length m' mu' (hideAll h' Hs) → Q .next ⟨h', gn, dr, tk, os⟩)
    (hR : ∀ f s', Q f s' → R (.ok f) s') :
    wpAny (model pw w) A (pyIter (.str (sT y) t₀)) (fun it s₂ => codeAny (model pw w) A (.forLoop (.Name x px) it body [] env) R s₂) E ⟨hp, gn, dr, t, os⟩ :=
  forS S hh J hJ j0 hk hx (fun I i c t m₁ mu₁ h₁ tk oI g₁ hc => step I i c t m₁ mu₁ h₁ tk oI g₁ (by simpa using hc)) (fun h' tk m' mu' S1 k1 hj => done h' tk m' mu' S1 k1 (by simpa using hj)) hR
end
end Mine
end
section
open PySem PySem.W PyProof.Rows PySem.Calls
set_option Elab.async false
set_option maxRecDepth 100000
set_option linter.unusedVariables false
namespace Mine
theorem strIdx_eq (l u : Option Int) (n : Nat) : Builtin.Str.strSliceIndices l u 1 n = sliceRange (sliceBounds l u none n).1 (sliceBounds l u none n).2.1 (sliceBounds l u none n).2.2 := by
  cases l <;> cases u <;> rfl
theorem txt_slice (l : List Nat) (lo hi : Option Int) : Txt.slice (sT l) lo hi = sT ((l.drop (lo.elim 0 (clipAt l.length))).take (hi.elim l.length (clipAt l.length) - lo.elim 0 (clipAt l.length))) := by
  have e1 : ∀ a b : Nat, (sliceRange (a : Int) (b : Int) 1).filterMap ((sT l).cps[·]?) = (l.drop a).take (b - a) := fun a b => by
    rw [sliceRange_one, pick_run]
  have hlen : (sT l).length = l.length := len_sT l
  unfold Txt.slice
  rw [strIdx_eq, hlen, sliceBounds_plain]
  dsimp only
  rw [e1]
  split
  · rename_i h
    have h1 : (sliceRange ((lo.elim 0 (clipAt l.length) : Nat) : Int) ((hi.elim l.length (clipAt l.length) : Nat) : Int) 1).length = l.length := by simpa using h
    rw [sliceRange_one] at h1
    simp only [List.length_map, List.length_range] at h1
    have h2 : hi.elim l.length (clipAt l.length) ≤ l.length := by
      cases hi with
      | none => exact Nat.le_refl _
      | some j => show clipAt l.length j ≤ l.length; unfold clipAt; omega
    by_cases h0 : l.length = 0
    · have : l = [] := List.length_eq_zero_iff.mp h0
      subst this; simp
    · have h3 : lo.elim 0 (clipAt l.length) = 0 := by omega
      have h4 : hi.elim l.length (clipAt l.length) = l.length := by omega
      rw [h3, h4]; simp
  · rfl
theorem txt_ss (l : List Nat) (a b : Nat) : Txt.slice (sT l) (some (a : Int)) (some (b : Int)) = sT ((l.take b).drop a) := by
  rw [txt_slice]
  simp only [Option.elim, clipAt_nat]
  congr 1
  rw [← List.drop_take]
  by_cases h : a ≤ l.length
  · rw [Nat.min_eq_left h]
    rcases Nat.le_total b l.length with h2 | h2
    · rw [Nat.min_eq_left h2]
    · rw [Nat.min_eq_right h2, List.take_of_length_le (Nat.le_refl _), List.take_of_length_le h2]
  · rw [Nat.min_eq_right (by omega), List.drop_of_length_le (by simp; omega), List.drop_of_length_le (by rw [List.length_take]; omega)]
theorem txt_sn (l : List Nat) (a : Nat) : Txt.slice (sT l) (some (a : Int)) none = sT (l.drop a) := by
  rw [txt_slice]
  simp only [Option.elim, clipAt_nat]
  congr 1
  by_cases h : a ≤ l.length
  · rw [Nat.min_eq_left h, List.take_of_length_le (by rw [List.length_drop]; omega)]
  · rw [Nat.min_eq_right (by omega), List.drop_of_length_le (by simp), List.drop_of_length_le (by omega)]; simp
theorem txt_ns (l : List Nat) (b : Nat) : Txt.slice (sT l) none (some (b : Int)) = sT (l.take b) := by
  rw [txt_slice]
  simp only [Option.elim, clipAt_nat, List.drop_zero, Nat.sub_zero]
  congr 1
  rcases Nat.le_total b l.length with h2 | h2
  · rw [Nat.min_eq_left h2]
  · rw [Nat.min_eq_right h2, List.take_of_length_le (Nat.le_refl _), List.take_of_length_le h2]
noncomputable def SlP (Q : Value → Shared → Prop) (o vl vu : Value) (s₃ : Shared) : Prop :=
  ∃ x t l u, o = .str x t ∧ vl = partValue l ∧ vu = partValue u ∧ x.length ≤ sizeLine ∧ ∀ h' tk t', Keeps s₃.heap h' → Q (.str (Txt.slice x (l.map (·.1)) (u.map (·.1))) t') { s₃ with heap := h', toks := tk }
section
variable {w : World} {mean : ExcName → Option Value} {mg mb : Str → Option Value} {A : Around} {E : Value → Shared → Prop} {g₀ hp h : Heap} {Hs Hc : List Addr} {env cenv : Env} {ow owc : List Addr} {m mf : List (Str × Value)} {mu : Mu}
  {x : Str} {pos px : Pos} {v : Value} {D : Addr} {Q : Value → Shared → Prop} {vs : List Value} {gn : Array GenState} {dr : Drawn} {t : Nat} {os : OsState} {a b : Int} {ta tb tc : Tok} {k0 : Nat} {y z : List Nat} {s : Shared} {scope : Scope}
theorem fSl {value : Expr} {lower upper : Option Expr} {p : Pos}
    (h : wpAny (model pw w) A (eval value env) (fun o s₁ => wpAny (model pw w) A (evalPart lower env) (fun vl s₂ => wpAny (model pw w) A (evalPart upper env) (fun vu s₃ => SlP Q o vl vu s₃) E s₂) E s₁) E s)
    (ht : ∀ o r, letTemporaryGo value o r = pure ()) : wpAny (model pw w) A (eval (.Subscript value (.Slice lower upper none p) pos) env) Q E s := slS h ht
theorem SlP.ss (h0 : 0 ≤ a) (h1 : 0 ≤ b) (hsz : y.length ≤ sizeLine) (h : ∀ h' u k, Keeps hp h' → Q (.str (sT ((y.take b.toNat).drop a.toNat)) u) ⟨h', gn, dr, k, os⟩) : SlP Q (.str (sT y) tc) (.int a ta) (.int b tb) ⟨hp, gn, dr, t, os⟩ := by
  refine ⟨_, _, some (a, ta), some (b, tb), rfl, rfl, rfl, by rw [len_sT]; exact hsz, fun h' k u hk => ?_⟩
  obtain ⟨a, rfl⟩ := Int.eq_ofNat_of_zero_le h0
  obtain ⟨b, rfl⟩ := Int.eq_ofNat_of_zero_le h1
  show Q (.str (Txt.slice (sT y) (some (a : Int)) (some (b : Int))) u) _
  rw [txt_ss]
  exact h h' u k hk
theorem SlP.sn (h0 : 0 ≤ a) (hsz : y.length ≤ sizeLine) (h : ∀ h' u k, Keeps hp h' → Q (.str (sT (y.drop a.toNat)) u) ⟨h', gn, dr, k, os⟩) : SlP Q (.str (sT y) tc) (.int a ta) .none ⟨hp, gn, dr, t, os⟩ := by
  refine ⟨_, _, some (a, ta), none, rfl, rfl, rfl, by rw [len_sT]; exact hsz, fun h' k u hk => ?_⟩
  obtain ⟨a, rfl⟩ := Int.eq_ofNat_of_zero_le h0
  show Q (.str (Txt.slice (sT y) (some (a : Int)) none) u) _
  rw [txt_sn]
  exact h h' u k hk
theorem SlP.ns (h0 : 0 ≤ a) (hsz : y.length ≤ sizeLine) (h : ∀ h' u k, Keeps hp h' → Q (.str (sT (y.take a.toNat)) u) ⟨h', gn, dr, k, os⟩) : SlP Q (.str (sT y) tc) .none (.int a ta) ⟨hp, gn, dr, t, os⟩ := by
  refine ⟨_, _, none, some (a, ta), rfl, rfl, rfl, by rw [len_sT]; exact hsz, fun h' k u hk => ?_⟩
  obtain ⟨a, rfl⟩ := Int.eq_ofNat_of_zero_le h0
  show Q (.str (Txt.slice (sT y) none (some (a : Int))) u) _
  rw [txt_ns]
  exact h h' u k hk
/-! comprehensions -/
theorem Sx.frozen (S : Sx w mean mg mb g₀ Hs env ow m mu h) : Sx w mean mg mb h Hs env [] m [] h :=
  ⟨Keeps.refl _, S.cx, S.vars, fun p hp => (by cases hp), fun b hb => (by cases hb), List.Pairwise.nil⟩
theorem ElP.intro {h₁ h' : Heap} {J : List Value → Heap → Prop} {ys : List Value} {tk tk' : Nat} (S : Sx w mean mg mb h₁ Hs cenv ow m mu h') (hj : J ys (hideAll h' Hc)) : ElP h₁ Hc J ⟨h₁, gn, dr, tk, os⟩ ys ⟨h', gn, dr, tk', os⟩ :=
  ⟨h', tk', rfl, S.base, hj⟩
theorem step0 {elt : Expr} {n : Nat} {Pv : Nat → Value → Prop} {J : Nat → List Value → Heap → Prop}
    (h : ∀ i v ys h₁ tk C cenv Hc, i < n → Pv i v → IsEnv cenv (CE scope (closL env scope.names []) C env) → Keeps (hideAll hp Hs) (hideAll h₁ Hc) → J i ys (hideAll h₁ Hc) → ys.length ≤ i →
      Sx w mean mg mb h₁ Hc cenv [] ((x, v) :: mf) [] h₁ →
      wpAny (model pw w) A (eval elt cenv) (fun y s₃ => ElP h₁ Hc (J (i + 1)) ⟨h₁, gn, dr, tk, os⟩ (ys ++ [y]) s₃) (fun _ _ => False) ⟨h₁, gn, dr, tk, os⟩) :
    StepN w mean mg mb A env scope elt [] x mf Hs n Pv J ⟨hp, gn, dr, t, os⟩ := fun i v ys h₁ tk C cenv Hc owc g₁ mu hi hv hc k1 hj hle S1 => by
  rw [List.forIn_nil]
  refine wpAny_pure ?_
  rw [if_pos rfl]
  exact h i v ys h₁ tk C cenv Hc hi hv hc k1 hj hle S1.frozen
theorem step1 {elt c : Expr} {n : Nat} {Pv : Nat → Value → Prop} {J : Nat → List Value → Heap → Prop}
    (h : ∀ i v ys h₁ tk C cenv Hc, i < n → Pv i v → IsEnv cenv (CE scope (closL env scope.names []) C env) → Keeps (hideAll hp Hs) (hideAll h₁ Hc) → J i ys (hideAll h₁ Hc) → ys.length ≤ i →
      Sx w mean mg mb h₁ Hc cenv [] ((x, v) :: mf) [] h₁ →
      wpAny (model pw w) A (isTrue c cenv (eval c cenv)) (fun ok s₂ => if ok = true then wpAny (model pw w) A (eval elt cenv) (fun y s₃ => ElP h₁ Hc (J (i + 1)) ⟨h₁, gn, dr, tk, os⟩ (ys ++ [y]) s₃) (fun _ _ => False) s₂ else ElP h₁ Hc (J (i + 1)) ⟨h₁, gn, dr, tk, os⟩ ys s₂) (fun _ _ => False) ⟨h₁, gn, dr, tk, os⟩) :
    StepN w mean mg mb A env scope elt [c] x mf Hs n Pv J ⟨hp, gn, dr, t, os⟩ := fun i v ys h₁ tk C cenv Hc owc g₁ mu hi hv hc k1 hj hle S1 => by
  rw [List.forIn_cons, if_pos rfl]
  refine wpAny_bind (wpAny_bind (wpAny_mono (h i v ys h₁ tk C cenv Hc hi hv hc k1 hj hle S1.frozen) (fun ok s₂ h₂ => ?_) fun _ _ e => e))
  refine wpAny_pure ?_
  show wpAny (model pw w) A (forIn [] ok _) _ _ _
  rw [List.forIn_nil]
  exact wpAny_pure h₂
theorem fRrV {J : List Value → Heap → Prop} {Q : Value → Shared → Prop} (S : Sx w mean mg mb g₀ Hs env ow m mu hp) (hJ : ∀ ys g g', Keeps g g' → J ys g → J ys g')
    (done : ∀ D h' tk ys, Sx w mean mg mb g₀ Hs env ow m mu h' → Keeps (hideAll hp Hs) (hideAll h' Hs) → (hideAll h' Hs).PlainList D ys.toArray → J ys (hideAll h' Hs) → Q (.ref D) ⟨h', gn, dr, tk, os⟩) :
    RRok Hs J ⟨hp, gn, dr, t, os⟩ (fun acc C => compPost (model pw w) A E none Q acc C) := rrV (s := ⟨hp, gn, dr, t, os⟩) S hJ done
theorem fRrA {J : List Value → Heap → Prop} {y : Str} {py : Pos} {Q : Value → Shared → Prop} (S : Sx w mean mg mb g₀ Hs env (ownOf env) m mu hp) (hJ : ∀ ys g g', Keeps g g' → J ys g → J ys g')
    (done : ∀ D h' tk ys, Sx w mean mg mb g₀ Hs env (ownOf env) ((y, .ref D) :: m) mu h' → Keeps (hideAll hp Hs) (hideAll h' Hs) → (hideAll h' Hs).PlainList D ys.toArray → J ys (hideAll h' Hs) → Q .none ⟨h', gn, dr, tk, os⟩) (hk : env.scope.kind = .function) (hy : stOk env y = true) :
    RRok Hs J ⟨hp, gn, dr, t, os⟩ (fun acc C => compPost (model pw w) A E (some (assign (.Name y py) env)) Q acc C) := rrA (s := ⟨hp, gn, dr, t, os⟩) S hJ hk hy done
end
end Mine
end
section
open PySem PySem.W PyProof.Rows PySem.Calls
set_option Elab.async false
set_option maxRecDepth 100000
set_option linter.unusedVariables false
namespace Mine
section
variable {w : World} {mean : ExcName → Option Value} {mg mb : Str → Option Value} {A : Around} {E : Value → Shared → Prop} {g₀ hp h : Heap} {Hs Hc : List Addr} {env cenv : Env} {ow owc : List Addr} {m mf : List (Str × Value)} {mu : Mu}
  {x : Str} {pos px : Pos} {v : Value} {D : Addr} {Q : Value → Shared → Prop} {vs : List Value} {gn : Array GenState} {dr : Drawn} {t : Nat} {os : OsState} {a b : Int} {ta tb tc : Tok} {k0 : Nat} {y z : List Nat} {s : Shared} {scope : Scope} {value slice : Expr}
theorem plK {h h' : Heap} {a : Addr} {is : Array Value} (x : h.PlainList a is) (k : Keeps h h') : h'.PlainList a is := x.imp fun n e => k _ _ e
theorem plV {h : Heap} {a : Addr} {is : Array Value} (x : (hideAll h Hs).PlainList a is) : h.PlainList a is := plK x vis_self
theorem fLenS (hsz : y.length ≤ sizeLine) (h : ∀ u k, Q (.int y.length u) ⟨hp, gn, dr, k, os⟩) : wpAny (model pw w) A (call (.builtin "len") [.str (sT y) ta]) Q E ⟨hp, gn, dr, t, os⟩ := by
  refine PyProof.Rows.len_str ?_ ?_
  · rw [len_sT]; rw [sizeLine_eq] at hsz; omega
  · rw [len_sT]; exact h _ _
theorem fLenL {l : Addr} (hl : hp.IsList l vs.toArray) (hsz : vs.length ≤ sizeLine) (h : ∀ u k, Q (.int vs.length u) ⟨hp, gn, dr, k, os⟩) : wpAny (model pw w) A (call (.builtin "len") [.ref l]) Q E ⟨hp, gn, dr, t, os⟩ := by
  refine PyProof.Rows.len_list hl ?_ ?_
  · rw [sizeLine_eq] at hsz; simp; omega
  · simpa using h _ _
theorem fEqNil {l e : Addr} (hl : hp.PlainList l vs.toArray) (he : hp.PlainList e ([] : List Value).toArray) (hu : A.units < cLine) (h : Q (.bool vs.isEmpty) ⟨hp, gn, dr, t, os⟩) : wpAny (model pw w) A (compareOp .Eq (.ref l) (.ref e)) Q E ⟨hp, gn, dr, t, os⟩ := by
  obtain ⟨n, hl⟩ := hl
  obtain ⟨k, he⟩ := he
  cases vs with
  | nil => exact PySem.P.eq_list (e := fun _ => true) hl he rfl (fun j h1 => absurd h1 (by simp)) hu h
  | cons v r => exact PySem.P.eq_list_lengths hl he (by simp) hu h
theorem fItemS {k : Int} {c : Nat} (h0 : 0 ≤ k) (hfit : k < 2 ^ 63) (hc : y[k.toNat]? = some c) (h : ∀ u k', Q (.str (sT [c]) u) ⟨hp, gn, dr, k', os⟩)
    (hs : subscripted slice false (.str (sT y) ta) (.int k tb) = operate [.str (sT y) ta, .int k tb] (getItem (.str (sT y) ta) (.int k tb))) (ht : ∀ r, letTemporaryGo value (.str (sT y) ta) r = pure ()) :
    wpAny (model pw w) A (subscriptTail value slice (.str (sT y) ta) (.int k tb)) Q E ⟨hp, gn, dr, t, os⟩ := itemS h0 hfit hc (h _ _) hs ht
theorem fItemL {l : Addr} {k : Int} (hl : hp.IsList l vs.toArray) (h0 : 0 ≤ k) (hfit : k < 2 ^ 63) (hx : vs[k.toNat]? = some v) (h : Q v ⟨hp, gn, dr, t, os⟩)
    (hs : subscripted slice false (.ref l) (.int k tb) = operate [.ref l, .int k tb] (getItem (.ref l) (.int k tb))) (ht : ∀ r, letTemporaryGo value (.ref l) r = pure ()) :
    wpAny (model pw w) A (subscriptTail value slice (.ref l) (.int k tb)) Q E ⟨hp, gn, dr, t, os⟩ := itemL hl h0 hfit hx h hs ht
end
end Mine
end
section
open PySem PySem.W PyProof.Rows PySem.Calls
set_option Elab.async false
set_option maxRecDepth 100000
set_option linter.unusedVariables false
namespace Mine
theorem join_sT : ∀ l : List (List Nat), Str.join (sT []) (l.map sT) = sT l.flatten
  | [] => rfl
  | [x] => by show sT x = sT [x].flatten; simp
  | x :: y :: r => by
    show sT x ++ sT [] ++ Str.join (sT []) ((y :: r).map sT) = _
    rw [join_sT (y :: r), sT_append, sT_append, List.append_nil]; rfl
theorem foldl_len {c : Nat} : ∀ (l : List (List Nat)) (k : Nat), (l.map sT).foldl (fun b a => b + a.length + c) k = k + (l.map (·.length)).sum + l.length * c
  | [], k => by simp
  | x :: r, k => by
    rw [List.map_cons, List.foldl_cons, foldl_len r, len_sT]
    simp only [List.map_cons, List.sum_cons, List.length_cons, Nat.add_mul, Nat.one_mul]; omega
section
variable {w : World} {mean : ExcName → Option Value} {mg mb : Str → Option Value} {A : Around} {E : Value → Shared → Prop} {g₀ hp h : Heap} {Hs Hc : List Addr} {env cenv : Env} {ow owc : List Addr} {m mf : List (Str × Value)} {mu : Mu}
  {x : Str} {pos px : Pos} {v : Value} {D : Addr} {Q : Value → Shared → Prop} {vs : List Value} {gn : Array GenState} {dr : Drawn} {t : Nat} {os : OsState} {a b : Int} {ta tb tc : Tok} {k0 : Nat} {y z : List Nat} {s : Shared} {scope : Scope} {value slice : Expr}
theorem fFloor (hb : b ≠ 0) (hp' : Builtin.divisionGoesByPylong a b = false) (h : ∀ u k, Q (.int (a.fdiv b) u) ⟨hp, gn, dr, k, os⟩) : wpAny (model pw w) A (binaryOp .FloorDiv (.int a ta) (.int b tb)) Q E ⟨hp, gn, dr, t, os⟩ := floordiv_int hb (h _ _) (.inl hp')
theorem join_vals {vs : List Value} {l : List (List Nat)} (hlen : vs.length = l.length) (hv : ∀ (i : Nat) v, vs[i]? = some v → ∃ t y, v = Value.str (sT y) t ∧ l[i]? = some y) : ∃ ts : List (Str × Tok), vs = strValues ts ∧ ts.map (·.1) = l.map sT := by
  induction vs generalizing l with
  | nil => cases l with
    | nil => exact ⟨[], rfl, rfl⟩
    | cons => cases hlen
  | cons v r ih => cases l with
    | nil => cases hlen
    | cons y l =>
      obtain ⟨ts, e1, e2⟩ := ih (l := l) (by simpa using hlen) fun i v hv' => by simpa using hv (i + 1) v (by simpa using hv')
      obtain ⟨t, y', rfl, hy⟩ := hv 0 v rfl
      have : y = y' := by simpa using hy
      subst this
      exact ⟨(sT y, t) :: ts, by rw [e1]; rfl, by rw [List.map_cons, List.map_cons, e2]⟩
theorem fJoin {D : Addr} {l : List (List Nat)} (hl : hp.IsList D vs.toArray) (hlen : vs.length = l.length) (hv : ∀ (i : Nat) v, vs[i]? = some v → ∃ t y, v = Value.str (sT y) t ∧ l[i]? = some y) (hsz : (l.map (·.length)).sum ≤ sizeLine)
    (h : ∀ u k, Q (.str (sT l.flatten) u) ⟨hp, gn, dr, k, os⟩) : wpAny (model pw w) A (call (.builtin "str.join") [.str (sT []) ta, .ref D]) Q E ⟨hp, gn, dr, t, os⟩ := by
  obtain ⟨ts, e1, e2⟩ := join_vals hlen hv
  subst e1
  refine PySem.SC.join (texts := l.map sT) hl e2 ?_ fun u k => ?_
  · unfold JoinOk
    have : (sT []).length = 0 := rfl
    rw [this, List.foldl_toArray, foldl_len]
    simp only [Bool.not_eq_true', Builtin.Str.tooLong, decide_eq_false_iff_not]
    omega
  · have := join_sT l
    rw [show Txt.join (sT []) (l.map sT) = sT l.flatten from this ▸ (beq_iff_eq.mp (join_plain_closes _ _))]
    exact h u k
end
end Mine
end
section
open PySem PySem.W PyProof.Rows PySem.Calls
set_option Elab.async false
set_option maxRecDepth 100000
set_option linter.unusedVariables false
namespace Mine
noncomputable def ValL {α : Type} (f : α → Tok → Value) (vs : List Value) (as : List α) : Prop := ∃ ts : List (α × Tok), vs = ts.map (fun p => f p.1 p.2) ∧ ts.map (·.1) = as
abbrev IntL := ValL Value.int
abbrev StrL := ValL (fun (l : List Nat) t => Value.str (sT l) t)
section
variable {α : Type} {f : α → Tok → Value} {vs : List Value} {as : List α}
theorem ValL.nil : ValL f [] [] := ⟨[], rfl, rfl⟩
theorem ValL.len (x : ValL f vs as) : vs.length = as.length := by obtain ⟨ts, rfl, rfl⟩ := x; simp
theorem ValL.snoc {v : Value} {a : α} {t : Tok} (x : ValL f vs as) (e : v = f a t) : ValL f (vs ++ [v]) (as ++ [a]) := by
  obtain ⟨ts, rfl, rfl⟩ := x
  exact ⟨ts ++ [(a, t)], by rw [List.map_append, e]; rfl, by rw [List.map_append]; rfl⟩
theorem ValL.get {i : Nat} {a : α} (x : ValL f vs as) (h : as[i]? = some a) : ∃ t, vs[i]? = some (f a t) := by
  obtain ⟨ts, rfl, rfl⟩ := x
  rw [List.getElem?_map] at h
  obtain ⟨p, hp, rfl⟩ := Option.map_eq_some_iff.mp h
  exact ⟨p.2, by rw [List.getElem?_map, hp]; rfl⟩
theorem ValL.at {i : Nat} {v : Value} (x : ValL f vs as) (h : vs[i]? = some v) : ∃ a t, as[i]? = some a ∧ v = f a t := by
  obtain ⟨ts, rfl, rfl⟩ := x
  rw [List.getElem?_map] at h
  obtain ⟨p, hp, rfl⟩ := Option.map_eq_some_iff.mp h
  exact ⟨p.1, p.2, by rw [List.getElem?_map, hp]; rfl, rfl⟩
theorem take_snoc {as : List α} {i : Nat} {a : α} (h : as[i]? = some a) : as.take (i + 1) = as.take i ++ [a] := by rw [List.take_add_one, h]; rfl
end
theorem numAt_get {ts : List (Int × Tok)} {i : Nat} (hi : i < ts.length) : numAt ts.toArray i ∈ ts.map (·.1) := by
  unfold numAt
  rw [List.getElem?_toArray, List.getElem?_eq_getElem hi]
  exact List.mem_map.mpr ⟨_, List.getElem_mem hi, rfl⟩
theorem mem_numAt {ts : List (Int × Tok)} {a : Int} (h : a ∈ ts.map (·.1)) : ∃ i, i < ts.length ∧ a = numAt ts.toArray i := by
  obtain ⟨i, hi, e⟩ := List.mem_iff_getElem.mp h
  rw [List.length_map] at hi
  refine ⟨i, hi, ?_⟩
  unfold numAt
  rw [List.getElem?_toArray, List.getElem?_eq_getElem hi, ← e]; simp
theorem foldl_rep (l : List Nat) : ∀ (n : Nat) (a : List Nat), (List.replicate n l.toArray).foldl (· ++ ·) a.toArray = (a ++ (List.replicate n l).flatten).toArray
  | 0, a => by simp
  | n + 1, a => by
    rw [List.replicate_succ, List.foldl_cons, List.append_toArray, foldl_rep l n, List.replicate_succ, List.flatten_cons, List.append_assoc]
section
variable {w : World} {mean : ExcName → Option Value} {mg mb : Str → Option Value} {A : Around} {E : Value → Shared → Prop} {g₀ hp h : Heap} {Hs Hc : List Addr} {env cenv : Env} {ow owc : List Addr} {m mf : List (Str × Value)} {mu : Mu}
  {x : Str} {pos px : Pos} {v : Value} {D : Addr} {Q : Value → Shared → Prop} {vs : List Value} {gn : Array GenState} {dr : Drawn} {t : Nat} {os : OsState} {a b : Int} {ta tb tc : Tok} {k0 : Nat} {y z : List Nat} {s : Shared} {scope : Scope} {value slice : Expr} {ns : List Int}
theorem Sx.swap {p q : Addr × (Obj → Prop)} (S : Sx w mean mg mb g₀ Hs env ow m (p :: q :: mu) hp) : Sx w mean mg mb g₀ Hs env ow m (q :: p :: mu) hp := S.perm (List.Perm.swap q p mu)
theorem fMinL {l : Addr} (hh : A.handled = none) (hl : hp.IsList l vs.toArray) (hi : IntL vs ns) (hne : 0 < ns.length) (h : ∀ h' M u k, Keeps hp h' → M ∈ ns → (∀ a, a ∈ ns → M ≤ a) → Q (.int M u) ⟨h', gn, dr, k, os⟩) :
    wpAny (model pw w) A (call (.builtin "min") [.ref l]) Q E ⟨hp, gn, dr, t, os⟩ := by
  obtain ⟨ts, rfl, rfl⟩ := hi
  rw [List.length_map] at hne
  have e : (ts.map fun p => Value.int p.1 p.2).toArray = intItems ts.toArray := by unfold intItems; simp
  rw [e] at hl
  refine min_intList hh hl (by simpa using hne) fun v h' tk hv hk => ?_
  obtain ⟨u, rfl⟩ := intItems_at hv
  have hz : ts.toArray.size = ts.length := by simp
  rw [hz]
  obtain ⟨h1, h2⟩ := argBest_lt (numAt ts.toArray) (ts.length - 1)
  refine h h' _ u tk hk (numAt_get (by omega)) fun a ha => ?_
  obtain ⟨j, hj, rfl⟩ := mem_numAt ha
  exact h2 j (by omega)
theorem fMaxL {l : Addr} (hh : A.handled = none) (hl : hp.IsList l vs.toArray) (hi : IntL vs ns) (hne : 0 < ns.length) (h : ∀ h' M u k, Keeps hp h' → M ∈ ns → (∀ a, a ∈ ns → a ≤ M) → Q (.int M u) ⟨h', gn, dr, k, os⟩) :
    wpAny (model pw w) A (call (.builtin "max") [.ref l]) Q E ⟨hp, gn, dr, t, os⟩ := by
  obtain ⟨ts, rfl, rfl⟩ := hi
  rw [List.length_map] at hne
  have e : (ts.map fun p => Value.int p.1 p.2).toArray = intItems ts.toArray := by unfold intItems; simp
  rw [e] at hl
  refine max_intList hh hl (by simpa using hne) fun v h' tk hv hk => ?_
  obtain ⟨u, rfl⟩ := intItems_at hv
  have hz : ts.toArray.size = ts.length := by simp
  rw [hz]
  obtain ⟨h1, h2⟩ := argBest_gt (numAt ts.toArray) (ts.length - 1)
  refine h h' _ u tk hk (numAt_get (by omega)) fun a ha => ?_
  obtain ⟨j, hj, rfl⟩ := mem_numAt ha
  exact h2 j (by omega)
theorem fMax2 (hh : A.handled = none) (h : ∀ h' u k, Keeps hp h' → Q (.int (if b > a then b else a) u) ⟨h', gn, dr, k, os⟩) : wpAny (model pw w) A (call (.builtin "max") [.int a ta, .int b tb]) Q E ⟨hp, gn, dr, t, os⟩ :=
  max_two_ints hh fun h' tk hk => by
    split
    · rename_i c; have := h h' tb tk hk; rwa [if_pos c] at this
    · rename_i c; have := h h' ta tk hk; rwa [if_neg c] at this
theorem fMin2 (hh : A.handled = none) (h : ∀ h' u k, Keeps hp h' → Q (.int (if b < a then b else a) u) ⟨h', gn, dr, k, os⟩) : wpAny (model pw w) A (call (.builtin "min") [.int a ta, .int b tb]) Q E ⟨hp, gn, dr, t, os⟩ :=
  min_two_ints hh fun h' tk hk => by
    split
    · rename_i c; have := h h' tb tk hk; rwa [if_pos c] at this
    · rename_i c; have := h h' ta tk hk; rwa [if_neg c] at this
theorem mul_sT (n : Int) : Txt.mul (sT y) n = sT (List.replicate n.toNat y).flatten := by
  unfold Txt.mul
  split
  · rename_i h
    rw [show n.toNat = 0 by omega]; rfl
  · split
    · rename_i h1 h2
      simp only [Bool.or_eq_true, beq_iff_eq] at h2
      rcases h2 with rfl | h2
      · simp
      · rw [len_sT] at h2
        have : y = [] := List.length_eq_zero_iff.mp h2
        subst this
        have : ∀ k, (List.replicate k ([] : List Nat)).flatten = [] := fun k => by induction k with
          | zero => rfl
          | succ k ih => rw [List.replicate_succ, List.flatten_cons, ih]; rfl
        rw [this]
    · have := foldl_rep y n.toNat []
      show Str.mk ((List.replicate n.toNat y.toArray).foldl (· ++ ·) #[]) = Str.mk _
      rw [show (#[] : Array Nat) = ([] : List Nat).toArray from rfl, this, List.nil_append]
theorem fMulS {n : Int} (hn : n ≤ 1000) (hlo : -1000 ≤ n) (hy : y.length ≤ 100) (h : ∀ u k, Q (.str (sT (List.replicate n.toNat y).flatten) u) ⟨hp, gn, dr, k, os⟩) : wpAny (model pw w) A (binaryOp .Mult (.str (sT y) ta) (.int n tb)) Q E ⟨hp, gn, dr, t, os⟩ := by
  refine PySem.SB.mul ⟨?_, fun h1 h2 => ?_, fun h1 h2 => ?_⟩ fun u k => ?_
  · simp only [Bool.or_eq_false_iff, decide_eq_false_iff_not]; omega
  · rw [len_sT]
    have h3 : (100 : Int) ≤ (2 ^ 63 - 1 : Int) / n := Int.le_ediv_of_mul_le (by omega) (by omega)
    omega
  · rw [len_sT]
    simp only [Builtin.Str.tooLong, decide_eq_false_iff_not]
    have : y.length * n.toNat ≤ 100 * 1000 := Nat.mul_le_mul hy (by omega)
    have e : sizeLine = 2 ^ 24 := sizeLine_eq
    omega
  · rw [mul_sT]; exact h u k
theorem fAppM (S : Sx w mean mg mb g₀ Hs env (ownOf env) m ((D, listP vs) :: mu) hp) (hsz : vs.length ≤ sizeLine)
    (h : ∀ h', Sx w mean mg mb g₀ Hs env (ownOf env) m ((D, listP (vs ++ [v])) :: mu) h' → Keeps (hideAll hp Hs) (hideAll h' Hs) → Q .none ⟨h', gn, dr, t, os⟩) :
    wpAny (model pw w) A (call (.builtin "list.append") [.ref D, v]) Q E ⟨hp, gn, dr, t, os⟩ := appM (s := ⟨hp, gn, dr, t, os⟩) S hsz h
theorem Sx.doneL (S : Sx w mean mg mb g₀ (D :: Hs) env ow m ((D, listP vs) :: mu) hp) : (hideAll hp Hs).PlainList D vs.toArray ∧ Sx w mean mg mb g₀ Hs env ow m mu hp ∧ Keeps (hideAll hp (D :: Hs)) (hideAll hp Hs) := by
  obtain ⟨o, e, ⟨n, rfl⟩, S', k⟩ := S.done
  exact ⟨⟨n, e⟩, S', k⟩
end
end Mine
end
section
open PySem PySem.W PyProof.Rows PySem.Calls
set_option Elab.async false
set_option maxRecDepth 100000
set_option linter.unusedVariables false
namespace Mine
section
variable {w : World} {mean : ExcName → Option Value} {mg mb : Str → Option Value} {A : Around} {E : Value → Shared → Prop} {g₀ hp h : Heap} {Hs Hc : List Addr} {env cenv : Env} {ow owc : List Addr} {m mf : List (Str × Value)} {mu : Mu}
  {x : Str} {pos px : Pos} {v : Value} {D I l : Addr} {Q : Value → Shared → Prop} {vs : List Value} {gn : Array GenState} {dr : Drawn} {t : Nat} {os : OsState} {a b : Int} {ta tb tc : Tok} {k0 : Nat} {y z : List Nat} {s : Shared} {scope : Scope} {value slice : Expr} {i : Nat} {items : Array Value}
theorem ldN {Q : Value → Shared → Prop} (S : Sx w mean mg mb g₀ Hs env ow m mu s.heap) (hv : m.lookup x = some v) (h : Q v s) (hk : env.scope.kind = .function)
    (hl : (match env.kindOf x with | some .local => true | some .cell => (env.cells.lookup x).isSome | some .free => (env.cells.lookup x).isSome | _ => false) = true)
    (hc : (x == ("__classdict__" : Str)) = false) : wpAny (model pw w) A (loadName env x) Q E s := by
  rcases okV_cases hl with h1 | ⟨h1, c, h2⟩
  · obtain ⟨ml, n, e⟩ := S.vars.ns
    exact wpAny_loadName_local hk h1 n (e x v h1 hv) h
  · obtain ⟨v0, hcell, q⟩ := S.vars.cl x c h2 (by rcases h1 with h1 | h1 <;> rw [h1] <;> simp)
    rw [q v hv] at hcell
    rcases h1 with h1 | h1
    · exact wpAny_loadName_cell hk h1 h2 hcell h
    · exact wpAny_loadName_free hk h1 h2 hcell h hc
theorem special_item {Q : Option Value → Shared → Prop} (hit : s.heap.IsListIter I l i) (hl : s.heap.IsList l items) (hx : items[i]? = some v)
    (hQ : ∀ h', h'.IsListIter I l (i + 1) → Heap.SameBut I s.heap h' → Q (some v) { s with heap := h' }) :
    wpAny (model pw w) A (callSpecial? (.ref I) (Str.ofString "__next__")) Q E s := by
  obtain ⟨o, ho, hc, hd⟩ := id hit
  obtain ⟨ol, hol, _, nl, hdl⟩ := hl
  refine wpAny_callSpecial?_slot (name := Str.ofString "__next__") hit.typeIs slot_listiter_next
    (wpAny_call_entry slot_listiter_next hit.typeIs entry_listiter_next ?_ (args_listiter_next _))
  show wpAny _ _ (field (.ref I) 0 >>= _) _ _ s
  refine wpAny_bind (wpAny_field ho hd (x := .ref l) rfl ?_)
  show wpAny _ _ (if (Value.ref l == Value.none) = true then _ else _) _ _ s
  rw [if_neg (show ¬ ((Value.ref l == Value.none) = true) from Bool.false_ne_true)]
  show wpAny _ _ (field (.ref I) 1 >>= _) _ _ s
  refine wpAny_bind (wpAny_field ho hd (x := .int i 0) rfl ?_)
  show wpAny _ _ (seqItems? (.ref l) >>= _) _ _ s
  refine wpAny_bind (wpAny_seqItems hol hdl ?_)
  simp only [Int.toNat_natCast, hx]
  refine wpAny_bind (wpAny_setField ho hd (by simp) (wpAny_pure ⟨v, rfl, hQ _ ?_ (Heap.SameBut.update ..)⟩))
  exact ⟨_, Heap.get?_update_self _ ho (Obj.isFreed_of_fields (Obj.data_mapFields hd _)), (Obj.cls_mapFields ..).trans hc, by
    rw [Obj.data_mapFields hd]; simp [rawInt]⟩
structure NewStop (h h' : Heap) (I e : Addr) : Prop where
  keeps : ∀ b o, b ≠ I → h.get? b = some o → h'.get? b = some o
  new : h.get? e = none
  there : ∃ ob vs, h'.get? e = some ob ∧ ob.cls = .type "StopIteration" ∧ ob.data = .fields vs ∧ vs[1]? = some .none ∧ vs[2]? = some .none
  live : ∃ o, h'.get? I = some o
theorem special_stop {Q : Option Value → Shared → Prop} (hh : A.handled = none) (hit : s.heap.IsListIter I l i) (hl : s.heap.IsList l items) (hx : items[i]? = none)
    (hE : ∀ h' tk e, NewStop s.heap h' I e → E (.ref e) { s with heap := h', toks := tk }) :
    wpAny (model pw w) A (callSpecial? (.ref I) (Str.ofString "__next__")) Q E s := by
  obtain ⟨o, ho, hc, hd⟩ := id hit
  obtain ⟨ol, hol, _, nl, hdl⟩ := hl
  refine wpAny_callSpecial?_slot (name := Str.ofString "__next__") hit.typeIs slot_listiter_next
    (wpAny_call_entry slot_listiter_next hit.typeIs entry_listiter_next ?_ (args_listiter_next _))
  show wpAny _ _ (field (.ref I) 0 >>= _) _ _ s
  refine wpAny_bind (wpAny_field ho hd (x := .ref l) rfl ?_)
  show wpAny _ _ (if (Value.ref l == Value.none) = true then _ else _) _ _ s
  rw [if_neg (show ¬ ((Value.ref l == Value.none) = true) from Bool.false_ne_true)]
  show wpAny _ _ (field (.ref I) 1 >>= _) _ _ s
  refine wpAny_bind (wpAny_field ho hd (x := .int i 0) rfl ?_)
  show wpAny _ _ (seqItems? (.ref l) >>= _) _ _ s
  refine wpAny_bind (wpAny_seqItems hol hdl ?_)
  simp only [Int.toNat_natCast, hx]
  refine wpAny_bind (wpAny_rule (wpAny_bind (wpAny_setField ho hd (by simp) ?_)))
  show wpAny _ _ (newExc (.type "StopIteration") [] >>= _) _ _ _
  refine wpAny_bind ?_
  simp only [newExc, newTuple]
  refine wpAny_bind (wpAny_newObj_type ?_ (by size_fits))
  refine wpAny_bind (m := firstArgMember _ _) (wpAny_of_eq (a := Value.none) (by first | rfl | (simp only [firstArgMember]; rfl)) ?_)
  refine wpAny_newObj_type ?_ (by size_fits)
  simp only [raiseNew]
  refine wpAny_bind (wpAny_handled ?_)
  rw [show A.in1.handled = none from hh]
  refine wpAny_bind (wpAny_pure (wpAny_throw ?_))
  refine hE _ _ _ ⟨fun b o hb e => (((Heap.SameBut.update s.heap I _).extBut.push _).push _) b o hb e, none_ge (by rw [Heap.size_push, Heap.size_after_update]; exact Nat.le_succ _), ⟨_, _, Heap.get?_push_size _ rfl, rfl, rfl, ?_, ?_⟩, ?_⟩
  · rfl
  · rfl
  · exact ⟨_, Heap.get?_push_of_some _ (Heap.get?_push_of_some _ (Heap.get?_update_self _ ho (Obj.isFreed_of_fields (Obj.data_mapFields hd _))))⟩
theorem entry_next : entryFor table "next" = some Builtin.«next» := entryFor_of_fast (by kernel_rfl)
theorem args_next (a : Value) : argsOk "next" ⟨[a], []⟩ := by unfold argsOk; kernel_rfl
theorem fNext (hit : hp.IsListIter I l i) (hl : hp.IsList l items) (hx : items[i]? = some v)
    (h : ∀ h', h'.IsListIter I l (i + 1) → Heap.SameBut I hp h' → Q v ⟨h', gn, dr, t, os⟩) : wpAny (model pw w) A (call (.builtin "next") [.ref I]) Q E ⟨hp, gn, dr, t, os⟩ := by
  refine call_function_entry (by decide +kernel) (by decide +kernel) entry_next (args_next _) ?_
  unfold Builtin.«next»
  refine wpAny_bind (m := someArgs "next" 1 2 _) (wpAny_of_eq (a := [Value.ref I]) (by first | rfl | kernel_rfl!) ?_)
  dsimp only
  refine wpAny_bind (wpAny_specialOf (name := Str.ofString "__next__") (Heap.IsListIter.typeIs (s := ⟨hp, gn, dr, t, os⟩) hit) slot_listiter_next.lookup ?_)
  refine wpAny_ite_split (fun hab => absurd hab (by decide)) (fun _ => ?_)
  refine wpAny_bind (special_item (s := ⟨hp, gn, dr, t, os⟩) hit hl hx fun h' hit' hs => ?_)
  exact wpAny_pure ⟨_, rfl, h h' hit' hs⟩
theorem fNextStop (hh : A.handled = none) (hit : hp.IsListIter I l i) (hl : hp.IsList l items) (hx : items[i]? = none)
    (hE : ∀ h' tk e, NewStop hp h' I e → E (.ref e) ⟨h', gn, dr, tk, os⟩) : wpAny (model pw w) A (call (.builtin "next") [.ref I]) Q E ⟨hp, gn, dr, t, os⟩ := by
  refine call_function_entry (by decide +kernel) (by decide +kernel) entry_next (args_next _) ?_
  unfold Builtin.«next»
  refine wpAny_bind (m := someArgs "next" 1 2 _) (wpAny_of_eq (a := [Value.ref I]) (by first | rfl | kernel_rfl!) ?_)
  dsimp only
  refine wpAny_bind (wpAny_specialOf (name := Str.ofString "__next__") (Heap.IsListIter.typeIs (s := ⟨hp, gn, dr, t, os⟩) hit) slot_listiter_next.lookup ?_)
  refine wpAny_ite_split (fun hab => absurd hab (by decide)) (fun _ => ?_)
  exact wpAny_bind (special_stop (s := ⟨hp, gn, dr, t, os⟩) hh hit hl hx fun h' tk e hN => hE h' tk e hN)
/-- while -/
noncomputable def WhPost (w : World) (mean : ExcName → Option Value) (mg mb : Str → Option Value) (g₁ : Heap) (Hs : List Addr) (env : Env) (J : Nat → List (Str × Value) → Mu → Heap → Prop) (n : Nat) (s : Shared) (Q : Flow → Shared → Prop) (f : Flow) (s' : Shared) : Prop :=
  match f with
  | .brk => Q .next s'
  | .ret v => Q (.ret v) s'
  | _ => ∃ n' h' tk m' mu', n' < n ∧ s' = { s with heap := h', toks := tk } ∧ Sx w mean mg mb g₁ Hs env (ownOf env) m' mu' h' ∧ J n' m' mu' (hideAll h' Hs)
theorem fWhile {test : Expr} {body : List Stmt} {pos : Pos} {Q : Flow → Shared → Prop} (n : Nat)
    (J : Nat → List (Str × Value) → Mu → Heap → Prop)
    (S : Sx w mean mg mb g₀ Hs env (ownOf env) m mu hp) (j0 : J n m mu (hideAll hp Hs))
    (step : ∀ n m₁ mu₁ h₁ tk g₁, Keeps g₀ g₁ → Keeps (hideAll hp Hs) (hideAll h₁ Hs) → J n m₁ mu₁ (hideAll h₁ Hs) → Sx w mean mg mb g₁ Hs env (ownOf env) m₁ mu₁ h₁ →
      wpAny (model pw w) A (isTrue test env (eval test env)) (fun c s₂ => if c then wpAny (model pw w) A (execs body env) (WhPost w mean mg mb g₁ Hs env J n ⟨h₁, gn, dr, tk, os⟩ Q) (fun _ _ => False) s₂ else Q .next s₂) (fun _ _ => False) ⟨h₁, gn, dr, tk, os⟩) :
    wpAny (model pw w) A (exec (.While test body [] pos) env) Q E ⟨hp, gn, dr, t, os⟩ := by
  obtain ⟨k01, S1, kv1⟩ := S.anchor
  generalize hg1 : hideAll hp (ownOf env ++ mu.map (·.1)) = g₁ at k01 S1 kv1
  refine wpAny_While (codeAny_whileLoop (fun k s' => ∃ h' tk m' mu', s' = ⟨h', gn, dr, tk, os⟩ ∧ Sx w mean mg mb g₁ Hs env (ownOf env) m' mu' h' ∧ J k m' mu' (hideAll h' Hs)) ?_ n ⟨hp, t, m, mu, rfl, S1, j0⟩)
  have visK : ∀ {m' mu' h'}, Sx w mean mg mb g₁ Hs env (ownOf env) m' mu' h' → Keeps (hideAll hp Hs) (hideAll h' Hs) := fun S' b o e =>
    hideAll_get _ (S'.base b o (kv1 b o e)) (not_hid e)
  rintro k s' ⟨h₁, tk, m₁, mu₁, rfl, S₁, hj⟩
  refine wpAny_noRaise (wpAny_mono (step k m₁ mu₁ h₁ tk g₁ k01 (visK S₁) hj S₁) (fun c s₂ h₂ => ?_) fun _ _ e => e)
  cases c with
  | false =>
    rw [if_neg Bool.false_ne_true] at h₂ ⊢
    exact wpAny_execs_nil h₂
  | true =>
    rw [if_pos rfl] at h₂ ⊢
    refine wpAny_noRaise (wpAny_mono h₂ (fun f s₃ h₃ => ?_) fun _ _ e => e)
    have nxt : (∃ n' h' tk' m' mu', n' < k ∧ s₃ = { (⟨h₁, gn, dr, tk, os⟩ : Shared) with heap := h', toks := tk' } ∧ Sx w mean mg mb g₁ Hs env (ownOf env) m' mu' h' ∧ J n' m' mu' (hideAll h' Hs)) →
        ∃ n', n' < k ∧ ∃ h' tk m' mu', s₃ = ⟨h', gn, dr, tk, os⟩ ∧ Sx w mean mg mb g₁ Hs env (ownOf env) m' mu' h' ∧ J n' m' mu' (hideAll h' Hs) := by
      rintro ⟨n', h', tk', m', mu', hn, rfl, S', hj'⟩
      exact ⟨n', hn, h', tk', m', mu', rfl, S', hj'⟩
    cases f with
    | ret v => exact h₃
    | brk => exact h₃
    | cont => exact nxt h₃
    | next => exact nxt h₃
end
end Mine
end
section
open PySem PySem.W PyProof.Rows PySem.Calls
set_option Elab.async false
set_option maxRecDepth 100000
set_option linter.unusedVariables false
namespace Mine
noncomputable def iterP (l : Addr) (i : Nat) (o : Obj) : Prop := o.cls = .type "list_iterator" ∧ o.data = .fields #[.ref l, .int i 0]
section
variable {w : World} {mean : ExcName → Option Value} {mg mb : Str → Option Value} {A : Around} {E : Value → Shared → Prop} {g₀ hp h : Heap} {Hs Hc : List Addr} {env cenv : Env} {ow owc : List Addr} {m mf : List (Str × Value)} {mu : Mu}
  {x : Str} {pos px : Pos} {v : Value} {D I l : Addr} {Q : Value → Shared → Prop} {vs : List Value} {gn : Array GenState} {dr : Drawn} {t : Nat} {os : OsState} {a b : Int} {ta tb tc : Tok} {k0 : Nat} {y z : List Nat} {s : Shared} {scope : Scope} {value slice : Expr} {i : Nat} {items : Array Value} {P : Obj → Prop} {o : Obj}
theorem Sx.take (S : Sx w mean mg mb g₀ Hs env ow m mu h) (hI : g₀.get? I = some o) (hIH : I ∈ Hs) (hP : P o) : Sx w mean mg mb (hideAll g₀ [I]) Hs env ow m ((I, P) :: mu) h := by
  refine ⟨vis_self.trans S.base, S.cx, S.vars, fun p hp => ?_, fun b hb => ?_, ?_⟩
  · rcases List.mem_cons.mp hp with rfl | hp
    · exact ⟨o, S.base _ _ hI, hP⟩
    · exact S.own p hp
  · have : b = I ∨ b ∈ ow ++ mu.map (·.1) := by
      rcases List.mem_append.mp hb with h1 | h1
      · exact .inr (List.mem_append_left _ h1)
      · rcases List.mem_cons.mp h1 with h1 | h1
        · exact .inl h1
        · exact .inr (List.mem_append_right _ h1)
    rcases this with rfl | h1
    · exact ⟨hIH, hideAll_none _ List.mem_cons_self⟩
    · refine ⟨(S.wr b h1).1, ?_⟩
      cases e : (hideAll g₀ [I]).get? b with
      | none => rfl
      | some o => have := vis_self _ _ e; rw [(S.wr b h1).2] at this; cases this
  · rw [List.map_cons]
    refine (List.perm_middle.nodup_iff).mpr (List.nodup_cons.mpr ⟨fun hm => ?_, S.nd⟩)
    have := (S.wr I hm).2
    rw [hI] at this; cases this
theorem iterP_of (hit : h.IsListIter I l i) : ∃ o, h.get? I = some o ∧ iterP l i o := let ⟨o, e, c, d⟩ := hit; ⟨o, e, c, d⟩
theorem Sx.iter (S : Sx w mean mg mb g₀ Hs env ow m ((I, iterP l i) :: mu) h) : h.IsListIter I l i := let ⟨o, e, c, d⟩ := S.own _ List.mem_cons_self; ⟨o, e, c, d⟩
theorem fNextM (S : Sx w mean mg mb g₀ Hs env (ownOf env) m ((I, iterP l i) :: mu) hp) (hl : (hideAll hp Hs).IsList l vs.toArray) (hx : vs[i]? = some v)
    (h : ∀ h', Sx w mean mg mb g₀ Hs env (ownOf env) m ((I, iterP l (i + 1)) :: mu) h' → Keeps (hideAll hp Hs) (hideAll h' Hs) → Q v ⟨h', gn, dr, t, os⟩) : wpAny (model pw w) A (call (.builtin "next") [.ref I]) Q E ⟨hp, gn, dr, t, os⟩ := by
  refine fNext S.iter (hl.at fun o e => vis_self _ _ e) (by simpa using hx) fun h' hit hs => ?_
  obtain ⟨o, e, hP⟩ := iterP_of hit
  obtain ⟨S', k⟩ := S.ext (P' := iterP l (i + 1)) (fun b o hb e => hs.extBut b o hb e) e hP
  exact h h' S' k
theorem fAnd (h : ∀ u k, Q (.int (Builtin.bitAnd a b) u) ⟨hp, gn, dr, k, os⟩) : wpAny (model pw w) A (binaryOp .BitAnd (.int a ta) (.int b tb)) Q E ⟨hp, gn, dr, t, os⟩ := and_int (h _ _)
theorem fIOr (h : ∀ u k, Q (.int (Builtin.bitOr a b) u) ⟨hp, gn, dr, k, os⟩) : wpAny (model pw w) A (inplaceOp .BitOr (.int a ta) (.int b tb)) Q E ⟨hp, gn, dr, t, os⟩ := ior_int (h _ _)
theorem fIShl (hn : 0 ≤ b) (hn2 : b ≤ 1000) (ha : a.natAbs < 2 ^ 64) (h : ∀ u k, Q (.int (a * 2 ^ b.toNat) u) ⟨hp, gn, dr, k, os⟩) : wpAny (model pw w) A (inplaceOp .LShift (.int a ta) (.int b tb)) Q E ⟨hp, gn, dr, t, os⟩ :=
  ilshift_int_small hn (by omega) ha (h _ _)
end
theorem and63 (x : Int) : Builtin.bitAnd x 63 = x % 64 := bitAnd_m6 x
theorem and64 {x : Int} (h0 : 0 ≤ x) (h1 : x < 256) : (Builtin.bitAnd x 64 = 0 ↔ x % 128 < 64) := by
  obtain ⟨k, rfl⟩ := Int.eq_ofNat_of_zero_le h0
  have h := List.all_eq_true.mp (show (List.range 256).all (fun k => decide (Builtin.bitAnd (k : Int) 64 = 0 ↔ (k : Int) % 128 < 64)) = true by decide +kernel) k (List.mem_range.mpr (by omega))
  simpa using h
theorem or_digit {v d : Int} (hv : 0 ≤ v) (h0 : 0 ≤ d) (h1 : d < 64) : Builtin.bitOr (v * 2 ^ (6 : Int).toNat) d = v * 64 + d := by
  obtain ⟨a, rfl⟩ := Int.eq_ofNat_of_zero_le hv
  obtain ⟨b, rfl⟩ := Int.eq_ofNat_of_zero_le h0
  have e : ((a : Int) * 2 ^ (6 : Int).toNat) = ((2 ^ 6 * a : Nat) : Int) := by
    show (a : Int) * 2 ^ 6 = _
    push_cast; omega
  rw [e]
  have hn : ∀ x y : Nat, Builtin.bitOr (x : Int) (y : Int) = ((x ||| y : Nat) : Int) := fun x y => by
    unfold Builtin.bitOr Builtin.bitAnd
    have h1 : decide ((0 : Int) ≤ Builtin.bitNot (x : Int)) = false := decide_eq_false (by unfold Builtin.bitNot; omega)
    have h2 : decide ((0 : Int) ≤ Builtin.bitNot (y : Int)) = false := decide_eq_false (by unfold Builtin.bitNot; omega)
    rw [h1, h2]
    have e1 : ∀ z : Int, Builtin.bitNot (Builtin.bitNot z) = z := fun z => by unfold Builtin.bitNot; omega
    dsimp only
    rw [e1, e1, e1, Int.toNat_natCast, Int.toNat_natCast]
  rw [hn, ← Nat.two_pow_add_eq_or_of_lt (by omega)]
  push_cast; omega
noncomputable def b64 (d : List Int) : Int := d.foldl (fun v x => v * 64 + x) 0
theorem b64_snoc (d : List Int) (x : Int) : b64 (d ++ [x]) = b64 d * 64 + x := by unfold b64; rw [List.foldl_append]; rfl
theorem b64_bd : ∀ (n : Nat) (d : List Int), d.length = n → (∀ x ∈ d, 0 ≤ x ∧ x < 64) → 0 ≤ b64 d ∧ b64 d < 64 ^ n
  | 0, d, h, _ => by
    have : d = [] := List.length_eq_zero_iff.mp h
    subst this; decide
  | n + 1, d, h, hd => by
    have hne : d ≠ [] := fun e => by rw [e] at h; cases h
    obtain ⟨r, x, rfl⟩ : ∃ r x, d = r ++ [x] := ⟨d.dropLast, d.getLast hne, (List.dropLast_concat_getLast hne).symm⟩
    rw [List.length_append] at h
    have ih := b64_bd n r (by simpa using h) fun y hy => hd y (List.mem_append_left _ hy)
    have hx := hd x (List.mem_append_right _ (List.mem_singleton.mpr rfl))
    rw [b64_snoc, Int.pow_succ]
    omega
end Mine
end
section
open PySem PySem.W PyProof.Rows PySem.Calls
set_option Elab.async false
set_option maxRecDepth 100000
set_option linter.unusedVariables false
namespace Mine
/-- an exception under way: its traceback's head is T, its context is none -/
structure EX (base h : Heap) (l : List Env) (e : Addr) (fl : Value) : Prop where
  stays : base.StaysIn h
  new : base.get? e = none
  frames : h.FunFrames base l
  there : ∃ oe vs T oT ts, h.get? e = some oe ∧ oe.cls = .type "StopIteration" ∧ oe.data = .fields vs ∧ vs[2]? = some .none ∧ vs[1]? = some (.ref T) ∧ base.get? T = none ∧ T ≠ e ∧ h.get? T = some oT ∧ oT.data = .fields ts ∧ ts[3]? = some fl
section
variable {M : Model} {A : Around} {E : Value → Shared → Prop} {s : Shared} {base : Heap} {env : Env} {outer l : List Env} {L e : Addr}
theorem exEntry {oe : Obj} {vs : Array Value} {head : Value} {hadNext : Bool} {Q : Unit → Shared → Prop} (hfr : A.frames = some (env :: outer)) (hf : env.frame = some L)
    (hl : s.heap.FunFrames base (env :: outer)) (hkb : base.StaysIn s.heap) (hen : base.get? e = none)
    (he : s.heap.get? e = some oe) (hc : oe.cls = .type "StopIteration") (hd : oe.data = .fields vs) (h1 : 1 < vs.size) (h2 : vs[2]? = some .none)
    (h : ∀ h', EX base h' (env :: outer) e (rawInt L) → s.heap.UpToSlots h' → Q () { s with heap := h' }) :
    wpAny M A (do let a ← frameOf env; let pl ← entryPlaceOf L hadNext; let b ← EntryCells.newEntry head a .none (rawInt L) .none pl; setField (.ref e) 1 b) Q E s := by
  have hne : e ∉ (env :: outer).filterMap (·.frame) := fun hm => by
    obtain ⟨_, o, ho, hnf⟩ := hl.mem hm
    rw [he] at ho; cases ho; exact hnf vs hd
  refine wpAny_bind (wpAny_frameOf_fun hfr hl hf fun h₁ hs₁ => wpAny_bind (wpAny_entryPlaceOf fun pl hpl => ?_))
  unfold EntryCells.newEntry newFields
  refine wpAny_bind (wpAny_newObj_type ?_ (hpl.sizeOk5 _ _ _ _ _))
  have e1 : h₁.get? e = some oe := (hs₁.2.1 e hne).trans he
  have kb : base.StaysIn h₁ := fun b o hb => (hs₁.2.1 b fun hm => by rw [(hl.mem hm).1] at hb; cases hb).trans (hkb b o hb)
  obtain ⟨oT, hoT⟩ : ∃ oT : Obj, oT = { cls := .type "traceback", dict := none, data := .fields ([head, .ref L, .none, rawInt L, .none] ++ (if pl.isEmpty then List.replicate 6 Value.none else pl)).toArray } := ⟨_, rfl⟩
  have hdT : oT.data = .fields ([head, .ref L, .none, rawInt L, .none] ++ (if pl.isEmpty then List.replicate 6 Value.none else pl)).toArray := by rw [hoT]
  have hfT : oT.isFreed = false := by rw [hoT]; rfl
  rw [← hoT]
  have e2 := Heap.get?_push_of_some (h := h₁) oT e1
  refine wpAny_setField e2 hd h1 ?_
  have hTe : h₁.objs.size ≠ e := Nat.ne_of_gt (Heap.lt_size e1)
  have hd3 := Obj.data_mapFields hd (·.setIfInBounds 1 (Value.ref h₁.objs.size))
  have e3 := Heap.get?_update_self (Obj.mapFields (·.setIfInBounds 1 (Value.ref h₁.objs.size))) e2 (Obj.isFreed_of_fields hd3)
  have keep : ∀ b o, b ≠ e → h₁.get? b = some o → ((h₁.push oT).update e (Obj.mapFields (·.setIfInBounds 1 (Value.ref h₁.objs.size)))).get? b = some o := fun b o hb ho =>
    (Heap.get?_update_other _ _ (Ne.symm hb)).trans (Heap.get?_push_of_some _ ho)
  have nrec : ∀ b o, s.heap.get? b = some o → (∀ vs, o.data ≠ .fields vs) → b ≠ e := fun b o hb hn q => by
    rw [q, he] at hb; cases hb; exact hn vs hd
  have up : s.heap.UpToSlots ((h₁.push oT).update e (Obj.mapFields (·.setIfInBounds 1 (Value.ref h₁.objs.size)))) := fun b o hb hn => by
    obtain ⟨sl, hs⟩ := hs₁.2.2 b o hb
    exact ⟨sl, keep b _ (nrec b o hb hn) hs⟩
  refine h _ ⟨fun b o hb => keep b o (fun q => by rw [q, hen] at hb; cases hb) (kb b o hb), hen, hl.of_keeps fun b o hb hn => ?_, ?_⟩ up
  · obtain ⟨sl, hs⟩ := up b o hb hn; exact ⟨_, hs, rfl⟩
  · refine ⟨_, _, h₁.objs.size, oT, _, e3, (Obj.cls_mapFields ..).trans hc, hd3, by rw [Array.getElem?_setIfInBounds_ne (by decide)]; exact h2, by simp [h1], kb.fresh, hTe, ?_, hdT, ?_⟩
    · exact (Heap.get?_update_other _ _ (Ne.symm hTe)).trans (Heap.get?_push_size h₁ hfT)
    · simp
theorem exNote {Q : Unit → Shared → Prop} (hfr : A.frames = some (env :: outer)) (hf : env.frame = some L) (X : EX base s.heap (env :: outer) e .none)
    (h : ∀ h', EX base h' (env :: outer) e (rawInt L) → s.heap.UpToSlots h' → Q () { s with heap := h' }) : wpAny M A (noteFrame (.ref e) env) Q E s := by
  obtain ⟨x1, x2, x3, oe, vs, T, oT, ts, he, hc, hd, h2, h1, hT0, hTe, hT, hdT, h3⟩ := X
  unfold noteFrame
  simp only [hf]
  refine wpAny_bind (wpAny_field he hd h1 ?_)
  rw [if_pos (show (Value.ref T != Value.none) = true from by simp)]
  refine wpAny_bind (wpAny_field hT hdT h3 ?_)
  rw [if_neg (show ¬ ((Value.none == rawInt L) = true) from by simp [rawInt])]
  refine wpAny_bind (wpAny_setField hT hdT (Array.getElem?_eq_some_iff.mp h3).1 ?_)
  have other : ∀ b, b ≠ T → (s.heap.update T (Obj.mapFields (·.setIfInBounds 3 Value.none))).get? b = s.heap.get? b := fun b hb => Heap.get?_update_other _ _ (Ne.symm hb)
  have nrec : ∀ b o, s.heap.get? b = some o → (∀ vs, o.data ≠ .fields vs) → b ≠ T := fun b o hb hn q => by
    rw [q, hT] at hb; cases hb; exact hn ts hdT
  refine exEntry hfr hf (x3.of_keeps fun b o hb hn => ⟨o, (other b (nrec b o hb hn)).trans hb, rfl⟩) (fun b o hb => (other b fun q => by rw [q, hT0] at hb; cases hb).trans (x1 b o hb)) x2
    ((other e (Ne.symm hTe)).trans he) hc hd (Array.getElem?_eq_some_iff.mp h1).1 h2 fun h' X' U => h h' X' fun b o hb hn => U b o ((other b (nrec b o hb hn)).trans hb) hn
theorem exFlight {Q : Unit → Shared → Prop} {fl : Value} (X : EX base s.heap l e fl) (h : ∀ h', EX base h' l e .none → s.heap.UpToSlots h' → Q () { s with heap := h' }) : wpAny M A (setFlight (.ref e) none) Q E s := by
  obtain ⟨x1, x2, x3, oe, vs, T, oT, ts, he, hc, hd, h2, h1, hT0, hTe, hT, hdT, h3⟩ := X
  have hs3 := (Array.getElem?_eq_some_iff.mp h3).1
  unfold setFlight
  refine wpAny_bind (wpAny_field he hd h1 ?_)
  rw [if_pos (show (Value.ref T != Value.none) = true from by simp)]
  have other : ∀ b, b ≠ T → (s.heap.update T (Obj.mapFields (·.setIfInBounds 3 ((none : Option Addr).elim Value.none fun f => rawInt f)))).get? b = s.heap.get? b := fun b hb => Heap.get?_update_other _ _ (Ne.symm hb)
  have nrec : ∀ b o, s.heap.get? b = some o → (∀ vs, o.data ≠ .fields vs) → b ≠ T := fun b o hb hn q => by
    rw [q, hT] at hb; cases hb; exact hn ts hdT
  refine wpAny_setField hT hdT hs3 (h _ ⟨fun b o hb => (other b fun q => by rw [q, hT0] at hb; cases hb).trans (x1 b o hb), x2, x3.of_keeps fun b o hb hn => ⟨o, (other b (nrec b o hb hn)).trans hb, rfl⟩, ?_⟩ fun b o hb hn => ⟨o.slots, (other b (nrec b o hb hn)).trans hb⟩)
  exact ⟨oe, vs, T, _, _, (other e (Ne.symm hTe)).trans he, hc, hd, h2, h1, hT0, hTe, Heap.get?_update_self _ hT (Obj.isFreed_of_fields (Obj.data_mapFields hdT _)), Obj.data_mapFields hdT _, by simp [hs3]⟩
theorem exLeave {oe : Obj} {vs : Array Value} {Q : Unit → Shared → Prop} (hfr : A.frames = some (env :: outer)) (hf : env.frame = some L)
    (hl : s.heap.FunFrames base (env :: outer)) (hkb : base.StaysIn s.heap) (hen : base.get? e = none)
    (he : s.heap.get? e = some oe) (hc : oe.cls = .type "StopIteration") (hd : oe.data = .fields vs) (h1 : vs[1]? = some .none) (h2 : vs[2]? = some .none)
    (h : ∀ h', EX base h' outer e .none → s.heap.UpToSlots h' → Q () { s with heap := h' }) : wpAny M A («leaving» env (.ref e)) Q E s := by
  unfold «leaving»
  unfold noteFrame
  simp only [hf]
  refine wpAny_bind (wpAny_bind (wpAny_field he hd h1 ?_))
  rw [if_neg (by decide)]
  refine exEntry hfr hf hl hkb hen he hc hd (Array.getElem?_eq_some_iff.mp h1).1 h2 fun h₁ X1 U1 => ?_
  refine exFlight X1 fun h₂ X2 U2 => ?_
  obtain ⟨x1, x2, ⟨_, _, x3⟩, x4⟩ := X2
  exact h h₂ ⟨x1, x2, x3, x4⟩ (U1.trans U2)
end
end Mine
end
section
open PySem PySem.W PyProof.Rows PySem.Calls
set_option Elab.async false
set_option maxRecDepth 100000
set_option linter.unusedVariables false
namespace Mine
/-- the entries of an object's dict -/
structure Fields (es : List DictEntry) (fs : List (Str × Value)) : Prop where
  len : es.length = fs.length
  pure' : ∀ e ∈ es, e.refKey = false
  look : ∀ n, (es.find? (·.key.isStr n)).map (·.val) = fs.lookup n
theorem Fields.nil : Fields [] [] := ⟨rfl, fun _ h => (by cases h), fun _ => rfl⟩
theorem Fields.getL {es : List DictEntry} {fs : List (Str × Value)} (F : Fields es fs) (n : Str) : getL n es = some (fs.lookup n) := by
  have h := F.look n
  unfold PySem.W.getL
  cases e : es.find? (·.key.isStr n) with
  | some x => rw [e] at h; rw [← h]; rfl
  | none =>
    rw [e] at h
    have : es.any (·.refKey) = false := List.any_eq_false.mpr fun x hx => by rw [F.pure' x hx]; exact Bool.false_ne_true
    simp only [this, Bool.false_eq_true, if_false, ← h]; rfl
theorem putL_new {n : Str} {hsh : Int} {key v : Value} : ∀ {es : List DictEntry}, es.find? (·.key.isStr n) = none → putL n hsh key v es = es ++ [⟨hsh, key, v⟩]
  | [], _ => rfl
  | e :: r, h => by
    rw [List.find?_cons] at h
    cases q : e.key.isStr n with
    | true => rw [q] at h; cases h
    | false =>
      rw [q] at h
      unfold putL
      rw [q, if_neg Bool.false_ne_true, putL_new h]; rfl
theorem isStr_str {x n : Str} {t : Tok} : (Value.str x t).isStr n = (x == n) := rfl
theorem Fields.put {es : List DictEntry} {fs : List (Str × Value)} (F : Fields es fs) {n : Str} {hsh : Int} {t : Tok} {v : Value} (hn : fs.lookup n = none) : Fields (putL n hsh (.str n t) v es) ((n, v) :: fs) := by
  have h0 : es.find? (·.key.isStr n) = none := by
    have := F.look n
    rw [hn] at this
    exact Option.map_eq_none_iff.mp this
  rw [putL_new h0]
  refine ⟨by rw [List.length_append, F.len]; rfl, fun e he => ?_, fun x => ?_⟩
  · rcases List.mem_append.mp he with he | he
    · exact F.pure' e he
    · rw [List.mem_singleton.mp he]; rfl
  · rw [List.find?_append, look_cons]
    by_cases hx : x = n
    · subst hx
      rw [if_pos rfl, h0]
      simp [List.find?_cons, isStr_str]
    · rw [if_neg hx, ← F.look x]
      cases q : es.find? (·.key.isStr x) with
      | some e => rfl
      | none =>
        have : (n == x) = false := by simpa using fun q => hx q.symm
        simp [List.find?_cons, isStr_str, this]
abbrev wsC : Addr := 83
theorem ws_sa (P : Params) : findIn (K P) (.ref wsC) "__setattr__" = some (some (.builtin "object.__setattr__")) := by kernel_rfl
theorem ws_over (P : Params) : plainOver (K P) wsC = true := by kernel_rfl
theorem ws_dict (P : Params) : (clsIn (K P) wsC).any (·.hasDict) = true := by kernel_rfl
theorem ws_ga (P : Params) : findIn (K P) (.ref wsC) "__getattribute__" = some (some (.builtin "object.__getattribute__")) := by kernel_rfl
theorem ws_gt (P : Params) : findIn (K P) (.ref wsC) "__getattr__" = some none := by kernel_rfl
section
variable {w : World} {mean : ExcName → Option Value} {mg mb : Str → Option Value} {A : Around} {E : Value → Shared → Prop} {g₀ hp h : Heap} {Hs Hc : List Addr} {env cenv : Env} {ow owc : List Addr} {m mf : List (Str × Value)} {mu : Mu}
  {pos px : Pos} {v : Value} {D I l x dx : Addr} {vs : List Value} {gn : Array GenState} {dr : Drawn} {t : Nat} {os : OsState} {a b : Int} {ta tb tc : Tok} {k0 : Nat} {y z : List Nat} {s : Shared} {scope : Scope} {value slice : Expr} {i : Nat} {P : Obj → Prop} {o : Obj}
  {name : Str} {es : List DictEntry} {fs : List (Str × Value)} {n : Nat}
structure WsAt (g : Heap) (x : Addr) (fs : List (Str × Value)) : Prop where
  at' : ∃ dx es n, g.get? x = some (instObj wsC dx) ∧ g.get? dx = some (dictOf es n) ∧ Fields es fs
theorem WsAt.keeps {g g' : Heap} (W : WsAt g x fs) (k : Keeps g g') : WsAt g' x fs := let ⟨dx, es, n, a, b, c⟩ := W.at'; ⟨dx, es, n, k _ _ a, k _ _ b, c⟩
theorem instAt (hx : hp.get? x = some (instObj wsC dx)) (hd : hp.get? dx = some (dictOf es n)) : InstAt hp x (instObj wsC dx) wsC (some (dictOf es n)) := ⟨hx, rfl, rfl, hd⟩
/-- a field is read -/
theorem fGet {expr : Bool} {Q : Value → Shared → Prop} (X : (K w.params).In hp) (W : WsAt hp x fs) (hl : fs.lookup name = some v) (hn : findIn (K w.params) (.ref wsC) name = some none) (hv : handedIn v = true)
    (h : ∀ k, Q v ⟨hp, gn, dr, k, os⟩) : wpAny (model pw w) A (getAttr (.ref x) name expr) Q E ⟨hp, gn, dr, t, os⟩ := by
  obtain ⟨dx, es, n, hx, hd, F⟩ := W.at'
  refine get_value (s := ⟨hp, gn, dr, t, os⟩) X (instAt hx hd) (ws_ga _) (findObj_own (ws_dict _) hn rfl ?_) hv (h _)
  show PySem.W.getL name es = _
  rw [F.getL, hl]
/-- a method is found -/
theorem fMeth {pl : Sem Bool} {Q : Value × List Value → Shared → Prop} {f : Addr} (X : (K w.params).In hp) (W : WsAt hp x fs) (hl : fs.lookup name = none) (hf : findIn (K w.params) (.ref wsC) name = some (some (.ref f))) (ht : typeIn (K w.params) (.ref f) = some (.type "function"))
    (h : Q (.ref f, [.ref x]) ⟨hp, gn, dr, t, os⟩) : wpAny (model pw w) A (getMethod (.ref x) name pl) Q E ⟨hp, gn, dr, t, os⟩ := by
  obtain ⟨dx, es, n, hx, hd, F⟩ := W.at'
  refine method_fn (s := ⟨hp, gn, dr, t, os⟩) X (instAt hx hd) (ws_ga _) (ws_gt _) hf ht ?_ h
  show (PySem.W.getL name es).map _ = _
  rw [F.getL, hl]; rfl
/-- a field is made -/
theorem setD {Q : Unit → Shared → Prop} (X : (K w.params).In hp) (hx : hp.get? x = some (instObj wsC dx)) (hD : hp.get? dx = some (dictOf es n)) (F : Fields es fs) (hl : fs.lookup name = none) (hsz : fs.length ≤ 100) (ht : takerIn (K w.params) wsC name = some none)
    (h : ∀ h' k es' n', Heap.SameBut dx hp h' → h'.get? dx = some (dictOf es' n') → Fields es' ((name, v) :: fs) → Q () ⟨h', gn, dr, k, os⟩) : wpAny (model pw w) A (setAttr (.ref x) name v) Q E ⟨hp, gn, dr, t, os⟩ := by
  have I := instAt hx hD
  refine set_plain (s := ⟨hp, gn, dr, t, os⟩) X I (ws_sa _) (osa_open (s := ⟨hp, gn, dr, t + 1, os⟩) X I (ws_over _) ht fun b => ?_)
  obtain ⟨cd, hc, hd'⟩ := any_some (ws_dict w.params)
  refine wpAny_bind (wpAny_pure (wpAny_bind (wpAny_bind (wpAny_loadPart (s := ⟨hp, gn, dr, t + 1, os⟩) hx (wpAny_bind ((looks_clsIn X hc).here ?_))))))
  rw [hd']
  refine wpAny_pure (a := some dx) (wpAny_bind (wpAny_pure (wpAny_bind ?_)))
  unfold nsSet
  refine wpAny_bind (wpAny_bind (wpAny_askSetting (wpAny_pure (wpAny_bind (wpAny_mkText (wpAny_bind (wpAny_loadPart (s := ⟨hp, gn, dr, t + 1 + 1, os⟩) hD ?_)))))))
  dsimp only
  have c : (!es.toArray.any (·.key.isStr name) && es.toArray.any (·.refKey)) = false := by
    have h1 : es.any (·.refKey) = false := List.any_eq_false.mpr fun e he => by rw [F.pure' e he]; exact Bool.false_ne_true
    rw [List.any_toArray, List.any_toArray, h1, Bool.and_false]
  rw [aRefKeyMayBeTheName_at, c]
  have hp2 : (Obj.putName name (PyData.keyHash w.params name) (.str name (t + 1)) v (dictOf es n)) = dictOf (putL name (PyData.keyHash w.params name) (.str name (t + 1)) v es) (putN name es n) := putName_dict ..
  have D' := Heap.get?_update_self (Obj.putName name (PyData.keyHash w.params name) (.str name (t + 1)) v) hD (by rw [hp2]; rfl)
  rw [hp2] at D'
  have F' := F.put (hsh := PyData.keyHash w.params name) (t := t + 1) (v := v) hl
  refine wpAny_updatePart (s := ⟨hp, gn, dr, t + 1 + 1, os⟩) hD ?_
  refine wpAny_bind (wpAny_lookBehind D' (pastItsLine_dict (by rw [List.size_toArray, sizeLine_eq, F'.len, List.length_cons]; omega)) ?_)
  exact wpAny_pure (h _ _ _ _ (Heap.SameBut.update ..) D' F')
noncomputable def dictP (fs : List (Str × Value)) (o : Obj) : Prop := ∃ es n, o = dictOf es n ∧ Fields es fs
theorem fSet {Q : Unit → Shared → Prop} (S : Sx w mean mg mb g₀ Hs env (ownOf env) m ((dx, dictP fs) :: mu) hp) (hx : (hideAll hp Hs).get? x = some (instObj wsC dx)) (hl : fs.lookup name = none) (hsz : fs.length ≤ 100) (ht : takerIn (K w.params) wsC name = some none)
    (h : ∀ h' k, Sx w mean mg mb g₀ Hs env (ownOf env) m ((dx, dictP ((name, v) :: fs)) :: mu) h' → Keeps (hideAll hp Hs) (hideAll h' Hs) → Q () ⟨h', gn, dr, k, os⟩) : wpAny (model pw w) A (setAttr (.ref x) name v) Q E ⟨hp, gn, dr, t, os⟩ := by
  obtain ⟨o, hD, es, n, rfl, F⟩ := S.own _ List.mem_cons_self
  refine setD S.kin (vis_self _ _ hx) hD F hl hsz ht fun h' k es' n' hs hD' F' => ?_
  obtain ⟨S', kk⟩ := S.ext (P' := dictP ((name, v) :: fs)) (fun b o hb e => hs.extBut b o hb e) hD' ⟨_, _, rfl, F'⟩
  exact h h' k S' kk
/-- a field is read while the dict is my own -/
theorem Sx.ws (S : Sx w mean mg mb g₀ Hs env ow m ((dx, dictP fs) :: mu) hp) (hx : (hideAll hp Hs).get? x = some (instObj wsC dx)) : WsAt hp x fs := by
  obtain ⟨o, hD, es, n, rfl, F⟩ := S.own _ List.mem_cons_self
  exact ⟨dx, es, n, vis_self _ _ hx, hD, F⟩
end
end Mine
end
section
open PySem PySem.W PyProof.Rows PySem.Calls
set_option Elab.async false
set_option maxRecDepth 100000
set_option linter.unusedVariables false
namespace Mine
noncomputable def listW (vs : List Value) (o : Obj) : Prop := o.cls = .type "list" ∧ ∃ n, o.data = .seq vs.toArray n
section
variable {w : World} {mean : ExcName → Option Value} {mg mb : Str → Option Value} {A : Around} {E : Value → Shared → Prop} {g₀ hp h : Heap} {Hs Hc : List Addr} {env cenv : Env} {ow owc : List Addr} {m mf : List (Str × Value)} {mu : Mu}
  {pos px : Pos} {v : Value} {D I l x dx : Addr} {vs us : List Value} {gn : Array GenState} {dr : Drawn} {t : Nat} {os : OsState} {a b : Int} {ta tb tc : Tok} {k0 : Nat} {y z : List Nat} {s : Shared} {scope : Scope} {value slice : Expr} {i : Nat} {P : Obj → Prop} {o : Obj}
  {name : Str} {fs : List (Str × Value)} {n : Nat} {Q : Value → Shared → Prop}
theorem Sx.listW (S : Sx w mean mg mb g₀ Hs env ow m ((D, listW vs) :: mu) hp) : hp.IsList D vs.toArray := let ⟨o, e, c, d⟩ := S.own _ List.mem_cons_self; ⟨o, e, c, d⟩
theorem Sx.mono {P P' : Obj → Prop} (S : Sx w mean mg mb g₀ Hs env ow m ((D, P) :: mu) hp) (h : ∀ o, P o → P' o) : Sx w mean mg mb g₀ Hs env ow m ((D, P') :: mu) hp :=
  ⟨S.base, S.cx, S.vars, fun p hp => by
    rcases List.mem_cons.mp hp with rfl | hp
    · obtain ⟨o, e, q⟩ := S.own _ List.mem_cons_self; exact ⟨o, e, h o q⟩
    · exact S.own p (List.mem_cons_of_mem _ hp), S.wr, S.nd⟩
theorem listW_of {o : Obj} (h : listP vs o) : Mine.listW vs o := by obtain ⟨n, rfl⟩ := h; exact ⟨rfl, n, rfl⟩
theorem fSetI {k : Int} {Q : Unit → Shared → Prop} (S : Sx w mean mg mb g₀ Hs env (ownOf env) m ((D, Mine.listW vs) :: mu) hp) (h0 : 0 ≤ k) (hn : k < vs.length) (hsz : vs.length ≤ sizeLine)
    (h : ∀ h', Sx w mean mg mb g₀ Hs env (ownOf env) m ((D, Mine.listW (vs.set k.toNat v)) :: mu) h' → Keeps (hideAll hp Hs) (hideAll h' Hs) → Q () ⟨h', gn, dr, t, os⟩) : wpAny (model pw w) A (setItem (.ref D) (.int k ta) v) Q E ⟨hp, gn, dr, t, os⟩ := by
  refine wpAny_setItem_list S.listW h0 (by rw [sizeLine_eq] at hsz; omega) (by simpa using hn) fun h' hl hs => ?_
  obtain ⟨o, e, c, nn, d⟩ := hl
  obtain ⟨S', kk⟩ := S.ext (P' := Mine.listW (vs.set k.toNat v)) (fun b o hb e => hs.extBut b o hb e) e ⟨c, nn, by rw [d]; simp⟩
  exact h h' S' kk
theorem fAddL {l b : Addr} (S : Sx w mean mg mb g₀ Hs env ow m mu hp) (hl : hp.IsList l vs.toArray) (hb : hp.IsList b us.toArray) (hsz : vs.length + us.length ≤ sizeLine)
    (h : ∀ D h', Sx w mean mg mb g₀ (D :: Hs) env ow m ((D, listP (vs ++ us)) :: mu) h' → Keeps (hideAll hp Hs) (hideAll h' (D :: Hs)) → Q (.ref D) ⟨h', gn, dr, t, os⟩) :
    wpAny (model pw w) A (binaryOp .Add (.ref l) (.ref b)) Q E ⟨hp, gn, dr, t, os⟩ := by
  obtain ⟨⟨cls, dd, data, sl⟩, ho, hc, n, hd⟩ := id hl
  obtain ⟨⟨cls2, dd2, data2, sl2⟩, ho2, hc2, n2, hd2⟩ := id hb
  simp only at hc hd hc2 hd2
  subst hc hd hc2 hd2
  obtain ⟨S', k⟩ := S.newM (o := { cls := .type "list", data := .seq (vs ++ us).toArray }) (P := listP (vs ++ us)) rfl ⟨_, rfl⟩
  have e : vs.toArray ++ us.toArray = (vs ++ us).toArray := by simp
  refine concat_meets ⟨_, ho, rfl⟩ ⟨_, ho2, rfl⟩ noFill_list_add seq_list_add PySem.F.slot_list_add PySem.F.entry_list_add (PySem.F.args_list_add_2 _ _) (list_addW l b vs.toArray us.toArray n n2 dd dd2 sl sl2 (by simpa using hsz)) ⟨ho, ho2, ?_⟩
  rw [e]
  exact h _ _ S' k
theorem flat_arr (l : List Value) : ∀ (n : Nat) (a : List Value), (List.replicate n l.toArray).foldl (fun x y => x ++ y) a.toArray = (a ++ (List.replicate n l).flatten).toArray
  | 0, a => by simp
  | n + 1, a => by
    rw [List.replicate_succ, List.foldl_cons, List.append_toArray, flat_arr l n, List.replicate_succ, List.flatten_cons, List.append_assoc]
theorem fMulL {l : Addr} {n : Int} (S : Sx w mean mg mb g₀ Hs env ow m mu hp) (hl : hp.PlainList l vs.toArray) (hne : vs ≠ []) (hn : n ≤ 1000) (hlo : -1000 ≤ n) (hsz : vs.length ≤ 1000)
    (h : ∀ D h', Sx w mean mg mb g₀ Hs env ow m mu h' → Keeps (hideAll hp Hs) (hideAll h' Hs) → (hideAll h' Hs).PlainList D (List.replicate n.toNat vs).flatten.toArray → Q (.ref D) ⟨h', gn, dr, t, os⟩) :
    wpAny (model pw w) A (binaryOp .Mult (.ref l) (.int n ta)) Q E ⟨hp, gn, dr, t, os⟩ := by
  obtain ⟨k, hl⟩ := hl
  have hm : vs.toArray.size * n.toNat ≤ 1000 * 1000 := Nat.mul_le_mul (by simpa using hsz) (by omega)
  have hbig : vs.toArray.size * n.toNat ≤ 2 ^ 24 := Nat.le_trans hm (by decide)
  obtain ⟨S', kk, e⟩ := S.newV (o := { cls := .type "list", data := .seq (List.replicate n.toNat vs).flatten.toArray }) rfl
  refine wpAny_binaryOp_repeat_ref (s := ⟨hp, gn, dr, t, os⟩) (T := "list") (U := "int") (by decide) ⟨_, hl, rfl⟩ (fun s' => typeIs_int s' n ta) noFill_list_mul F.fills_int_mul F.slot_int_rmul repeat_list F.slot_int_index.lookup
    (call_meets F.slot_int_rmul (typeIs_int _ n ta) F.entry_int_rmul (F.args_int_rmul_2 _ _) (int___rmul___int_list n ta l vs.toArray k)
      ⟨hl, rfl, ⟨_, hl, rfl⟩, call_meets F.slot_list_mul ⟨_, hl, rfl⟩ F.entry_list_mul (F.args_list_mul_2 _ _)
        (AutoListH.list___mul___list_int_3 l vs.toArray k n ta (by simp [Builtin.List.listFitsIndex]; omega) (by omega) (by simp [Builtin.List.listTooLong, sizeLine] at hbig ⊢; omega))
        ⟨hl, ?_⟩⟩)
  have he : vs.toArray.isEmpty = false := by cases vs with | nil => exact absurd rfl hne | cons => rfl
  rw [he, if_neg Bool.false_ne_true, show (#[] : Array Value) = ([] : List Value).toArray from rfl, flat_arr, List.nil_append]
  exact h _ _ S' kk ⟨_, e⟩
theorem fTupOf {l : Addr} (S : Sx w mean mg mb g₀ Hs env ow m mu hp) (hl : hp.IsList l vs.toArray) (hsz : vs.length ≤ sizeLine)
    (h : ∀ D h', Sx w mean mg mb g₀ Hs env ow m mu h' → Keeps (hideAll hp Hs) (hideAll h' Hs) → IsTup (hideAll h' Hs) D vs.toArray → Q (.ref D) ⟨h', gn, dr, t, os⟩) :
    wpAny (model pw w) A (call (.type "tuple") [.ref l]) Q E ⟨hp, gn, dr, t, os⟩ := by
  refine call_tuple_list (s := ⟨hp, gn, dr, t, os⟩) hl (fun h' k => ?_) (by simpa using hsz)
  have S1 := S.keeps k
  obtain ⟨S', kk, e⟩ := S1.newV (o := { cls := .type "tuple", data := .seq vs.toArray }) rfl
  exact h _ _ S' ((vis_keeps k).trans kk) ⟨_, e, rfl, _, rfl⟩
end
theorem ws_S (P : Params) : findCls (K P) (.ref wsC) (.type "type") (Str.ofString "S") = some (.val (.str (sT [32]) 209)) := by kernel_rfl
theorem ws_T (P : Params) : findCls (K P) (.ref wsC) (.type "type") (Str.ofString "T") = some (.val (.str (sT [9]) 210)) := by kernel_rfl
theorem ws_rd (P : Params) : readsIn (K P) wsC (.type "type") = true := by kernel_rfl
section
variable {w : World} {mean : ExcName → Option Value} {mg mb : Str → Option Value} {A : Around} {E : Value → Shared → Prop} {g₀ hp h : Heap} {Hs Hc : List Addr} {env cenv : Env} {ow owc : List Addr} {m mf : List (Str × Value)} {mu : Mu}
  {pos px : Pos} {v : Value} {D I l x dx : Addr} {vs us : List Value} {gn : Array GenState} {dr : Drawn} {t : Nat} {os : OsState} {s : Shared} {n : Nat} {Q : Value → Shared → Prop} {nx : Str} {o : Obj} {P : Obj → Prop}
theorem fClsS {expr : Bool} (X : (K w.params).In hp) (h : ∀ k, Q (.str (sT [32]) 209) ⟨hp, gn, dr, k, os⟩) : wpAny (model pw w) A (getAttr (.ref wsC) (Str.ofString "S") expr) Q E ⟨hp, gn, dr, t, os⟩ := cls_value (s := ⟨hp, gn, dr, t, os⟩) X (ws_rd _) (ws_S _) rfl (h _)
theorem fClsT {expr : Bool} (X : (K w.params).In hp) (h : ∀ k, Q (.str (sT [9]) 210) ⟨hp, gn, dr, k, os⟩) : wpAny (model pw w) A (getAttr (.ref wsC) (Str.ofString "T") expr) Q E ⟨hp, gn, dr, t, os⟩ := cls_value (s := ⟨hp, gn, dr, t, os⟩) X (ws_rd _) (ws_T _) rfl (h _)
/-- my own object is let go and shown -/
theorem Sx.letGo (S : Sx w mean mg mb g₀ (D :: Hs) env ow m ((D, P) :: mu) hp) : Sx w mean mg mb g₀ Hs env ow m mu hp ∧ Keeps (hideAll hp (D :: Hs)) (hideAll hp Hs) := let ⟨_, _, _, S', k⟩ := S.done; ⟨S', k⟩
/-- a loop whose turns may make new objects of their own -/
noncomputable def ForPostG (w : World) (mean : ExcName → Option Value) (mg mb : Str → Option Value) (g₁ : Heap) (Hs : List Addr) (env : Env) (I : Addr) (oI : Obj) (J : List Addr → List (Str × Value) → Mu → Heap → Prop) (s : Shared) (Q : Flow → Shared → Prop) (f : Flow) (s' : Shared) : Prop :=
  match f with
  | .brk => Q .next s'
  | .ret v => Q (.ret v) s'
  | _ => ∃ h' tk m' mu' Ds, s' = { s with heap := h', toks := tk } ∧ Sx w mean mg mb g₁ (I :: (Ds ++ Hs)) env (ownOf env) m' ((I, (· = oI)) :: mu') h' ∧ (∀ d ∈ Ds, d ∈ mu'.map (·.1)) ∧ J Ds m' mu' (hideAll h' (I :: (Ds ++ Hs)))
theorem forG_core {body : List Stmt} {Pv : Nat → Value → Prop} {St : Nat → Heap → Prop} {Q : Flow → Shared → Prop} {R : Result → Shared → Prop} {Ds : List Addr}
    (S : Sx w mean mg mb g₀ (I :: (Ds ++ Hs)) env (ownOf env) m ((I, fun _ => True) :: mu) hp) (hDs : ∀ d ∈ Ds, d ∈ mu.map (·.1))
    (W : Walks pw w A I [I] [I] n Pv St) (hlive : ∀ i h, St i h → ∃ o, h.get? I = some o)
    (st0 : St 0 hp) (J : Nat → List Addr → List (Str × Value) → Mu → Heap → Prop) (hJ : ∀ i Ds m mu g g', Keeps g g' → J i Ds m mu g → J i Ds m mu g') (j0 : J 0 Ds m mu (hideAll hp (I :: (Ds ++ Hs))))
    (hk : env.scope.kind = .function) (hx : stOk env nx = true)
    (step : ∀ i v Ds₁ m₁ mu₁ h₁ tk oI g₁, i < n → Pv i v → Keeps g₀ g₁ → Keeps (hideAll hp (I :: (Ds ++ Hs))) (hideAll h₁ (I :: (Ds₁ ++ Hs))) → (∀ d ∈ Ds₁, d ∈ mu₁.map (·.1)) → J i Ds₁ m₁ mu₁ (hideAll h₁ (I :: (Ds₁ ++ Hs))) →
      Sx w mean mg mb g₁ (I :: (Ds₁ ++ Hs)) env (ownOf env) ((nx, v) :: m₁) ((I, (· = oI)) :: mu₁) h₁ →
      wpAny (model pw w) A (execs body env) (ForPostG w mean mg mb g₁ Hs env I oI (J (i + 1)) ⟨h₁, gn, dr, tk, os⟩ Q) (fun _ _ => False) ⟨h₁, gn, dr, tk, os⟩)
    (done : ∀ Ds' m' mu' g, ¬ J n Ds' m' mu' g)
    (hR : ∀ f s', Q f s' → R (.ok f) s') :
    codeAny (model pw w) A (.forLoop (.Name nx px) (.ref I) body [] env) R ⟨hp, gn, dr, t, os⟩ := by
  obtain ⟨k01, S1, kv1⟩ := S.anchor
  generalize hg1 : hideAll hp (ownOf env ++ ((I, fun _ => True) :: mu).map (·.1)) = g₁ at k01 S1 kv1
  have visK : ∀ {Ds₁ m' mu' h'}, Sx w mean mg mb g₁ (I :: (Ds₁ ++ Hs)) env (ownOf env) m' mu' h' → (∀ d ∈ Ds₁, d ∈ mu'.map (·.1)) → Keeps (hideAll hp (I :: (Ds ++ Hs))) (hideAll h' (I :: (Ds₁ ++ Hs))) := fun S' hD b o e => by
    have e1 := kv1 b o e
    refine hideAll_get _ (S'.base b o e1) fun hm => ?_
    rcases List.mem_cons.mp hm with rfl | hm
    · exact not_hid e List.mem_cons_self
    · rcases List.mem_append.mp hm with hm | hm
      · have := (S'.wr b (List.mem_append_right _ (hD b hm))).2
        rw [e1] at this; cases this
      · exact not_hid e (List.mem_cons_of_mem _ (List.mem_append_right _ hm))
  refine codeAny_forLoop
    (fun k s' => ∃ i Ds' h' tk m' mu', s' = ⟨h', gn, dr, tk, os⟩ ∧ St i h' ∧ Sx w mean mg mb g₁ (I :: (Ds' ++ Hs)) env (ownOf env) m' ((I, fun _ => True) :: mu') h' ∧ (∀ d ∈ Ds', d ∈ mu'.map (·.1)) ∧ J i Ds' m' mu' (hideAll h' (I :: (Ds' ++ Hs))) ∧ i ≤ n ∧ k = n + 1 - i) ?_ (n + 1)
    ⟨0, Ds, hp, t, m, mu, rfl, st0, S1, hDs, j0, Nat.zero_le _, rfl⟩
  rintro k s' ⟨i, Ds₁, h₁, tk, m₁, mu₁, rfl, hst, S₁, hD₁, hj, hi, rfl⟩
  have hmem : ∀ {P : Obj → Prop} {Ds' : List Addr} {mu' : Mu}, (∀ d ∈ Ds', d ∈ mu'.map (·.1)) → ∀ d ∈ Ds', d ∈ (((I, P) :: mu').map (·.1)) := fun h d hd => List.mem_cons_of_mem _ (h d hd)
  by_cases hlt : i < n
  · refine W.item i _ _ _ hlt hst fun v h₂ tk₂ hPv hst₂ hk₂ => ?_
    obtain ⟨oI, hoI⟩ := hlive _ _ hst₂
    obtain ⟨S₂, kk₂⟩ := S₁.ext (P' := (· = oI)) (fun b o hb e => hk₂ b o (fun q => hb (List.mem_singleton.mp q)) e) hoI rfl
    refine wpAny_assign_Name (stV (s := ⟨h₂, gn, dr, tk₂, os⟩) S₂ (fun h₃ tk₃ S₃ kk₃ => ?_) hk hx)
    have hst₃ : St (i + 1) h₃ := W.frame _ _ _ hst₂ fun b hb o e => by
      rw [List.mem_singleton.mp hb] at e ⊢
      obtain ⟨o1, e1, rfl⟩ := S₃.own _ List.mem_cons_self
      rw [hoI] at e; cases e; exact e1
    refine wpAny_noRaise (wpAny_mono (step i v Ds₁ m₁ mu₁ h₃ tk₃ oI g₁ hlt hPv k01 (visK S₃ (hmem hD₁)) hD₁ (hJ _ _ _ _ _ _ (kk₂.trans kk₃) hj) S₃) (fun f s₄ h₄ => ?_) fun _ _ e => e)
    have nxt : (∃ h' tk m' mu' Ds', s₄ = { (⟨h₃, gn, dr, tk₃, os⟩ : Shared) with heap := h', toks := tk } ∧ Sx w mean mg mb g₁ (I :: (Ds' ++ Hs)) env (ownOf env) m' ((I, (· = oI)) :: mu') h' ∧ (∀ d ∈ Ds', d ∈ mu'.map (·.1)) ∧ J (i + 1) Ds' m' mu' (hideAll h' (I :: (Ds' ++ Hs)))) →
        ∃ m, m < n + 1 - i ∧ ∃ i Ds' h' tk m' mu', s₄ = ⟨h', gn, dr, tk, os⟩ ∧ St i h' ∧ Sx w mean mg mb g₁ (I :: (Ds' ++ Hs)) env (ownOf env) m' ((I, fun _ => True) :: mu') h' ∧ (∀ d ∈ Ds', d ∈ mu'.map (·.1)) ∧ J i Ds' m' mu' (hideAll h' (I :: (Ds' ++ Hs))) ∧ i ≤ n ∧ m = n + 1 - i := by
      rintro ⟨h₅, tk₅, m₅, mu₅, Ds₅, rfl, S₅, hD₅, hj₅⟩
      obtain ⟨o5, e5, rfl⟩ := S₅.own _ List.mem_cons_self
      refine ⟨n + 1 - (i + 1), by omega, i + 1, Ds₅, h₅, tk₅, m₅, mu₅, rfl, ?_, (S₅.ext (P' := fun _ => True) (fun _ _ _ e => e) e5 trivial).1, hD₅, hj₅, hlt, rfl⟩
      refine W.frame _ _ _ hst₂ fun b hb o e => ?_
      rw [List.mem_singleton.mp hb] at e ⊢
      rw [hoI] at e; cases e; exact e5
    cases f with
    | ret v => exact hR _ _ h₄
    | brk => exact hR _ _ h₄
    | cont => exact nxt h₄
    | next => exact nxt h₄
  · have hin : i = n := by omega
    subst hin
    exact absurd hj (done _ _ _ _)
theorem fForSG {body : List Stmt} {y : List Nat} {t₀ : Tok} {Q : Flow → Shared → Prop} {R : Result → Shared → Prop} {Ds : List Addr}
    (J : Nat → List Addr → List (Str × Value) → Mu → Heap → Prop) (hJ : ∀ i Ds m mu g g', Keeps g g' → J i Ds m mu g → J i Ds m mu g')
    (S : Sx w mean mg mb g₀ (Ds ++ Hs) env (ownOf env) m mu hp) (hDs : ∀ d ∈ Ds, d ∈ mu.map (·.1)) (hh : A.handled = none) (j0 : J 0 Ds m mu (hideAll hp (Ds ++ Hs)))
    (hk : env.scope.kind = .function) (hx : stOk env nx = true)
    (step : ∀ I i c tv Ds₁ m₁ mu₁ h₁ tk oI g₁, y[i]? = some c → Keeps g₀ g₁ → Keeps (hideAll hp (Ds ++ Hs)) (hideAll h₁ (I :: (Ds₁ ++ Hs))) → (∀ d ∈ Ds₁, d ∈ mu₁.map (·.1)) → J i Ds₁ m₁ mu₁ (hideAll h₁ (I :: (Ds₁ ++ Hs))) →
      Sx w mean mg mb g₁ (I :: (Ds₁ ++ Hs)) env (ownOf env) ((nx, .str (sT [c]) tv) :: m₁) ((I, (· = oI)) :: mu₁) h₁ →
      wpAny (model pw w) A (execs body env) (ForPostG w mean mg mb g₁ Hs env I oI (J (i + 1)) ⟨h₁, gn, dr, tk, os⟩ Q) (fun _ _ => False) ⟨h₁, gn, dr, tk, os⟩)
    (done : ∀ Ds' m' mu' g, ¬ J y.length Ds' m' mu' g)
    (hR : ∀ f s', Q f s' → R (.ok f) s') :
    wpAny (model pw w) A (pyIter (.str (sT y) t₀)) (fun it s₂ => codeAny (model pw w) A (.forLoop (.Name nx px) it body [] env) R s₂) E ⟨hp, gn, dr, t, os⟩ := by
  have hsz : (sT y).cps.size = y.length := by simp
  have go : ∀ o : Obj, o.isFreed = false → ∀ St : Nat → Heap → Prop, Walks pw w A hp.objs.size [hp.objs.size] [hp.objs.size] (sT y).cps.size (SignAt (sT y)) St → St 0 (hp.push o) → (∀ i h, St i h → ∃ o, h.get? hp.objs.size = some o) →
      codeAny (model pw w) A (.forLoop (.Name nx px) (.ref hp.objs.size) body [] env) R ⟨hp.push o, gn, dr, t, os⟩ := fun o hf St W st0 hlv => by
    obtain ⟨S', kk⟩ := S.newM (o := o) (P := fun _ => True) hf trivial
    rw [hsz] at W
    refine forG_core S' hDs W hlv st0 J hJ (hJ _ _ _ _ _ _ kk j0) hk hx (fun i v Ds₁ m₁ mu₁ h₁ tk oI g₁ hi hv kg k1 hD hj S1 => ?_) done hR
    obtain ⟨c, u, hc, rfl⟩ := hv
    exact step _ i c u Ds₁ m₁ mu₁ h₁ tk oI g₁ (by simpa using hc) kg (kk.trans k1) hD hj S1
  cases ha : (sT y).cps.all (· < 128)
  · exact wpAny_pyIter_wide ha (go _ rfl _ (Walks.strWide (prog := pw) (w := w) hh hp.objs.size (sT y) t₀) ⟨_, Heap.get?_push_size _ rfl, rfl, rfl⟩ fun i h st => let ⟨o, e, _⟩ := st; ⟨o, e⟩)
  · exact wpAny_pyIter_ascii ha (go _ rfl _ (Walks.strAscii (prog := pw) (w := w) hh hp.objs.size (sT y) t₀) ⟨_, Heap.get?_push_size _ rfl, rfl, rfl⟩ fun i h st => let ⟨o, e, _⟩ := st; ⟨o, e⟩)
end
end Mine
end
section
open PySem PySem.W PyProof.Rows PySem.Calls
set_option Elab.async false
set_option maxRecDepth 100000
set_option linter.unusedVariables false
namespace Mine
section
variable {w : World} {mean : ExcName → Option Value} {mg mb : Str → Option Value} {A : Around} {E : Value → Shared → Prop} {g₀ hp h : Heap} {Hs Hc : List Addr} {s : Shared} {gn : Array GenState} {dr : Drawn} {t : Nat} {os : OsState}
theorem codeC {R : Result → Shared → Prop} {f : Addr} {args : List Value} {binds : List (Str × Value)} {name qual : Str} {params : Arguments} {body : List Stmt} {scope : Scope} {dV kV doc pm cdv ct oc : Value} {an od : Option Addr} {osl : Array (Option Value)}
    (C : Cx w mean mg mb Hs s.heap) (hroom : A.depth < recursionLimit)
    (ho : (K w.params).lookup f = some ⟨oc, od, .func (fnOf name qual params body scope dV kV doc pm an cdv ct), osl⟩) (hcd : codeIn (K w.params) cdv qual = true)
    (hbind : BindsTo s (fnOf name qual params body scope dV kV doc pm an cdv ct) ⟨args, []⟩ binds) (hloc : ∀ y ∈ binds, scope.names.lookup y.1 = some .local)
    (hnd : ((cellsFrom 0 scope.names []).map (·.1)).Nodup) (hco : scope.isCoroutine = false) (hgen : scope.isGenerator = false) (hk : scope.kind = .function)
    (h : ∀ L h₁ tk env, IsEnv env (envX qual scope L f cdv (cellsFrom (L + 1) scope.names [])) → Sx w mean mg mb s.heap (ownOf env ++ Hs) env (ownOf env) binds.reverse [] h₁ →
      Keeps (hideAll s.heap Hs) (hideAll h₁ (ownOf env ++ Hs)) → ∀ A', A' = A.deeper env →
      wpAny (model pw w) A' (execs body env) (fun fl s' => R (.ok (.ret (match fl with | .ret v => v | _ => .none))) s')
        (fun e s' => False) { s with heap := h₁, toks := tk }) :
    codeAny (model pw w) A (.call (.ref f) ⟨args, []⟩) R s :=
  codeCE C hroom ho hcd hbind hloc hnd hco hgen hk fun L h₁ tk _ S k => wpAny_noRaise (h L h₁ tk _ rfl S k _ rfl)
theorem fEqS {y z : List Nat} {ta tb : Tok} {Q : Value → Shared → Prop} (h : Q (.bool (decide (y = z))) ⟨hp, gn, dr, t, os⟩) : wpAny (model pw w) A (compareOp .Eq (.str (sT y) ta) (.str (sT z) tb)) Q E ⟨hp, gn, dr, t, os⟩ := by
  refine PySem.P.eq_str ?_
  have e : ((sT y).cps.toList == (sT z).cps.toList) = decide (y = z) := by
    show (y.toArray.toList == z.toArray.toList) = _
    simp only [List.toList_toArray]
    by_cases h : y = z
    · subst h; simp
    · simp [h]
  rw [e]; exact h
theorem fNeS {y z : List Nat} {ta tb : Tok} {Q : Value → Shared → Prop} (h : Q (.bool (!decide (y = z))) ⟨hp, gn, dr, t, os⟩) : wpAny (model pw w) A (compareOp .NotEq (.str (sT y) ta) (.str (sT z) tb)) Q E ⟨hp, gn, dr, t, os⟩ := by
  refine PySem.P.ne_str ?_
  have e : ((sT y).cps.toList != (sT z).cps.toList) = !decide (y = z) := by
    show (y.toArray.toList != z.toArray.toList) = _
    simp only [List.toList_toArray]
    by_cases h : y = z
    · subst h; simp
    · simp [h]
  rw [e]; exact h
theorem makeW {v : Value} {Q : Value → Shared → Prop} (R : Rm A 2) (C : Cx w mean mg mb Hs hp)
    (h : ∀ H2 dx x A₁, Cx w mean mg mb (dx :: Hs) H2 → Keeps hp H2 → Keeps (hideAll hp Hs) (hideAll H2 (dx :: Hs)) → (hideAll H2 (dx :: Hs)).get? x = some (instObj wsC dx) → H2.get? dx = some (dictOf [] 0) → hp.get? dx = none → hp.get? x = none → Rm A₁ 1 →
      codeAny (model pw w) A₁ (.call (.ref 38) ⟨[.ref x, v], []⟩) (fun r s' => match r with | .ok (.ret v) => v = .none ∧ Q (.ref x) s' | .ok _ => False | .error e => E e s') ⟨H2, gn, dr, t, os⟩) :
    wpAny (model pw w) A (call (.ref wsC) [v]) Q E ⟨hp, gn, dr, t, os⟩ := by
  have X : (K w.params).In hp := C.gd.X.keeps vis_self
  refine wpAny_call (make_core (makes_of X (by kernel_rfl)) (looks_findIn X (r := some (.ref 38)) (by kernel_rfl)) (fun self => bind_fn X self (by kernel_rfl)) (.inl rfl) ?_)
  have k1 : Keeps hp ((hp.push emptyDict).push (instObj wsC hp.objs.size)) := fun b o e => Heap.get?_push_of_some _ (Heap.get?_push_of_some _ e)
  have hd : ((hp.push emptyDict).push (instObj wsC hp.objs.size)).get? hp.objs.size = some (dictOf [] 0) := Heap.get?_push_of_some _ (Heap.get?_push_size _ rfl)
  have hx : ((hp.push emptyDict).push (instObj wsC hp.objs.size)).get? (hp.objs.size + 1) = some (instObj wsC hp.objs.size) := by
    have := Heap.get?_push_size (hp.push emptyDict) (o := instObj wsC hp.objs.size) rfl
    rwa [Heap.size_push] at this
  obtain ⟨C2, kk⟩ := C.more k1 (Ds := [hp.objs.size]) (fun b hb => by rw [List.mem_singleton.mp hb]; exact none_ge (Nat.le_refl _)) (fun b hb => by rw [List.mem_singleton.mp hb]; exact ⟨_, hd⟩) (by simp)
  have hnx : hp.get? (hp.objs.size + 1) = none := none_ge (Nat.le_succ _)
  have hvx : (hideAll ((hp.push emptyDict).push (instObj wsC hp.objs.size)) (hp.objs.size :: Hs)).get? (hp.objs.size + 1) = some (instObj wsC hp.objs.size) := hideAll_get _ hx fun hm => by
    rcases List.mem_cons.mp hm with q | q
    · exact absurd q (Nat.succ_ne_self _)
    · exact C.fresh hnx q
  refine codeAny_mono (h _ hp.objs.size (hp.objs.size + 1) _ C2 k1 kk hvx hd (none_ge (Nat.le_refl _)) hnx ⟨R.hh, ?_, ?_⟩) fun r s' hr => ?_
  · have h1 := R.room
    have e : Code.weight (.builtin "type.__call__" ⟨[.ref wsC, v], []⟩) = 1 := by kernel_rfl
    show A.depth + Code.weight _ + 1 < _
    rw [e]; omega
  · have h1 := R.un
    have e : Code.cUnits (.builtin "type.__call__" ⟨[.ref wsC, v], []⟩) = 1 := by kernel_rfl
    show A.units + Code.cUnits _ + 3 * 1 < _
    rw [e]; omega
  · cases r with
    | error e => exact hr
    | ok f => cases f with
      | ret v => exact hr
      | _ => exact hr
end
end Mine
end
section
open PySem PySem.W PyProof.Rows PySem.Calls
set_option Elab.async false
set_option maxRecDepth 100000
set_option linter.unusedVariables false
namespace Mine
theorem entry_unchain : entryFor table "proto.unchain" = some Builtin.«proto.unchain» := entryFor_of_fast (by kernel_rfl)
/-- the exception in hand: its context is none -/
noncomputable def HdlP (o : Obj) : Prop := ∃ vs, o.data = .fields vs ∧ vs[2]? = some .none
section
variable {w : World} {mean : ExcName → Option Value} {mg mb : Str → Option Value} {A : Around} {E : Value → Shared → Prop} {g₀ hp h : Heap} {Hs Hc : List Addr} {env cenv : Env} {ow owc : List Addr} {m mf : List (Str × Value)} {mu : Mu}
  {px py pos : Pos} {v : Value} {D I l ax e : Addr} {vs us : List Value} {gn : Array GenState} {dr : Drawn} {t : Nat} {os : OsState} {a b : Int} {ta tb tc : Tok} {k0 : Nat} {s : Shared} {scope : Scope} {value slice : Expr} {i n : Nat} {P : Obj → Prop} {o : Obj} {x y : Str} {Q : Value → Shared → Prop}
theorem pyNext_endH {items : Array Value} {Q : Option Value → Shared → Prop} (hh : A.handled = some (.ref e)) (he : s.heap.get? e = some o) (hP : HdlP o) (heI : e ≠ I)
    (hit : s.heap.IsListIter I l i) (hl : s.heap.IsList l items) (hx : items[i]? = none)
    (hQ : ∀ h' tk, Heap.ExtBut I s.heap h' → Q none { s with heap := h', toks := tk }) : wpAny (model pw w) A (pyNext (.ref I)) Q E s := by
  obtain ⟨oI, ho, hc, hd⟩ := id hit
  obtain ⟨ol, hol, _, nl, hdl⟩ := hl
  obtain ⟨ws, hw, hw2⟩ := hP
  unfold pyNext
  refine wpAny_bind (wpAny_attempt (wpAny_callSpecial?_slot (name := Str.ofString "__next__") hit.typeIs slot_listiter_next
    (wpAny_call_entry slot_listiter_next hit.typeIs entry_listiter_next ?_ (args_listiter_next _))))
  show wpAny _ _ (field (.ref I) 0 >>= _) _ _ s
  refine wpAny_bind (wpAny_field ho hd (x := .ref l) rfl ?_)
  show wpAny _ _ (if (Value.ref l == Value.none) = true then _ else _) _ _ s
  rw [if_neg (show ¬ ((Value.ref l == Value.none) = true) from Bool.false_ne_true)]
  show wpAny _ _ (field (.ref I) 1 >>= _) _ _ s
  refine wpAny_bind (wpAny_field ho hd (x := .int i 0) rfl ?_)
  show wpAny _ _ (seqItems? (.ref l) >>= _) _ _ s
  refine wpAny_bind (wpAny_seqItems hol hdl ?_)
  simp only [Int.toNat_natCast, hx]
  refine wpAny_bind (wpAny_rule (wpAny_bind (wpAny_setField ho hd (by simp) ?_)))
  show wpAny _ _ (newExc (.type "StopIteration") [] >>= _) _ _ _
  refine wpAny_bind ?_
  simp only [newExc, newTuple]
  refine wpAny_bind (wpAny_newObj_type ?_ (by size_fits))
  refine wpAny_bind (m := firstArgMember _ _) (wpAny_of_eq (a := Value.none) (by first | rfl | (simp only [firstArgMember]; rfl)) ?_)
  refine wpAny_newObj_type ?_ (by size_fits)
  simp only [raiseNew]
  refine wpAny_bind (wpAny_handled ?_)
  rw [show A.in1.handled = some (.ref e) from hh]
  have k1 : ∀ b o', b ≠ I → s.heap.get? b = some o' → (((s.heap.update I (Obj.mapFields (·.setIfInBounds 0 Value.none))).push { cls := .type "tuple", data := .seq ([] : List Value).toArray })).get? b = some o' := fun b o' hb e' => ((Heap.SameBut.update s.heap I _).extBut.push _) b o' hb e'
  generalize hH : ((s.heap.update I (Obj.mapFields (·.setIfInBounds 0 Value.none))).push { cls := .type "tuple", data := .seq ([] : List Value).toArray }) = H at k1 ⊢
  have heH := k1 e o heI he
  have hne : e ≠ H.objs.size := fun q => by have := Heap.lt_size heH; rw [q] at this; exact Nat.lt_irrefl _ this
  dsimp only
  rw [if_pos (show ((Value.ref e) != (Value.ref H.objs.size)) = true by simpa using hne)]
  obtain ⟨oX, hoX⟩ : ∃ oX : Obj, oX = { cls := .type "StopIteration", data := .fields (#[Value.ref (s.heap.update I (Obj.mapFields (·.setIfInBounds 0 Value.none))).objs.size, .none, .none, .none, .bool false, .none] ++ ownMembersOf (.type "StopIteration") []) } := ⟨_, rfl⟩
  rw [← hoX]
  have hdX : oX.data = .fields (#[Value.ref (s.heap.update I (Obj.mapFields (·.setIfInBounds 0 Value.none))).objs.size, .none, .none, .none, .bool false, .none] ++ ownMembersOf (.type "StopIteration") []) := by rw [hoX]
  have hcX : oX.cls = .type "StopIteration" := by rw [hoX]
  have hfX : oX.isFreed = false := by rw [hoX]; rfl
  have hX := Heap.get?_push_size H (o := oX) hfX
  have heX := Heap.get?_push_of_some oX heH
  refine wpAny_bind (wpAny_holding (wpAny_runValue (codeAny_builtin entry_unchain ?_)))
  unfold Builtin.«proto.unchain»
  refine wpAny_bind (wpAny_field heX hw hw2 ?_)
  rw [if_pos (show (Value.none == Value.none) = true from rfl)]
  refine wpAny_bind (wpAny_pure ?_)
  refine wpAny_pure ?_
  show wpAny _ _ (setField (.ref H.objs.size) 2 (.ref e) >>= _) _ _ _
  refine wpAny_bind (wpAny_setField hX hdX (by rw [Array.size_append]; exact Nat.lt_of_lt_of_le (show 2 < 6 by decide) (Nat.le_add_right _ _)) ?_)
  refine wpAny_throw ?_
  have hX' := Heap.get?_update_self (Obj.mapFields (·.setIfInBounds 2 (Value.ref e))) hX (Obj.isFreed_of_fields (Obj.data_mapFields hdX _))
  refine wpAny_bind (wpAny_isInstance (T := "StopIteration") (b := true) ⟨_, hX', (Obj.cls_mapFields ..).trans hcX⟩ isSubtype_stop ?_)
  refine wpAny_pure (hQ _ _ fun b o' hb e' => ?_)
  have e2 := k1 b o' hb e'
  have hb2 : H.objs.size ≠ b := fun q => by have := Heap.lt_size e2; rw [q] at this; exact Nat.lt_irrefl _ this
  exact (Heap.get?_update_other _ _ hb2).trans (Heap.get?_push_of_some _ e2)
theorem walks_listH (hh : A.handled = some (.ref e)) (hI : ax ≠ I) (heI : e ≠ I) (items : Array Value) :
    Walks pw w A I [I, ax, e] [I] items.size (fun i v => items[i]? = some v) (fun i h => h.IsListIter I ax i ∧ h.IsList ax items ∧ ∃ o, h.get? e = some o ∧ HdlP o) where
  sub := fun b hb => by rw [List.mem_singleton.mp hb]; exact List.mem_cons_self
  frame := fun _ _ _ st hk => ⟨st.1.at fun o q => hk I (by simp) o q, st.2.1.at fun o q => hk ax (by simp) o q, let ⟨o, q, hP⟩ := st.2.2; ⟨o, hk e (by simp) o q, hP⟩⟩
  item := fun i s Q E hi st hQ => by
    refine wpAny_pyNext_list_item st.1 st.2.1 (x := items[i]) (by simp [hi]) fun h' hit' hs' => ?_
    obtain ⟨o, q, hP⟩ := st.2.2
    exact hQ _ h' s.toks (by simp [hi]) ⟨hit', st.2.1.extBut hs'.extBut hI, o, hs'.extBut e o heI q, hP⟩ fun b o hb q => hs'.extBut b o (fun h => hb (by simp [h])) q
  done := fun s Q E st hQ => by
    obtain ⟨o, q, hP⟩ := st.2.2
    exact pyNext_endH hh q hP heI st.1 st.2.1 (by simp) fun h' tk he' => hQ h' tk fun b o hb q => he' b o (fun h => hb (by simp [h])) q
  self := fun _ _ _ _ st hQ => wpAny_pyIter_listiter st.1 hQ
theorem compLH {elt iter : Expr} {ifs : List Expr} {ax : Addr} {items : List Value} {RR : Value → Addr → Result → Shared → Prop}
    (S : Sx w mean mg mb g₀ Hs env ow m mu s.heap) (hl : (hideAll s.heap Hs).IsList ax items.toArray) (hh : A.handled = some (.ref e)) (he : (hideAll s.heap Hs).get? e = some o) (hP : HdlP o)
    (hmf : ∀ p ∈ mf, scope.names.lookup p.1 = some .free ∧ m.lookup p.1 = some p.2) (hok : compOk env scope = true) (hnd : (scope.names.map (·.1)).Nodup) (hkind : scope.kind = .function)
    (hx : scope.names.lookup x = some .local ∨ scope.names.lookup x = some .cell) (hxm : ∀ p ∈ mf, p.1 ≠ x) (hsz : items.length ≤ sizeLine)
    (J : Nat → List Value → Heap → Prop) (hJ : ∀ i ys g g', Keeps g g' → J i ys g → J i ys g') (j0 : J 0 [] (hideAll s.heap Hs))
    (step : StepN w mean mg mb A env scope elt ifs x mf Hs items.length (fun i v => items[i]? = some v) J s) (hRR : RRok Hs (J items.length) s RR) :
    wpAny (model pw w) A (pyIter (.ref ax)) (fun it s₂ => Tail w A E env scope elt (.Name x px) iter ifs pos RR it s₂) E s := by
  have hls : s.heap.IsList ax items.toArray := hl.at fun o e => vis_self _ _ e
  refine wpAny_pyIter_list hls ?_
  have hI : s.heap.get? s.heap.objs.size = none := none_ge (Nat.le_refl _)
  obtain ⟨S', kk⟩ := S.newM (o := { cls := .type "list_iterator", data := .fields #[.ref ax, .int 0 0] }) (P := fun _ => True) rfl trivial
  have hlt : ax < s.heap.objs.size := let ⟨o, e, _⟩ := hls; Heap.lt_size e
  have helt : e < s.heap.objs.size := Heap.lt_size (vis_self _ _ he)
  have hl' := hl.at fun o e => kk _ _ e
  have W := walks_listH (w := w) hh (I := s.heap.objs.size) (Nat.ne_of_lt hlt) (Nat.ne_of_lt helt) items.toArray
  rw [show items.toArray.size = items.length by simp] at W
  have kp : Keeps s.heap (s.heap.push { cls := .type "list_iterator", data := .fields #[.ref ax, .int 0 0] }) := fun b o e => Heap.get?_push_of_some _ e
  refine comp_all (s := { s with heap := _ }) (s₀ := s.heap) S' hI kp (out_of_new S hI) hmf hok hnd hkind hx hxm W (fun b hb => ?_) (fun i h st => let ⟨o, e, _⟩ := st.1; ⟨o, e⟩) ⟨⟨_, Heap.get?_push_size _ rfl, rfl, rfl⟩, hl'.at fun o e => vis_self _ _ e, o, kp _ _ (vis_self _ _ he), hP⟩ hsz J hJ (hJ _ _ _ _ kk j0)
    (fun i v ys h₁ tk C cenv Hc owc g₁ mu hi hv hc k1 hj hle S1 => step i v ys h₁ tk C cenv Hc owc g₁ mu hi (by simpa using hv) hc (kk.trans k1) hj hle S1)
    (fun D C h' tk ys mC hD hC hDC hns k1 hl hj => hRR D C h' tk ys mC ?_ ?_ hDC hns k1 hl hj)
  · rcases List.mem_cons.mp hb with rfl | hb
    · exact .inl rfl
    · rcases List.mem_cons.mp hb with rfl | hb
      · exact .inr (let ⟨o, e, _⟩ := hl'; ⟨o, e⟩)
      · rw [List.mem_singleton.mp hb]; exact .inr ⟨o, kk _ _ he⟩
  · cases q : s.heap.get? D with
    | none => rfl
    | some o => have := kp _ _ q; rw [hD] at this; cases this
  · cases q : s.heap.get? C with
    | none => rfl
    | some o => have := kp _ _ q; rw [hC] at this; cases this
/-- a comprehension whose target is a pair -/
theorem compLT {elt iter : Expr} {ax : Addr} {items : List Value} {RR : Value → Addr → Result → Shared → Prop} {k : Nat} {tp : Pos}
    (J : Nat → List Value → Heap → Prop) (hJ : ∀ i ys g g', Keeps g g' → J i ys g → J i ys g')
    (S : Sx w mean mg mb g₀ Hs env ow m mu hp) (hl : (hideAll hp Hs).IsList ax items.toArray) (hh : A.handled = none)
    (hok : compOk env scope = true) (hnd : (scope.names.map (·.1)).Nodup) (hkind : scope.kind = .function)
    (hx : scope.names.lookup x = some .local) (hy : scope.names.lookup y = some .local) (hsz : items.length ≤ sizeLine) (j0 : J 0 [] (hideAll hp Hs))
    (hit : ∀ (i : Nat) v, items[i]? = some v → ∃ T a b, v = Value.ref T ∧ IsTup (hideAll hp Hs) T [a, b].toArray)
    (step : ∀ i T va vb ys h₁ tk C cenv Hc, items[i]? = some (Value.ref T) → IsTup (hideAll h₁ Hc) T [va, vb].toArray → IsEnv cenv (CE scope (closL env scope.names []) C env) → Keeps (hideAll hp Hs) (hideAll h₁ Hc) → J i ys (hideAll h₁ Hc) → ys.length ≤ i →
      Sx w mean mg mb h₁ Hc cenv [] [(y, vb), (x, va)] [] h₁ →
      wpAny (model pw w) A (eval elt cenv) (fun v s₃ => ElP h₁ Hc (J (i + 1)) ⟨h₁, gn, dr, tk, os⟩ (ys ++ [v]) s₃) (fun _ _ => False) ⟨h₁, gn, dr, tk, os⟩)
    (hRR : RRok Hs (J items.length) ⟨hp, gn, dr, t, os⟩ RR) :
    wpAny (model pw w) A (pyIter (.ref ax)) (fun it s₂ => Tail w A E env scope elt (.Tuple [.Name x px, .Name y py] k tp) iter [] pos RR it s₂) E ⟨hp, gn, dr, t, os⟩ := by
  have hls : hp.IsList ax items.toArray := hl.at fun o e => vis_self _ _ e
  refine wpAny_pyIter_list hls ?_
  have hI : hp.get? hp.objs.size = none := none_ge (Nat.le_refl _)
  obtain ⟨S', kk⟩ := S.newM (o := { cls := .type "list_iterator", data := .fields #[.ref ax, .int 0 0] }) (P := fun _ => True) rfl trivial
  have hlt : ax < hp.objs.size := let ⟨o, e, _⟩ := hls; Heap.lt_size e
  have hl' := hl.at fun o e => kk _ _ e
  have W := Walks.list (prog := pw) (w := w) hh hp.objs.size ax (Nat.ne_of_lt hlt) items.toArray
  rw [show items.toArray.size = items.length by simp] at W
  have kp : Keeps hp (hp.push { cls := .type "list_iterator", data := .fields #[.ref ax, .int 0 0] }) := fun b o e => Heap.get?_push_of_some _ e
  refine comp_core (s := { heap := _, gens := gn, drawn := dr, toks := t, os := os }) (mf := []) S'.cx S'.vars (fun p hp => by cases hp) hok hnd (out_of_new S hI) W (fun b hb => ?_) (fun i h st => let ⟨o, e, _⟩ := st.1; ⟨o, e⟩) ⟨⟨_, Heap.get?_push_size _ rfl, rfl, rfl⟩, hl'.at fun o e => vis_self _ _ e⟩ hsz J hJ (hJ _ _ _ _ kk j0)
    (fun i v s' Q E hv st hq => ?_) (fun i v ys h₁ tk C cenv Hc owc g₁ oI D oD hi hv hcenv how k1 hj hle S1 => ?_)
    (fun D C h' tk ys mC hD hC hDC hns k1 hl hj => hRR D C h' tk ys mC ?_ ?_ hDC hns (fun b o e => k1 b o (hideAll_get _ (kp _ _ e) fun hm => by rw [List.mem_singleton.mp hm, hI] at e; cases e)) hl hj)
  · rcases List.mem_cons.mp hb with rfl | hb
    · exact .inl rfl
    · rw [List.mem_singleton.mp hb]; exact .inr (let ⟨o, e, _⟩ := hl'; ⟨o, e⟩)
  · obtain ⟨T, va, vb, rfl, _⟩ := hit i v (by simpa using hv)
    obtain ⟨⟨o, ho, hc, hd⟩, _⟩ := st
    show wpAny _ _ (load _ >>= _) _ _ _
    refine wpAny_bind (wpAny_load ho ?_)
    rw [hc, hd]
    dsimp only
    rw [show (["enumerate", "zip", "dict_itemiterator", "dict_reverseitemiterator", "odict_iterator", "itertools.zip_longest", "itertools.pairwise"].contains "list_iterator") = false by decide, Bool.false_and]
    exact wpAny_pure hq
  · have hv' : items[i]? = some v := by simpa using hv
    obtain ⟨T, va, vb, rfl, hT⟩ := hit i v hv'
    have hT1 := hT.keeps (kk.trans k1)
    have hk : cenv.scope.kind = .function := by rw [hcenv.eq]; exact hkind
    obtain ⟨D1, hw1, hD1⟩ := where_tgt (env := env) (C := C) (.inl hx)
    obtain ⟨D2, hw2, hD2⟩ := where_tgt (env := env) (C := C) (.inl hy)
    refine asgTup (s := ⟨h₁, gn, dr, tk, os⟩) S1 hh hT1 rfl rfl fun h₂ S2 k2 => ?_
    refine assignInOrder_cons (wpAny_assign_Name (stW S2 (D := D1) (by rw [hcenv.eq]; exact hw1) (how ▸ hD1) (fun h₃ tk₃ S3 k3 => ?_) hk))
    refine assignInOrder_cons (wpAny_assign_Name (stW (s := ⟨h₃, gn, dr, tk₃, os⟩) S3 (D := D2) (by rw [hcenv.eq]; exact hw2) (how ▸ hD2) (fun h₄ tk₄ S4 k4 => ?_) hk))
    refine assignInOrder_nil ?_
    rw [List.forIn_nil]
    refine wpAny_pure ?_
    rw [if_pos rfl]
    have kA := (k2.trans k3).trans k4
    refine wpAny_mono (step i T va vb ys h₄ tk₄ C cenv Hc hv' (hT1.keeps kA) hcenv (kk.trans (k1.trans kA)) (hJ _ _ _ _ kA hj) hle S4.frozen) (fun v' s₅ h₅ => ?_) fun _ _ e => e
    obtain ⟨h₅', tk₅, rfl, k5, hj5⟩ := h₅
    exact ⟨h₅', tk₅, rfl, (S4.keeps k5).lessF (m' := []) (fun y u hu => by simp at hu), hj5⟩
  · cases q : hp.get? D with
    | none => rfl
    | some o => have := kp _ _ q; rw [hD] at this; cases this
  · cases q : hp.get? C with
    | none => rfl
    | some o => have := kp _ _ q; rw [hC] at this; cases this
end
end Mine
end
section
open PySem PySem.W PyProof.Rows PySem.Calls
set_option Elab.async false
set_option maxRecDepth 100000
set_option linter.unusedVariables false
namespace Mine
section
variable {w : World} {mean : ExcName → Option Value} {mg mb : Str → Option Value} {A : Around} {E : Value → Shared → Prop} {g₀ hp h : Heap} {Hs Hc : List Addr} {env cenv : Env} {ow owc : List Addr} {m mf : List (Str × Value)} {mu : Mu}
  {px py pos : Pos} {v : Value} {D I l ax e : Addr} {vs us : List Value} {gn : Array GenState} {dr : Drawn} {t : Nat} {os : OsState} {a b : Int} {ta tb tc : Tok} {k0 : Nat} {s : Shared} {scope : Scope} {value slice : Expr} {i n : Nat} {P : Obj → Prop} {o : Obj} {x y : Str} {Q : Value → Shared → Prop}
theorem fNeg (h : ∀ u k, Q (.int (-a) u) ⟨hp, gn, dr, k, os⟩) : wpAny (model pw w) A (unaryOp .USub (.int a ta)) Q E ⟨hp, gn, dr, t, os⟩ := PyProof.Rows.neg_int (h _ _)
theorem fPow (hn : 0 ≤ b) (hn2 : b ≤ 1000) (ha : a.natAbs < 2 ^ 64) (h : ∀ u k, Q (.int (a ^ b.toNat) u) ⟨hp, gn, dr, k, os⟩) : wpAny (model pw w) A (binaryOp .Pow (.int a ta) (.int b tb)) Q E ⟨hp, gn, dr, t, os⟩ := pow_int_small hn (by omega) ha (h _ _)
theorem fItemLast (hl : hp.IsList l (vs ++ [v]).toArray) (hsz : vs.length ≤ sizeLine) (h : Q v ⟨hp, gn, dr, t, os⟩)
    (hs : subscripted slice false (.ref l) (.int (-1) tb) = operate [.ref l, .int (-1) tb] (getItem (.ref l) (.int (-1) tb))) (ht : ∀ r, letTemporaryGo value (.ref l) r = pure ()) :
    wpAny (model pw w) A (subscriptTail value slice (.ref l) (.int (-1) tb)) Q E ⟨hp, gn, dr, t, os⟩ := by
  refine subscriptTail_builtin (Heap.IsList.typeIs (s := ⟨hp, gn, dr, t, os⟩) hl) slot_list_getitem.lookup (wpAny_getItem_list_neg (s := ⟨hp, gn, dr, t, os⟩) hl (by decide) (by simp; omega) (by decide) ?_ h) hs ht
  have e : ((-1 : Int) + ((vs ++ [v]).toArray.size : Int)).toNat = vs.length := by simp; omega
  rw [e]; simp
theorem setLast_ {w' : Value} {Q : Unit → Shared → Prop} (hl : hp.PlainList l (vs ++ [v]).toArray)
    (hQ : ∀ h', h'.PlainList l (vs ++ [w']).toArray → Heap.SameBut l hp h' → Q () ⟨h', gn, dr, t, os⟩) : wpAny (model pw w) A (setItem (.ref l) (.int (-1) tb) w') Q E ⟨hp, gn, dr, t, os⟩ := by
  obtain ⟨n, ho⟩ := hl
  have hT : (⟨hp, gn, dr, t, os⟩ : Shared).TypeIs (.ref l) "list" := ⟨_, ho, rfl⟩
  unfold setItem
  try with_reducible refine wpAny_holding ?_
  first | refine wpAny_bind (wpAny_pure ?_) | skip
  refine wpAny_bind (wpAny_sequenceKey hT (by decide) ?_)
  refine wpAny_bind (wpAny_callSpecial?_slot (name := Str.ofString "__setitem__") hT slot_list_setitem
    (wpAny_call_entry slot_list_setitem hT entry_list_setitem ?_ (args_list_setitem _ _ _)))
  show wpAny _ _ (Builtin.List.listSubscript? (.int (-1) tb) >>= _) _ _ _
  refine wpAny_bind (wpAny_listSubscript_int (fitsIndex_neg (by decide) (by decide)) ?_)
  have hidx : seqIndex? (Int.negSucc 0) (vs ++ [v]).toArray.size = some vs.length := by
    have := seqIndex_neg (k := -1) (n := (vs ++ [v]).toArray.size) (by decide) (by simp; omega)
    rw [show (Int.negSucc 0) = -1 from rfl, this]
    congr 1; simp; omega
  show wpAny _ _ ((Builtin.List.listItems (.ref l) >>= fun xs => pure ((seqIndex? (Int.negSucc 0) xs.size).bind fun i => xs[i]?.map (i, ·))) >>= _) _ _ _
  refine wpAny_bind (wpAny_bind ?_)
  show wpAny _ _ (seqItems? (.ref l) >>= _) _ _ _
  refine wpAny_bind (wpAny_seqItems ho rfl (wpAny_pure (wpAny_pure ?_)))
  rw [hidx]
  have hx : (vs ++ [v]).toArray[vs.length]? = some v := by simp
  simp only [Option.bind_some, hx, Option.map_some]
  show wpAny _ _ (setSeqItemAt l vs.length w' >>= _) _ _ _
  have hset : (vs ++ [v]).toArray.setIfInBounds vs.length w' = (vs ++ [w']).toArray := by
    rw [List.setIfInBounds_toArray, List.set_append_right _ _ (Nat.le_refl _), Nat.sub_self]; rfl
  have hobj : ∃ n', Obj.mapSeq (·.setIfInBounds vs.length w') { cls := .type "list", dict := none, data := .seq (vs ++ [v]).toArray n, slots := #[] } = { cls := .type "list", dict := none, data := .seq (vs ++ [w']).toArray n', slots := #[] } := by
    unfold Obj.mapSeq; dsimp only; rw [hset]; exact ⟨_, rfl⟩
  obtain ⟨n', hobj⟩ := hobj
  have hfin : (hp.update l (Obj.mapSeq (·.setIfInBounds vs.length w'))).PlainList l (vs ++ [w']).toArray := ⟨n', by rw [Heap.get?_update_self _ ho (by rw [hobj]; rfl), hobj]⟩
  refine wpAny_bind (wpAny_setSeqItemAt ho rfl ?_)
  first
    | exact wpAny_bind (wpAny_pure (wpAny_pure ⟨.none, rfl, wpAny_pure (hQ _ hfin (Heap.SameBut.update ..))⟩))
    | exact wpAny_pure ⟨.none, rfl, wpAny_pure (hQ _ hfin (Heap.SameBut.update ..))⟩
theorem fSetLast {w' : Value} {Q : Unit → Shared → Prop} (S : Sx w mean mg mb g₀ Hs env (ownOf env) m ((D, listP (vs ++ [v])) :: mu) hp)
    (h : ∀ h', Sx w mean mg mb g₀ Hs env (ownOf env) m ((D, listP (vs ++ [w'])) :: mu) h' → Keeps (hideAll hp Hs) (hideAll h' Hs) → Q () ⟨h', gn, dr, t, os⟩) : wpAny (model pw w) A (setItem (.ref D) (.int (-1) tb) w') Q E ⟨hp, gn, dr, t, os⟩ := by
  refine setLast_ (ownL S) fun h' hl hs => ?_
  obtain ⟨n, hl⟩ := hl
  obtain ⟨S', k⟩ := S.ext (P' := listP (vs ++ [w'])) (fun b o hb e => hs.extBut b o hb e) hl ⟨n, rfl⟩
  exact h h' S' k
theorem fExtM {b : Addr} (S : Sx w mean mg mb g₀ Hs env (ownOf env) m ((D, listP vs) :: mu) hp) (hb : hp.PlainList b us.toArray) (hsz : vs.length + us.length ≤ sizeLine)
    (h : ∀ h', Sx w mean mg mb g₀ Hs env (ownOf env) m ((D, listP (vs ++ us)) :: mu) h' → Keeps (hideAll hp Hs) (hideAll h' Hs) → Q .none ⟨h', gn, dr, t, os⟩) : wpAny (model pw w) A (call (.builtin "list.extend") [.ref D, .ref b]) Q E ⟨hp, gn, dr, t, os⟩ :=
  extM (s := ⟨hp, gn, dr, t, os⟩) S hb hsz h
theorem entry_iter : entryFor table "iter" = some Builtin.«iter» := entryFor_of_fast (by kernel_rfl)
theorem args_iter (a : Value) : argsOk "iter" ⟨[a], []⟩ := by unfold argsOk; kernel_rfl
theorem fIter (S : Sx w mean mg mb g₀ Hs env ow m mu hp) (hl : hp.IsList l vs.toArray)
    (h : ∀ I h', Sx w mean mg mb g₀ (I :: Hs) env ow m ((I, iterP l 0) :: mu) h' → Keeps (hideAll hp Hs) (hideAll h' (I :: Hs)) → Q (.ref I) ⟨h', gn, dr, t, os⟩) : wpAny (model pw w) A (call (.builtin "iter") [.ref l]) Q E ⟨hp, gn, dr, t, os⟩ := by
  refine call_function_entry (by decide +kernel) (by decide +kernel) entry_iter (args_iter _) ?_
  unfold Builtin.«iter»
  refine wpAny_bind (m := someArgs "iter" 1 2 _) (wpAny_of_eq (a := [Value.ref l]) (by first | rfl | kernel_rfl!) ?_)
  show wpAny _ _ (pyIter (.ref l) >>= _) _ _ _
  obtain ⟨S', k⟩ := S.newM (o := { cls := .type "list_iterator", data := .fields #[.ref l, .int 0 0] }) (P := iterP l 0) rfl ⟨rfl, rfl⟩
  exact wpAny_bind (wpAny_pyIter_list (s := ⟨hp, gn, dr, t, os⟩) hl (wpAny_pure ⟨_, rfl, h _ _ S' k⟩))
/-- slices of a list -/
noncomputable def SlL (Q : Value → Shared → Prop) (o vl vu : Value) (s₃ : Shared) : Prop :=
  ∃ l vs lo hi, o = .ref l ∧ s₃.heap.IsList l (vs : List Value).toArray ∧ vs.length ≤ sizeLine ∧ IsPart vl lo ∧ IsPart vu hi ∧ ∀ s4, (∃ h', s4 = { s₃ with heap := h' } ∧ Keeps s₃.heap h' ∧ s₃.heap.get? h'.objs.size.pred = none ∧ h'.PlainList h'.objs.size.pred (slicePick vs.toArray lo hi none)) → Q (.ref s4.heap.objs.size.pred) s4
theorem fSlL {lower upper : Option Expr} {p : Pos}
    (h : wpAny (model pw w) A (eval value env) (fun o s₁ => wpAny (model pw w) A (evalPart lower env) (fun vl s₂ => wpAny (model pw w) A (evalPart upper env) (fun vu s₃ => SlL Q o vl vu s₃) E s₂) E s₁) E s)
    (ht : ∀ o r, letTemporaryGo value o r = pure ()) : wpAny (model pw w) A (eval (.Subscript value (.Slice lower upper none p) pos) env) Q E s := by
  refine wpAny_Subscript_list_slice (wpAny_mono h (fun o s₁ h₁ => wpAny_mono h₁ (fun vl s₂ h₂ => wpAny_mono h₂ (fun vu s₃ h₃ => ?_) fun _ _ e => e) fun _ _ e => e) fun _ _ e => e) ht
  obtain ⟨l, vs, lo, hi, rfl, hl, hsz, pl, pu, hq⟩ := h₃
  refine ⟨l, vs.toArray, lo, hi, rfl, hl, by simpa using hsz, pl, pu, ?_⟩
  have k2 : Keeps s₃.heap ((s₃.heap.push { cls := .type "slice", data := .fields #[vl, vu, .none] }).push { cls := .type "list", data := .seq (slicePick vs.toArray lo hi none) }) := fun b o e => Heap.get?_push_of_some _ (Heap.get?_push_of_some _ e)
  have e2 := Heap.get?_push_size (s₃.heap.push { cls := .type "slice", data := .fields #[vl, vu, .none] }) (o := { cls := .type "list", data := .seq (slicePick vs.toArray lo hi none) }) rfl
  have hz : ((s₃.heap.push { cls := .type "slice", data := .fields #[vl, vu, .none] }).push { cls := .type "list", data := .seq (slicePick vs.toArray lo hi none) }).objs.size.pred = s₃.heap.objs.size + 1 := by rw [Heap.size_push, Heap.size_push]; rfl
  rw [Heap.size_push] at e2
  have := hq _ ⟨_, rfl, k2, by rw [hz]; exact none_ge (Nat.le_succ _), _, by rw [hz]; exact e2⟩
  dsimp only at this
  rw [hz] at this
  exact this
theorem SlL.intro {lo hi : Option Int} {vl vu : Value} (S : Sx w mean mg mb g₀ Hs env ow m mu hp) (hl : hp.IsList l vs.toArray) (hsz : vs.length ≤ sizeLine) (pl : IsPart vl lo) (pu : IsPart vu hi)
    (h : ∀ D h', Sx w mean mg mb g₀ Hs env ow m mu h' → Keeps (hideAll hp Hs) (hideAll h' Hs) → (hideAll h' Hs).PlainList D (slicePick vs.toArray lo hi none) → Q (.ref D) ⟨h', gn, dr, t, os⟩) : SlL Q (.ref l) vl vu ⟨hp, gn, dr, t, os⟩ := by
  refine ⟨l, vs, lo, hi, rfl, hl, hsz, pl, pu, ?_⟩
  rintro s4 ⟨h', rfl, k, hn, hP⟩
  exact h _ h' (S.keeps k) (vis_keeps k) (hP.imp fun n e => hideAll_get _ e (S.fresh hn))
end
end Mine
end
section
open PySem PySem.W PyProof.Rows PySem.Calls
set_option Elab.async false
set_option maxRecDepth 100000
set_option linter.unusedVariables false
set_option maxHeartbeats 8000000
namespace Mine
set_option compiler.extract_closed false
local macro_rules | `(tactic| walk_at "w") => `(tactic| repeat' (first
  | ((with_reducible refine fInt ?_); intro _ _)
  | ((with_reducible refine fStr ?_); intro _ _)
  | (with_reducible refine PySem.wpAny_Constant_none ?_)
  | (with_reducible refine isnot_none_gen ?_)
  | (with_reducible refine wpAny_BinOp ?_)
  | ((with_reducible refine' wpAny_Compare1 ?_ ?m); (case m => with_unfolding_all rfl))
  | (with_reducible refine args_nil ?_)
  | ((with_reducible refine' args_cons ?_ ?e); (case e => rfl))
  | (with_reducible refine' Call_Name rfl ?_)
  | ((with_reducible refine' MethodCall_ ?_ ?e); (case e => rfl))
  | (with_reducible refine cwB0 ?_)
  | ((with_reducible refine' cwB ?_ ?a ?b); (case a => rfl); (case b => rfl))
  | ((with_reducible refine' cwT ?_ ?a ?b); (case a => rfl); (case b => rfl))
  | ((with_reducible refine fAdd ?_); intro _ _)
  | ((with_reducible refine fSub ?_); intro _ _)
  | (with_reducible refine lt_int ?_)
  | (with_reducible refine le_int ?_)
  | (with_reducible refine eq_int ?_)
  | ((with_reducible refine' fMod ?b ?_); (case b => first | assumption | decide | omega); intro _ _)
  | ((with_reducible refine' fFloor ?b ?p ?_); (case b => first | assumption | decide | omega); (case p => first | assumption | exact PyProof.noPylong_small (by omega) | exact PyProof.noPylong_of_log2 (by decide +kernel)); intro _ _)
  | (with_reducible refine Tuple_ ?_)
  | (with_reducible refine List_ ?_)
  | ((fail_if_success (have : NoSl := by with_reducible assumption)); (with_reducible refine' fSl ?_ ?h); (case h => (intro _ _; rfl)))
  | ((fail_if_success (have : NoSl := by with_reducible assumption)); with_reducible refine Subscript_ ?_)
  | ((with_reducible refine' wpAny_Expr ?_ ?i ?w); (case i => (first | rfl | ((with_reducible rename IsEnv _ _ => hE); rw [hE.eq] <;> rfl))); (case w => (first | rfl | ((with_reducible rename IsEnv _ _ => hE); rw [hE.eq] <;> rfl))))
  | (with_reducible refine wpAny_truthy_bool ?_)
  | ((with_reducible refine' wpAny_isTrue_Compare1 ?_ ?m); (case m => with_unfolding_all rfl))
  | (with_reducible refine wpAny_If ?_)
  | (with_reducible refine wpAny_Return_some ?_)
  | (with_reducible refine wpAny_execs_cons ?_)
  | (with_reducible refine wpAny_execs_nil ?_)
  | ((with_reducible refine' wpAny_Assign_Name ?_ ?sw); (case sw => rfl))
  | ((with_reducible refine' fSt ?S ?_ ?k ?l); (case S => assumption); (case k => (first | rfl | ((with_reducible rename IsEnv _ _ => hE); rw [hE.eq] <;> rfl))); (case l => (first | rfl | ((with_reducible rename IsEnv _ _ => hE); rw [hE.eq] <;> rfl))); intro h tk S K)
  | ((with_reducible refine' ldV ?S ?v ?_ ?k ?l ?d ?c); (case S => assumption); (case v => rfl); (case k => (first | rfl | ((with_reducible rename IsEnv _ _ => hE); rw [hE.eq] <;> rfl))); (case l => (first | rfl | ((with_reducible rename IsEnv _ _ => hE); rw [hE.eq] <;> rfl))); (case d => rfl); (case c => rfl))
  | ((with_reducible refine' nmV ?S ?e ?_ ?k ?x ?g ?b); (case S => assumption); (case e => rfl); (case k => (first | rfl | ((with_reducible rename IsEnv _ _ => hE); rw [hE.eq] <;> rfl))); (case x => (first | rfl | ((with_reducible rename IsEnv _ _ => hE); rw [hE.eq] <;> rfl))); (case g => (first | rfl | ((with_reducible rename IsEnv _ _ => hE); rw [hE.eq] <;> rfl))); (case b => (first | rfl | ((with_reducible rename IsEnv _ _ => hE); rw [hE.eq] <;> rfl))))
  | (with_reducible refine is_bool ?_)
  | (with_reducible refine isnot_bool ?_)
  | ((with_reducible refine' cwK ?a ?b ?c); (case a => rfl); (case c => rfl))
  | ((with_reducible refine' kin_and ?S ?_); (case S => assumption))
  | ((with_reducible refine' wpAny_For ?_ ?hs); (case hs => (intro _; rfl)))
  | (with_reducible refine PySem.wpAny_Constant_bool ?_)
  | (with_reducible refine PySem.evalPart_some_step ?_)
  | (with_reducible refine PySem.evalPart_none_step ?_)
  | (with_reducible refine fLeS ?_)
  | (with_reducible refine fLtS ?_)
  | (with_reducible refine PySem.GM.index ?_)
  | (with_reducible refine PySem.GM.join ?_)
  | ((with_reducible refine fAnd ?_); intro _ _)
  | ((with_reducible refine fIOr ?_); intro _ _)
  | (with_reducible refine wpAny_AugAssign_Name ?_)
  | ((with_reducible refine' ldN ?S ?v ?_ ?k ?l ?c); (case S => assumption); (case v => rfl); (case k => (first | rfl | ((with_reducible rename IsEnv _ _ => hE); rw [hE.eq] <;> rfl))); (case l => (first | rfl | ((with_reducible rename IsEnv _ _ => hE); rw [hE.eq] <;> rfl))); (case c => rfl))
  | (with_reducible refine ge_int ?_)
  | (with_reducible refine PyProof.Rows.Attribute_name ?_)
  | ((with_reducible refine' PySem.plainObj_wpAny_Assign_Attribute ?_ ?hs); (case hs => rfl))
  | ((with_reducible refine' wpAny_Assign_three ?_ ?he ?hw); (case he => rfl); (case hw => rfl))
  | (with_reducible refine wpAny_assign_Name ?_)
  | (with_reducible refine wpAny_Break ?_)
  | (with_reducible refine fEqS ?_)
  | ((with_reducible refine' PySem.wpAny_Assign_Subscript ?_ ?hs); (case hs => rfl))
  | ((with_reducible refine' PyProof.Rows.Assign_Tuple ?_ ?hs ?hw); (case hs => rfl); (case hw => rfl))
  | (with_reducible refine PySem.wpAny_IfExp ?_)
  | (with_reducible refine PyProof.Rows.ne_int ?_)
  | (with_reducible refine fNeS ?_)
  | (with_reducible refine PySem.wpAny_UnaryOp ?_)
  | ((with_reducible refine fNeg ?_); intro _ _)))
section
variable {w : World} {mean : ExcName → Option Value} {mg mb : Str → Option Value} {A : Around} {E : Value → Shared → Prop} {s : Shared} {Hs : List Addr}
theorem in_b1 {g₀ : Heap} {env : Env} {ow : List Addr} {m : List (Str × Value)} {mu : Mu} {k : Int} {t : Tok} {Q : Value → Shared → Prop} (S : Sx w mean mg mb g₀ Hs env ow m mu s.heap) (h : Q (.bool (b1L.contains k)) { s with toks := s.toks + 1 }) :
    wpAny (model pw w) A (compareOp .In (.int k t) (.ref 102)) Q E s := by
  have ho : (K w.params).lookup 102 = some (q6_102 w.params) := rfl
  exact wpAny_inSet_of (knd := intKind pw w) (isInt_self k t) rfl ((b1_set_ w.params).setOf (vis_self _ _ (S.cx.gd.X _ _ ho)) (by decide)) h
theorem inB1_ {c : Nat} {t : Tok} {Q : Value → Shared → Prop} (hroom : A.depth < recursionLimit) (C : Cx w mean mg mb Hs s.heap)
    (h : ∀ h' tk', Keeps s.heap h' → Q (.bool (b1L.contains (c : Int))) { s with heap := h', toks := tk' }) : wpAny (model pw w) A (call (.ref 112) [.str ⟨#[c]⟩ t]) Q E s := by
  refine' codeS (f := 112) (binds := [(Str.ofString "code", .str ⟨#[c]⟩ t)]) C hroom ?ho ?hcd ?hb ?hl ?hc ?c1 ?c2 ?c3 ?h
  case ho => rfl
  case hcd => kernel_rfl
  case hb => exact BindsTo.of_eq rfl
  case hl => exact locs rfl
  case hc => decide +kernel
  case c1 => rfl
  case c2 => rfl
  case c3 => rfl
  intro L h₁ tk env hE
  obtain ⟨bd, hbd⟩ : ∃ x, x = fbody (st 7) := ⟨_, rfl⟩
  obtain ⟨sc, hsc⟩ : ∃ x, x = fscope (st 7) := ⟨_, rfl⟩
  rw [← hsc] at hE
  rw [← hbd]
  conv at hbd => rhs; whnf
  conv at hsc => rhs; whnf
  subst hbd hsc
  intro S k0 A' hA'
  walk_at "w"
  refine fOrd ?_; intro _ _
  walk_at "w"
  refine in_b1 S ?_
  exact h _ _ S.back.1
end
noncomputable def b3es : Array DictEntry := (ents 376 (D8.take 17 ++ cs8.flatten) ++ ents2 2314 (D8.drop 646)).toArray
noncomputable def b3F (k : Int) : Option Value := findBy Value.isInt b3es k
theorem hashInt_nat {k : Int} (h0 : 0 ≤ k) (h1 : k < 2 ^ 60) : hashInt k = k := by
  have h2 : rawHash k = k := by
    show (if ((if k < 0 then -((k.natAbs % (2 ^ 61 - 1 : Nat) : Nat) : Int) else ((k.natAbs % (2 ^ 61 - 1 : Nat) : Nat) : Int)) == -1) = true then (-2 : Int) else (if k < 0 then -((k.natAbs % (2 ^ 61 - 1 : Nat) : Nat) : Int) else ((k.natAbs % (2 ^ 61 - 1 : Nat) : Nat) : Int))) = k
    have hk : ((k.natAbs % (2 ^ 61 - 1 : Nat) : Nat) : Int) = k := by
      rw [Nat.mod_eq_of_lt (by omega)]; omega
    rw [if_neg (show ¬ k < 0 by omega), hk]
    rw [if_neg (by simp only [beq_iff_eq]; omega)]
  unfold hashInt
  rw [h2, if_neg]
  simp only [beq_iff_eq]; omega
theorem ents_mem {l : List (Int × Str)} {t : Nat} {e : DictEntry} (h : e ∈ ents t l) : ∃ x t', x ∈ l ∧ e.hash = x.1 ∧ e.key = .int x.1 t' := by
  induction l generalizing t with
  | nil => cases h
  | cons x r ih =>
    rw [ents] at h
    rcases List.mem_cons.mp h with rfl | h
    · exact ⟨x, _, List.mem_cons_self, rfl, rfl⟩
    · obtain ⟨y, t', hy, q⟩ := ih h; exact ⟨y, t', List.mem_cons_of_mem _ hy, q⟩
theorem ents2_mem {l : List (Int × Str)} {t : Nat} {e : DictEntry} (h : e ∈ ents2 t l) : ∃ x t', x ∈ l ∧ e.hash = x.1 ∧ e.key = .int x.1 t' := by
  induction l generalizing t with
  | nil => cases h
  | cons x r ih =>
    rw [ents2] at h
    rcases List.mem_cons.mp h with rfl | h
    · exact ⟨x, _, List.mem_cons_self, rfl, rfl⟩
    · obtain ⟨y, t', hy, q⟩ := ih h; exact ⟨y, t', List.mem_cons_of_mem _ hy, q⟩
section
variable {w : World} {mean : ExcName → Option Value} {mg mb : Str → Option Value} {A : Around} {E : Value → Shared → Prop} {s : Shared} {Hs : List Addr}
theorem b3_map {h : Heap} (X : (K w.params).In h) : h.MapOf (intKind pw w) 113 b3F := by
  have ho : (K w.params).lookup 113 = some q8_113 := rfl
  refine ⟨q8_113, b3es, _, X _ _ ho, ⟨rfl, rfl, rfl⟩, rfl, fun e he => ?_, fun _ => rfl⟩
  have hr : ∀ x ∈ D8, hashInt x.1 = x.1 := fun x hx => by
    have h1 := List.all_eq_true.mp D8_range x hx
    simp only [Bool.and_eq_true, decide_eq_true_eq] at h1
    exact hashInt_nat h1.1 h1.2
  have hm : ∃ x t', x ∈ D8 ∧ e.hash = x.1 ∧ e.key = .int x.1 t' := by
    have he' : e ∈ ents 376 (D8.take 17 ++ cs8.flatten) ++ ents2 2314 (D8.drop 646) := by simpa [b3es] using he
    rcases List.mem_append.mp he' with h1 | h1
    · obtain ⟨x, t', hx, r⟩ := ents_mem h1
      exact ⟨x, t', by rw [D8_parts]; exact List.mem_append_left _ hx, r⟩
    · obtain ⟨x, t', hx, r⟩ := ents2_mem h1
      exact ⟨x, t', List.mem_of_mem_drop hx, r⟩
  obtain ⟨x, t', hx, h1, h2⟩ := hm
  exact ⟨x.1, by rw [h2]; exact isInt_self x.1 t', by rw [h1]; exact (hr x hx).symm⟩
noncomputable def shownL : List (Int × Str) := [(97, Str.ofString "a"), (65, Str.ofString "a"), (119808, Str.ofString "a"), (107, Str.ofString "k"), (75, Str.ofString "k"), (119818, Str.ofString "k"), (109, Str.ofString "m"), (8499, Str.ofString "m"), (8473, Str.ofString "p"), (13188, Str.ofString "ka"), (13187, Str.ofString "ma"), (13262, Str.ofString "km"), (13261, Str.ofString "kk"), (13226, Str.ofString "kpa"), (13227, Str.ofString "mpa")]
noncomputable def b3T (k : Int) : Str := match b3F k with | some (.str x _) => x | _ => Txt.lower ⟨#[k.toNat]⟩
theorem b3T_shown : shownL.all (fun p => decide (b3T p.1 = p.2) && (match b3F p.1 with | some (.str _ _) => true | none => true | _ => false)) = true := by kernel_rfl
end
section
variable {w : World} {mean : ExcName → Option Value} {mg mb : Str → Option Value} {A : Around} {E : Value → Shared → Prop} {s : Shared} {Hs : List Addr}
theorem b3_get {g₀ : Heap} {env : Env} {ow : List Addr} {m : List (Str × Value)} {mu : Mu} {k : Int} {t : Tok} {Q : Value → Shared → Prop} (S : Sx w mean mg mb g₀ Hs env ow m mu s.heap) (h : Q ((b3F k).getD .none) { s with toks := s.toks + 1 }) :
    wpAny (model pw w) A (call (.builtin "dict.get") [.ref 113, .int k t]) Q E s := by
  have hm := b3_map (S.cx.gd.X.keeps vis_self)
  exact call_meetsIn PySem.F.slot_dict_get hm.typeIs PySem.F.entry_dict_get (PySem.F.args_dict_get_2 _ _) (meets_dict_get (intKind pw w) 113 (isInt_self k t) (by decide)) ⟨_, hm, h⟩
theorem b3_method {g₀ : Heap} {env : Env} {ow : List Addr} {m : List (Str × Value)} {mu : Mu} {pl : Sem Bool} {Q : Value × List Value → Shared → Prop} (S : Sx w mean mg mb g₀ Hs env ow m mu s.heap) (h : Q (.builtin "dict.get", [.ref 113]) s) :
    wpAny (model pw w) A (getMethod (.ref 113) "get" pl) Q E s :=
  have hm := b3_map (S.cx.gd.X.keeps vis_self)
  getMethod_builtin hm.typeIs PySem.F.plainAttrs_dict PySem.F.slot_dict_get PySem.F.type_dict_get hm.noDict h
theorem map_b3_ {p : Int × Str} {t : Tok} {Q : Value → Shared → Prop} (R : Rm A 1) (C : Cx w mean mg mb Hs s.heap) (hp : p ∈ shownL)
    (h : ∀ h' tk' t', Keeps s.heap h' → Q (.str p.2 t') { s with heap := h', toks := tk' }) : wpAny (model pw w) A (call (.ref 158) [.str ⟨#[p.1.toNat]⟩ t]) Q E s := by
  refine' codeS (f := 158) (binds := [(Str.ofString "code", .str ⟨#[p.1.toNat]⟩ t)]) C R.at0 ?ho ?hcd ?hb ?hl ?hc ?c1 ?c2 ?c3 ?h
  case ho => rfl
  case hcd => kernel_rfl
  case hb => exact BindsTo.of_eq rfl
  case hl => exact locs rfl
  case hc => decide +kernel
  case c1 => rfl
  case c2 => rfl
  case c3 => rfl
  intro L h₁ tk env hE
  obtain ⟨bd, hbd⟩ : ∃ x, x = fbody (st 9) := ⟨_, rfl⟩
  obtain ⟨sc, hsc⟩ : ∃ x, x = fscope (st 9) := ⟨_, rfl⟩
  rw [← hsc] at hE
  rw [← hbd]
  conv at hbd => rhs; whnf
  conv at hsc => rhs; whnf
  subst hbd hsc
  intro S k0 A' hA'
  walk_at "w"
  refine b3_method S ?_
  dsimp only
  walk_at "w"
  refine fOrd ?_; intro _ _
  walk_at "w"
  have h9 := List.all_eq_true.mp b3T_shown p hp
  simp only [Bool.and_eq_true, decide_eq_true_eq] at h9
  have h8 : ((p.1.toNat : Nat) : Int) = p.1 := by
    have : 0 ≤ p.1 := by
      have := List.all_eq_true.mp (show shownL.all (fun p => decide (0 ≤ p.1)) = true by decide +kernel) p hp
      simpa using this
    skip
    omega
  rw [h8]
  refine b3_get S ?_
  cases hb : b3F p.1 with
  | none =>
    have h7 : Txt.lower ⟨#[p.1.toNat]⟩ = p.2 := by have h6 := h9.1; unfold b3T at h6; rw [hb] at h6; exact h6
    simp only [Option.getD_none]
    walk_at "w"
    rw [if_neg (by decide)]
    walk_at "w"
    refine GM.lower ?_
    walk_at "w"
    refine SC.lower ?_ ?_
    · rw [h7]
      have := List.all_eq_true.mp (show shownL.all (fun p => !(Builtin.Str.tooLong p.2.length)) = true by decide +kernel) p hp
      simpa using this
    · rw [h7]
      walk_at "w"
      exact h _ _ _ (Sx.back ‹_›).1
  | some v =>
    have h6 := h9.1
    have h5 := h9.2
    unfold b3T at h6
    rw [hb] at h6 h5
    cases v with
    | str x t' =>
      have h7 : x = p.2 := h6
      subst h7
      simp only [Option.getD_some]
      walk_at "w"
      rw [if_pos (show (!(Value.str p.2 t' == Value.none)) = true from rfl)]
      walk_at "w"
      exact h _ _ _ (Sx.back ‹_›).1
    | _ => cases h5
end
noncomputable def signOf (x kinds : Int) : Int × Str := if x.fmod kinds = 15 then ((b1L[((x.fdiv 16).fmod 27).toNat]?).getD 0, Str.empty) else (shownL[(x.fmod kinds).toNat]?).getD (0, Str.empty)
section
variable {w : World} {mean : ExcName → Option Value} {mg mb : Str → Option Value} {A : Around} {E : Value → Shared → Prop} {s : Shared} {Hs : List Addr}
theorem itemEx {a : Addr} {k c : Int} {u : Tok} {vs : List Value} {value slice : Expr} {Q : Value → Shared → Prop} (hl : s.heap.IsList a vs.toArray) (h0 : 0 ≤ k) (hfit : k < 2 ^ 63) (hx : ∃ t, vs[k.toNat]? = some (.int c t)) (h : ∀ t, Q (.int c t) s)
    (hs : subscripted slice false (.ref a) (.int k u) = operate [.ref a, .int k u] (getItem (.ref a) (.int k u))) (ht : ∀ r, letTemporaryGo value (.ref a) r = pure ()) :
    wpAny (model pw w) A (subscriptTail value slice (.ref a) (.int k u)) Q E s := by
  obtain ⟨t, hx⟩ := hx
  exact itemL hl h0 hfit hx (h t) hs ht
theorem shown_item {a : Addr} {k : Int} {u : Tok} {vs : List Value} {value slice : Expr} {Q : Value → Shared → Prop} (hl : s.heap.IsList a vs.toArray) (h0 : 0 ≤ k) (hfit : k < 2 ^ 63) (P : Value → Prop) (hx : ∃ v, vs[k.toNat]? = some v ∧ P v) (h : ∀ v, P v → Q v s)
    (hs : subscripted slice false (.ref a) (.int k u) = operate [.ref a, .int k u] (getItem (.ref a) (.int k u))) (ht : ∀ r, letTemporaryGo value (.ref a) r = pure ()) :
    wpAny (model pw w) A (subscriptTail value slice (.ref a) (.int k u)) Q E s := by
  obtain ⟨v, hx, hP⟩ := hx
  exact itemL hl h0 hfit hx (h v hP) hs ht
theorem hidden_item {zs ys : List Value} {j : Nat} {t1 t2 t3 t4 t5 t6 t7 t8 t9 t10 t11 : Tok} (hzl : zs.length = 16) (hz : ∀ (i : Nat) v, zs[i]? = some v → ∃ t, v = .int (65024 + i) t) (hj : j < 27)
    (hys : ys = [.int 173 t1, .int 847 t2, .int 6150 t3, .int 6155 t4, .int 6156 t5, .int 6157 t6, .int 8203 t7, .int 8204 t8, .int 8205 t9, .int 8288 t10, .int 65279 t11]) : ∃ t, (ys ++ zs)[((j : Nat) : Int).toNat]? = some (.int ((b1L[j]?).getD 0) t) := by
  subst hys
  rw [Int.toNat_natCast]
  by_cases h11 : j < 11
  · rcases j with _ | _ | _ | _ | _ | _ | _ | _ | _ | _ | _ | j <;> first | exact ⟨_, rfl⟩ | omega
  · rw [List.getElem?_append_right (by simp; omega)]
    have h1 : j - 11 < zs.length := by omega
    obtain ⟨t, ht⟩ := hz (j - 11) _ (List.getElem?_eq_getElem h1)
    refine ⟨t, ?_⟩
    have h2 := List.all_eq_true.mp (show (List.range 16).all (fun i => decide ((b1L[11 + i]?).getD 0 = 65024 + (i : Int))) = true by decide +kernel) (j - 11) (List.mem_range.mpr (by omega))
    simp only [decide_eq_true_eq] at h2
    rw [show 11 + (j - 11) = j by omega] at h2
    rw [h2, ← ht]
    exact List.getElem?_eq_getElem h1
theorem law_sign_ {x kinds : Int} {t u : Tok} {Q : Value → Shared → Prop} (R : Rm A 1) (C : Cx w mean mg mb Hs s.heap) (hk : kinds = 15 ∨ kinds = 16)
    (h : ∀ h' tk' D t1 t2, Keeps s.heap h' → IsTup (hideAll h' Hs) D [.str ⟨#[(signOf x kinds).1.toNat]⟩ t1, .str (signOf x kinds).2 t2].toArray → Q (.ref D) { s with heap := h', toks := tk' }) :
    wpAny (model pw w) A (call (.ref 165) [.int x t, .int kinds u]) Q E s := by
  refine' codeS (f := 165) (binds := [(Str.ofString "x", .int x t), (Str.ofString "kinds", .int kinds u)]) C R.at0 ?ho ?hcd ?hb ?hl ?hc ?c1 ?c2 ?c3 ?h
  case ho => rfl
  case hcd => kernel_rfl
  case hb => exact BindsTo.of_eq rfl
  case hl => exact locs rfl
  case hc => decide +kernel
  case c1 => rfl
  case c2 => rfl
  case c3 => rfl
  intro L h₁ tk env hE
  obtain ⟨bd, hbd⟩ : ∃ x, x = fbody (st 11) := ⟨_, rfl⟩
  obtain ⟨sc, hsc⟩ : ∃ x, x = fscope (st 11) := ⟨_, rfl⟩
  rw [← hsc] at hE
  rw [← hbd]
  conv at hbd => rhs; whnf
  conv at hsc => rhs; whnf
  subst hbd hsc
  intro S k0 A' hA'
  have hk0 : kinds ≠ 0 := by omega
  have hR' := R.deeper hA'
  walk_at "w"
  by_cases h15 : x.fmod kinds = 15
  · have e15 : (x.fmod kinds == 15) = true := by simpa using h15
    rw [if_pos e15]
    walk_at "w"
    with_reducible refine' fListM S ?_ ?sz
    case sz => exact (show (11 : Nat) ≤ sizeLine by decide)
    intro D h2 S2 k2
    walk_at "w"
    rename_i h3 tk3 S3 K3
    refine getM_extend (ownL S3) ?_
    dsimp only
    walk_at "w"
    refine fRng2 S3 ?_
    intro r h4 tk4 u4 S4 k4 hr
    walk_at "w"
    refine extR (n := 16) S4 hR'.hh (vis_self _ _ hr) (by decide) (by decide) (show (11 : Nat) + 16 + 2 ≤ 2 ^ 24 by decide) ?_
    intro h5 tk5 zs hzl hz S5 k5
    dsimp only
    walk_at "w"
    have hk1 : 0 ≤ (x.fdiv 16).fmod 27 := Int.fmod_nonneg_of_pos _ (by decide)
    have hk2 : (x.fdiv 16).fmod 27 < 27 := Int.fmod_lt_of_pos _ (by decide)
    generalize hkk : (x.fdiv 16).fmod 27 = k at hk1 hk2 ⊢
    obtain ⟨j, rfl⟩ := Int.eq_ofNat_of_zero_le hk1
    have hj : j < 27 := by omega
    refine itemEx (ownL S5).isList hk1 (by omega) (hidden_item hzl hz hj rfl) ?_ rfl (fun _ => rfl)
    intro t9
    have hrng := List.all_eq_true.mp (show (List.range 27).all (fun j => decide (0 ≤ (b1L[j]?).getD 0) && decide ((b1L[j]?).getD 0 ≤ 1114111)) = true by decide +kernel) j (List.mem_range.mpr hj)
    simp only [Bool.and_eq_true, decide_eq_true_eq] at hrng
    walk_at "w"
    refine fChr hrng.1 hrng.2 ?_; intro _ _
    walk_at "w"
    with_reducible refine' fTup S5 ?_ ?sz
    case sz => exact (show (2 : Nat) ≤ sizeLine by decide)
    intro T h6 S6 k6 hT
    walk_at "w"
    have hs : signOf x kinds = ((b1L[j]?).getD 0, Str.empty) := by unfold signOf; rw [if_pos h15, hkk]; rfl
    rw [hs] at h
    exact h _ _ T _ _ (S6.back (O := D :: ownOf env)).1 (hT.keeps (S6.back (O := D :: ownOf env)).2)
  · have e15 : ¬ (x.fmod kinds == 15) = true := by simpa using h15
    rw [if_neg e15]
    walk_at "w"
    with_reducible refine' fTup S ?_ ?sz
    case sz => exact (show (2 : Nat) ≤ sizeLine by decide)
    intro T1 hp1 S1 k1 hT1
    walk_at "w"
    with_reducible refine' fTup S1 ?_ ?sz
    case sz => exact (show (2 : Nat) ≤ sizeLine by decide)
    intro T2 hp2 S2 k2 hT2
    replace hT1 := hT1.keeps k2
    walk_at "w"
    with_reducible refine' fTup S2 ?_ ?sz
    case sz => exact (show (2 : Nat) ≤ sizeLine by decide)
    intro T3 hp3 S3 k3 hT3
    replace hT1 := hT1.keeps k3
    replace hT2 := hT2.keeps k3
    walk_at "w"
    with_reducible refine' fTup S3 ?_ ?sz
    case sz => exact (show (2 : Nat) ≤ sizeLine by decide)
    intro T4 hp4 S4 k4 hT4
    replace hT1 := hT1.keeps k4
    replace hT2 := hT2.keeps k4
    replace hT3 := hT3.keeps k4
    walk_at "w"
    with_reducible refine' fTup S4 ?_ ?sz
    case sz => exact (show (2 : Nat) ≤ sizeLine by decide)
    intro T5 hp5 S5 k5 hT5
    replace hT1 := hT1.keeps k5
    replace hT2 := hT2.keeps k5
    replace hT3 := hT3.keeps k5
    replace hT4 := hT4.keeps k5
    walk_at "w"
    with_reducible refine' fTup S5 ?_ ?sz
    case sz => exact (show (2 : Nat) ≤ sizeLine by decide)
    intro T6 hp6 S6 k6 hT6
    replace hT1 := hT1.keeps k6
    replace hT2 := hT2.keeps k6
    replace hT3 := hT3.keeps k6
    replace hT4 := hT4.keeps k6
    replace hT5 := hT5.keeps k6
    walk_at "w"
    with_reducible refine' fTup S6 ?_ ?sz
    case sz => exact (show (2 : Nat) ≤ sizeLine by decide)
    intro T7 hp7 S7 k7 hT7
    replace hT1 := hT1.keeps k7
    replace hT2 := hT2.keeps k7
    replace hT3 := hT3.keeps k7
    replace hT4 := hT4.keeps k7
    replace hT5 := hT5.keeps k7
    replace hT6 := hT6.keeps k7
    walk_at "w"
    with_reducible refine' fListM S7 ?_ ?sz
    case sz => exact (show (7 : Nat) ≤ sizeLine by decide)
    intro D hD SD kD
    replace hT1 := hT1.keeps kD
    replace hT2 := hT2.keeps kD
    replace hT3 := hT3.keeps kD
    replace hT4 := hT4.keeps kD
    replace hT5 := hT5.keeps kD
    replace hT6 := hT6.keeps kD
    replace hT7 := hT7.keeps kD
    walk_at "w"
    rename_i h8 tk8 S8 K8
    replace hT1 := hT1.keeps K8
    replace hT2 := hT2.keeps K8
    replace hT3 := hT3.keeps K8
    replace hT4 := hT4.keeps K8
    replace hT5 := hT5.keeps K8
    replace hT6 := hT6.keeps K8
    replace hT7 := hT7.keeps K8
    refine getM_extend (ownL S8) ?_
    dsimp only
    walk_at "w"
    with_reducible refine' fTup S8 ?_ ?sz
    case sz => exact (show (2 : Nat) ≤ sizeLine by decide)
    intro T8 hp8 S8 k8 hT8
    replace hT1 := hT1.keeps k8
    replace hT2 := hT2.keeps k8
    replace hT3 := hT3.keeps k8
    replace hT4 := hT4.keeps k8
    replace hT5 := hT5.keeps k8
    replace hT6 := hT6.keeps k8
    replace hT7 := hT7.keeps k8
    walk_at "w"
    with_reducible refine' fTup S8 ?_ ?sz
    case sz => exact (show (2 : Nat) ≤ sizeLine by decide)
    intro T9 hp9 S9 k9 hT9
    replace hT1 := hT1.keeps k9
    replace hT2 := hT2.keeps k9
    replace hT3 := hT3.keeps k9
    replace hT4 := hT4.keeps k9
    replace hT5 := hT5.keeps k9
    replace hT6 := hT6.keeps k9
    replace hT7 := hT7.keeps k9
    replace hT8 := hT8.keeps k9
    walk_at "w"
    with_reducible refine' fTup S9 ?_ ?sz
    case sz => exact (show (2 : Nat) ≤ sizeLine by decide)
    intro T10 hp10 S10 k10 hT10
    replace hT1 := hT1.keeps k10
    replace hT2 := hT2.keeps k10
    replace hT3 := hT3.keeps k10
    replace hT4 := hT4.keeps k10
    replace hT5 := hT5.keeps k10
    replace hT6 := hT6.keeps k10
    replace hT7 := hT7.keeps k10
    replace hT8 := hT8.keeps k10
    replace hT9 := hT9.keeps k10
    walk_at "w"
    with_reducible refine' fTup S10 ?_ ?sz
    case sz => exact (show (2 : Nat) ≤ sizeLine by decide)
    intro T11 hp11 S11 k11 hT11
    replace hT1 := hT1.keeps k11
    replace hT2 := hT2.keeps k11
    replace hT3 := hT3.keeps k11
    replace hT4 := hT4.keeps k11
    replace hT5 := hT5.keeps k11
    replace hT6 := hT6.keeps k11
    replace hT7 := hT7.keeps k11
    replace hT8 := hT8.keeps k11
    replace hT9 := hT9.keeps k11
    replace hT10 := hT10.keeps k11
    walk_at "w"
    with_reducible refine' fTup S11 ?_ ?sz
    case sz => exact (show (2 : Nat) ≤ sizeLine by decide)
    intro T12 hp12 S12 k12 hT12
    replace hT1 := hT1.keeps k12
    replace hT2 := hT2.keeps k12
    replace hT3 := hT3.keeps k12
    replace hT4 := hT4.keeps k12
    replace hT5 := hT5.keeps k12
    replace hT6 := hT6.keeps k12
    replace hT7 := hT7.keeps k12
    replace hT8 := hT8.keeps k12
    replace hT9 := hT9.keeps k12
    replace hT10 := hT10.keeps k12
    replace hT11 := hT11.keeps k12
    walk_at "w"
    with_reducible refine' fTup S12 ?_ ?sz
    case sz => exact (show (2 : Nat) ≤ sizeLine by decide)
    intro T13 hp13 S13 k13 hT13
    replace hT1 := hT1.keeps k13
    replace hT2 := hT2.keeps k13
    replace hT3 := hT3.keeps k13
    replace hT4 := hT4.keeps k13
    replace hT5 := hT5.keeps k13
    replace hT6 := hT6.keeps k13
    replace hT7 := hT7.keeps k13
    replace hT8 := hT8.keeps k13
    replace hT9 := hT9.keeps k13
    replace hT10 := hT10.keeps k13
    replace hT11 := hT11.keeps k13
    replace hT12 := hT12.keeps k13
    walk_at "w"
    with_reducible refine' fListV S13 ?_ ?sz
    case sz => exact (show (6 : Nat) ≤ sizeLine by decide)
    intro l1 hl1 Sl1 kl1 hl1P
    replace hT1 := hT1.keeps kl1
    replace hT2 := hT2.keeps kl1
    replace hT3 := hT3.keeps kl1
    replace hT4 := hT4.keeps kl1
    replace hT5 := hT5.keeps kl1
    replace hT6 := hT6.keeps kl1
    replace hT7 := hT7.keeps kl1
    replace hT8 := hT8.keeps kl1
    replace hT9 := hT9.keeps kl1
    replace hT10 := hT10.keeps kl1
    replace hT11 := hT11.keeps kl1
    replace hT12 := hT12.keeps kl1
    replace hT13 := hT13.keeps kl1
    walk_at "w"
    refine extM Sl1 (hl1P.at fun o e => vis_self _ _ e) (show (7 : Nat) + 6 ≤ sizeLine by decide) ?_
    intro he1 Se1 ke1
    replace hT1 := hT1.keeps ke1
    replace hT2 := hT2.keeps ke1
    replace hT3 := hT3.keeps ke1
    replace hT4 := hT4.keeps ke1
    replace hT5 := hT5.keeps ke1
    replace hT6 := hT6.keeps ke1
    replace hT7 := hT7.keeps ke1
    replace hT8 := hT8.keeps ke1
    replace hT9 := hT9.keeps ke1
    replace hT10 := hT10.keeps ke1
    replace hT11 := hT11.keeps ke1
    replace hT12 := hT12.keeps ke1
    replace hT13 := hT13.keeps ke1
    dsimp only
    walk_at "w"
    refine getM_extend (ownL Se1) ?_
    dsimp only
    walk_at "w"
    with_reducible refine' fTup Se1 ?_ ?sz
    case sz => exact (show (2 : Nat) ≤ sizeLine by decide)
    intro T14 hp14 S14 k14 hT14
    replace hT1 := hT1.keeps k14
    replace hT2 := hT2.keeps k14
    replace hT3 := hT3.keeps k14
    replace hT4 := hT4.keeps k14
    replace hT5 := hT5.keeps k14
    replace hT6 := hT6.keeps k14
    replace hT7 := hT7.keeps k14
    replace hT8 := hT8.keeps k14
    replace hT9 := hT9.keeps k14
    replace hT10 := hT10.keeps k14
    replace hT11 := hT11.keeps k14
    replace hT12 := hT12.keeps k14
    replace hT13 := hT13.keeps k14
    walk_at "w"
    with_reducible refine' fTup S14 ?_ ?sz
    case sz => exact (show (2 : Nat) ≤ sizeLine by decide)
    intro T15 hp15 S15 k15 hT15
    replace hT1 := hT1.keeps k15
    replace hT2 := hT2.keeps k15
    replace hT3 := hT3.keeps k15
    replace hT4 := hT4.keeps k15
    replace hT5 := hT5.keeps k15
    replace hT6 := hT6.keeps k15
    replace hT7 := hT7.keeps k15
    replace hT8 := hT8.keeps k15
    replace hT9 := hT9.keeps k15
    replace hT10 := hT10.keeps k15
    replace hT11 := hT11.keeps k15
    replace hT12 := hT12.keeps k15
    replace hT13 := hT13.keeps k15
    replace hT14 := hT14.keeps k15
    walk_at "w"
    with_reducible refine' fListV S15 ?_ ?sz
    case sz => exact (show (2 : Nat) ≤ sizeLine by decide)
    intro l2 hl2 Sl2 kl2 hl2P
    replace hT1 := hT1.keeps kl2
    replace hT2 := hT2.keeps kl2
    replace hT3 := hT3.keeps kl2
    replace hT4 := hT4.keeps kl2
    replace hT5 := hT5.keeps kl2
    replace hT6 := hT6.keeps kl2
    replace hT7 := hT7.keeps kl2
    replace hT8 := hT8.keeps kl2
    replace hT9 := hT9.keeps kl2
    replace hT10 := hT10.keeps kl2
    replace hT11 := hT11.keeps kl2
    replace hT12 := hT12.keeps kl2
    replace hT13 := hT13.keeps kl2
    replace hT14 := hT14.keeps kl2
    replace hT15 := hT15.keeps kl2
    walk_at "w"
    refine extM Sl2 (hl2P.at fun o e => vis_self _ _ e) (show (7 : Nat) + 6 + 2 ≤ sizeLine by decide) ?_
    intro he2 Se2 ke2
    replace hT1 := hT1.keeps ke2
    replace hT2 := hT2.keeps ke2
    replace hT3 := hT3.keeps ke2
    replace hT4 := hT4.keeps ke2
    replace hT5 := hT5.keeps ke2
    replace hT6 := hT6.keeps ke2
    replace hT7 := hT7.keeps ke2
    replace hT8 := hT8.keeps ke2
    replace hT9 := hT9.keeps ke2
    replace hT10 := hT10.keeps ke2
    replace hT11 := hT11.keeps ke2
    replace hT12 := hT12.keeps ke2
    replace hT13 := hT13.keeps ke2
    replace hT14 := hT14.keeps ke2
    replace hT15 := hT15.keeps ke2
    dsimp only
    walk_at "w"
    have hr1 : 0 ≤ x.fmod kinds := Int.fmod_nonneg_of_pos _ (by omega)
    have hr2 : x.fmod kinds < 15 := by
      have : x.fmod kinds < kinds := Int.fmod_lt_of_pos _ (by omega)
      omega
    obtain ⟨j, hj⟩ := Int.eq_ofNat_of_zero_le hr1
    rw [hj] at hr1 hr2 ⊢
    have hs : signOf x kinds = (shownL[j]?).getD (0, Str.empty) := by unfold signOf; rw [if_neg h15, hj]; rfl
    rw [hs] at h
    refine shown_item (vs := _) (ownL Se2).isList hr1 (by omega) (fun v => ∃ T t1 t2, v = .ref T ∧ IsTup (hideAll he2 (D :: (ownOf env ++ Hs))) T [.int ((shownL[j]?).getD (0, Str.empty)).1 t1, .str ((shownL[j]?).getD (0, Str.empty)).2 t2].toArray) ?_ ?_ rfl (fun _ => rfl)
    · have hj' : j < 15 := by omega
      rcases j with _ | _ | _ | _ | _ | _ | _ | _ | _ | _ | _ | _ | _ | _ | _ | j
      · exact ⟨_, rfl, _, _, _, rfl, hT1⟩
      · exact ⟨_, rfl, _, _, _, rfl, hT2⟩
      · exact ⟨_, rfl, _, _, _, rfl, hT3⟩
      · exact ⟨_, rfl, _, _, _, rfl, hT4⟩
      · exact ⟨_, rfl, _, _, _, rfl, hT5⟩
      · exact ⟨_, rfl, _, _, _, rfl, hT6⟩
      · exact ⟨_, rfl, _, _, _, rfl, hT7⟩
      · exact ⟨_, rfl, _, _, _, rfl, hT8⟩
      · exact ⟨_, rfl, _, _, _, rfl, hT9⟩
      · exact ⟨_, rfl, _, _, _, rfl, hT10⟩
      · exact ⟨_, rfl, _, _, _, rfl, hT11⟩
      · exact ⟨_, rfl, _, _, _, rfl, hT12⟩
      · exact ⟨_, rfl, _, _, _, rfl, hT13⟩
      · exact ⟨_, rfl, _, _, _, rfl, hT14⟩
      · exact ⟨_, rfl, _, _, _, rfl, hT15⟩
      · omega
    rintro v ⟨T, t1, t2, rfl, hT⟩
    refine asgTup Se2 hR'.hh hT rfl rfl ?_
    intro h9 S9 k9
    refine assignInOrder_cons (wpAny_assign_Name ?_)
    walk_at "w"
    refine assignInOrder_cons (wpAny_assign_Name ?_)
    walk_at "w"
    refine assignInOrder_nil ?_
    dsimp only
    walk_at "w"
    rename_i hz tkz Sz Kz
    have hrng := List.all_eq_true.mp (show (List.range 15).all (fun j => decide (0 ≤ ((shownL[j]?).getD (0, Str.empty)).1) && decide (((shownL[j]?).getD (0, Str.empty)).1 ≤ 1114111)) = true by decide +kernel) j (List.mem_range.mpr (by omega))
    simp only [Bool.and_eq_true, decide_eq_true_eq] at hrng
    refine fChr hrng.1 hrng.2 ?_; intro _ _
    walk_at "w"
    with_reducible refine' fTup Sz ?_ ?sz
    case sz => exact (show (2 : Nat) ≤ sizeLine by decide)
    intro TT hpT ST kT hTT
    walk_at "w"
    exact h _ _ TT _ _ (ST.back (O := D :: ownOf env)).1 (hTT.keeps (ST.back (O := D :: ownOf env)).2)
end
section
variable {w : World} {mean : ExcName → Option Value} {mg mb : Str → Option Value} {A : Around} {E : Value → Shared → Prop} {s : Shared} {Hs : List Addr}
abbrev txt (p : Int × Str) : List Nat := p.2.cps.toList
noncomputable def okSign (p : Int × Str) : Prop := p ∈ shownL ∨ (p.2 = Str.empty ∧ p.1 ∈ b1L)
theorem flat_le {α : Type} {f : α → List Nat} : ∀ (l : List α), (∀ p ∈ l, (f p).length ≤ 3) → (l.flatMap f).length ≤ 3 * l.length
  | [], _ => by simp
  | p :: r, h => by
    have h1 := flat_le r fun q hq => h q (List.mem_cons_of_mem _ hq)
    have h2 := h p List.mem_cons_self
    rw [List.flatMap_cons, List.length_append, List.length_cons]; omega
theorem sign_le {p : Int × Str} (h : okSign p) : (txt p).length ≤ 3 := by
  rcases h with h | ⟨h, _⟩
  · have := List.all_eq_true.mp (show shownL.all (fun p => decide ((txt p).length ≤ 3)) = true by decide +kernel) p h
    simpa using this
  · show p.2.cps.toList.length ≤ 3; rw [h]; decide
theorem fInB1 {hp : Heap} {gn : Array GenState} {dr : Drawn} {tk : Nat} {os : OsState} {c : Nat} {t : Tok} {Q : Value → Shared → Prop} (hroom : A.depth < recursionLimit) (C : Cx w mean mg mb Hs hp)
    (h : ∀ h' tk', Keeps hp h' → Q (.bool (b1L.contains (c : Int))) ⟨h', gn, dr, tk', os⟩) : wpAny (model pw w) A (call (.ref 112) [.str ⟨#[c]⟩ t]) Q E ⟨hp, gn, dr, tk, os⟩ := inB1_ hroom C h
theorem fMapB3 {hp : Heap} {gn : Array GenState} {dr : Drawn} {tk : Nat} {os : OsState} {p : Int × Str} {t : Tok} {Q : Value → Shared → Prop} (R : Rm A 1) (C : Cx w mean mg mb Hs hp) (hq : p ∈ shownL)
    (h : ∀ h' tk' t', Keeps hp h' → Q (.str (sT (txt p)) t') ⟨h', gn, dr, tk', os⟩) : wpAny (model pw w) A (call (.ref 158) [.str ⟨#[p.1.toNat]⟩ t]) Q E ⟨hp, gn, dr, tk, os⟩ :=
  map_b3_ R C hq fun h' tk' t' k => by have := h h' tk' t' k; rw [sT_eq] at this; exact this
theorem prepared_ {a : Addr} {vs : List Value} {sg : List (Int × Str)} {Q : Value → Shared → Prop} (R : Rm A 2) (C : Cx w mean mg mb Hs s.heap) (hl : (hideAll s.heap Hs).IsList a vs.toArray)
    (hlen : vs.length = sg.length) (hvs : ∀ (i : Nat) v, vs[i]? = some v → ∃ (p : Int × Str) (t : Tok), sg[i]? = some p ∧ v = Value.str ⟨#[p.1.toNat]⟩ t) (hsg : ∀ p ∈ sg, okSign p) (hsz : sg.length ≤ 100)
    (h : ∀ h' tk' t', Keeps s.heap h' → Q (.str (sT (sg.flatMap txt)) t') { s with heap := h', toks := tk' }) : wpAny (model pw w) A (call (.ref 172) [.ref a]) Q E s := by
  refine' codeS (f := 172) (binds := [(Str.ofString "signs", .ref a)]) C R.at0 ?ho ?hcd ?hb ?hl ?hc ?c1 ?c2 ?c3 ?h
  case ho => rfl
  case hcd => kernel_rfl
  case hb => exact BindsTo.of_eq rfl
  case hl => exact locs rfl
  case hc => decide +kernel
  case c1 => rfl
  case c2 => rfl
  case c3 => rfl
  intro L h₁ tk env hE
  obtain ⟨bd, hbd⟩ : ∃ x, x = fbody (st 12) := ⟨_, rfl⟩
  obtain ⟨sc, hsc⟩ : ∃ x, x = fscope (st 12) := ⟨_, rfl⟩
  rw [← hsc] at hE
  rw [← hbd]
  conv at hbd => rhs; whnf
  conv at hsc => rhs; whnf
  subst hbd hsc
  intro S k0 A' hA'
  have R' := R.deeper hA'
  walk_at "w"
  rename_i hq tkq S K
  refine fForL (fun i m mu g => ∃ t, m = [(Str.ofString "kept", Value.str (sT ((sg.take i).flatMap txt)) t)] ∧ mu = []) (fun _ _ _ _ _ _ e => e) (S.lessL (m' := [(Str.ofString "kept", Value.str (sT []) _)]) ⟨rfl, trivial⟩) (hl.at fun o e => K _ _ (k0 _ _ e)) R'.hh ⟨_, rfl, rfl⟩ ?hk ?hx ?step ?done (fun _ _ e => e)
  case hk => rw [hE.eq] <;> rfl
  case hx => rw [hE.eq] <;> rfl
  case step =>
    intro I i v m₁ mu₁ h2 tk2 oI g₁ hi kk hj S1
    obtain ⟨t0, rfl, rfl⟩ := hj
    obtain ⟨p, t1, hp, rfl⟩ := hvs _ _ hi
    have hpm := hsg p (List.mem_of_getElem? hp)
    walk_at "w"
    refine fInB1 R'.at0 S1.cx ?_
    intro h3 tk3 k3
    have S2 := S1.keeps k3
    walk_at "w"
    have hc : (List.take i sg).length ≤ 100 := by rw [List.length_take]; omega
    have hfl : ((sg.take i).flatMap txt).length ≤ 400 := by
      have h1 : ((sg.take i).flatMap txt).length ≤ 3 * (sg.take i).length := flat_le _ fun p hp => sign_le (hsg p (List.mem_of_mem_take hp))
      omega
    have htake : (sg.take (i + 1)).flatMap txt = (sg.take i).flatMap txt ++ txt p := by rw [List.take_add_one, hp]; simp
    rcases hpm with hpm | ⟨h1, h2'⟩
    · have h9 := List.all_eq_true.mp (show shownL.all (fun p => !b1L.contains p.1 && decide (0 ≤ p.1)) = true by decide +kernel) p hpm
      simp only [Bool.and_eq_true, Bool.not_eq_true', decide_eq_true_eq] at h9
      rw [Int.toNat_of_nonneg h9.2, h9.1]
      rw [if_pos (by rfl)]
      walk_at "w"
      rename_i hz tkz SZ KZ
      refine fMapB3 R' SZ.cx hpm ?_
      intro h4 tk4 t4 k4
      have S4 := SZ.keeps k4
      refine fAddS ?_ ?_
      · have := sign_le (hsg p (List.mem_of_getElem? hp)); rw [sizeLine_eq]; omega
      intro _ _
      walk_at "w"
      rename_i hy tky SY KY
      refine ⟨_, _, _, _, rfl, SY.lessL (m' := [(Str.ofString "kept", Value.str (sT _) _)]) ⟨rfl, trivial⟩, _, by rw [htake], rfl⟩
    · have h9 := List.all_eq_true.mp (show b1L.all (fun c => b1L.contains c && decide (0 ≤ c)) = true by decide +kernel) p.1 h2'
      simp only [Bool.and_eq_true, decide_eq_true_eq] at h9
      rw [Int.toNat_of_nonneg h9.2, h9.1]
      rw [if_neg (by decide)]
      walk_at "w"
      rw [Int.toNat_of_nonneg h9.2, h9.1, if_neg (by decide)]
      walk_at "w"
      rename_i hy tky SY KY
      have e0 : txt p = [] := by show p.2.cps.toList = []; rw [h1]; rfl
      refine ⟨_, _, _, _, rfl, SY.lessL (m' := [(Str.ofString "kept", Value.str (sT _) _)]) ⟨rfl, trivial⟩, _, by rw [htake, e0, List.append_nil], rfl⟩
  case done =>
    intro h' tk m' mu' S1 k1 hj
    rw [hlen, List.take_length] at hj
    obtain ⟨t0, rfl, rfl⟩ := hj
    walk_at "w"
    exact h _ _ _ S1.back.1
end
section
variable {w : World} {mean : ExcName → Option Value} {mg mb : Str → Option Value} {A : Around} {E : Value → Shared → Prop} {s : Shared} {Hs : List Addr}
noncomputable def lynF (p : List Nat) : Bool := (List.range (p.length - 1)).all fun j => decide (p < p.drop (1 + j))
noncomputable def longF (l : List Nat) (f : Nat) : Nat → Int
  | 0 => 0
  | i + 1 => if lynF ((l.take (f + 1 + i)).drop f) then ((f + 1 + i : Nat) : Int) else longF l f i
theorem longest_ {l : List Nat} {f : Nat} {t u : Tok} {Q : Value → Shared → Prop} (R : Rm A 2) (C : Cx w mean mg mb Hs s.heap) (hf : f < l.length) (hsz : l.length ≤ 10)
    (h : ∀ h' tk' t', Keeps s.heap h' → Q (.int (longF l f (l.length - f)) t') { s with heap := h', toks := tk' }) : wpAny (model pw w) A (call (.ref 177) [.str (sT l) t, .int (f : Int) u]) Q E s := by
  refine' codeS (f := 177) (binds := [(Str.ofString "word", .str (sT l) t), (Str.ofString "first", .int (f : Int) u)]) C R.at0 ?ho ?hcd ?hb ?hl ?hc ?c1 ?c2 ?c3 ?h
  case ho => rfl
  case hcd => kernel_rfl
  case hb => exact BindsTo.of_eq rfl
  case hl => exact locs rfl
  case hc => decide +kernel
  case c1 => rfl
  case c2 => rfl
  case c3 => rfl
  intro L h₁ tk env hE
  obtain ⟨bd, hbd⟩ : ∃ x, x = fbody (st 13) := ⟨_, rfl⟩
  obtain ⟨sc, hsc⟩ : ∃ x, x = fscope (st 13) := ⟨_, rfl⟩
  rw [← hsc] at hE
  rw [← hbd]
  conv at hbd => rhs; whnf
  conv at hsc => rhs; whnf
  subst hbd hsc
  intro S k0 A' hA'
  have R' := R.deeper hA'
  walk_at "w"
  have hl24 : l.length ≤ sizeLine := by rw [sizeLine_eq]; omega
  refine fLenS hl24 ?_; intro _ _
  walk_at "w"
  rename_i h2 tk2 S2 K2 _ _ _ _ _ _ _ _ _ _
  refine fRng2 S2 ?_
  intro D h3 tk3 u3 S3 k3 hr
  walk_at "w"
  refine fForR (n := l.length - f) (fun i m mu g => ∃ t1 t2 t3, m = [(Str.ofString "longest", Value.int (longF l f i) t1), (Str.ofString "word", .str (sT l) t2), (Str.ofString "first", .int (f : Int) t3)] ∧ mu = []) (fun _ _ _ _ _ _ e => e) (S3.lessL (m' := [(Str.ofString "longest", Value.int 0 _), (Str.ofString "word", .str (sT l) _), (Str.ofString "first", .int (f : Int) _)]) ⟨rfl, rfl, rfl, trivial⟩)
    hr (by omega) (by omega) R'.hh ⟨_, _, _, rfl, rfl⟩ ?hk ?hx ?step ?done (fun _ _ e => e)
  case hk => rw [hE.eq] <;> rfl
  case hx => rw [hE.eq] <;> rfl
  case step =>
    intro I i ts m₁ mu₁ h4 tk4 oI g₁ hi k4 hj S4
    obtain ⟨t1, t2, t3, rfl, rfl⟩ := hj
    walk_at "w"
    refine SlP.ss ?a ?b hl24 ?_
    case a => omega
    case b => omega
    intro h5 u5 tk5 k5
    have S5 := S4.keeps k5
    walk_at "w"
    have e1 : ((f : Int) + 1 + (i : Int)).toNat = f + 1 + i := by omega
    rename_i h6 tk6 S6 K6
    rw [e1, Int.toNat_natCast] at S6
    generalize hpp : List.drop f (List.take (f + 1 + i) l) = p at S6
    have hpl : p.length ≤ 10 := by rw [← hpp, List.length_drop, List.length_take]; omega
    have hp24 : p.length ≤ sizeLine := by rw [sizeLine_eq]; omega
    have hp1 : 1 ≤ p.length := by rw [← hpp, List.length_drop, List.length_take]; omega
    refine evalComp ?hok ?hkind ?hnames ?hs ?_
    case hok => rw [hE.eq] <;> rfl
    case hkind => rfl
    case hnames => decide +kernel
    case hs => intro _; rfl
    walk_at "w"
    refine fLenS hp24 ?_; intro _ _
    walk_at "w"
    refine fRng2 S6 ?_
    intro D7 h7 tk7 u7 S7 k7 hr7
    walk_at "w"
    refine compR (n := p.length - 1) (mf := [(Str.ofString "piece", Value.str (sT p) u5)]) S7 hr7 (by omega) (by omega) R'.hh ?hmf ?hok ?hnd rfl (.inl rfl) ?hxm (by omega) (fun i ys g => ys = [] ↔ ∀ j, j < i → decide (p < p.drop (1 + j)) = true) (fun _ _ _ _ _ e => e) (by simp) (step1 ?stp) (fRrV S7 (fun _ _ _ _ e => e) ?fin)
    case hmf => intro q hq; rw [List.mem_singleton.mp hq]; exact ⟨rfl, rfl⟩
    case hok => rw [hE.eq] <;> rfl
    case hnd => decide +kernel
    case hxm => intro q hq; rw [List.mem_singleton.mp hq]; show Str.ofString "piece" ≠ Str.ofString "k"; decide
    case stp =>
      intro i v ys h8 tk8 C cenv Hc hi hv hcenv k8 hj hle S8
      obtain ⟨tv, rfl⟩ := hv
      have hE2 := hcenv
      rw [hE.eq] at hE2
      walk_at "w"
      refine SlP.sn ?a hp24 ?_
      case a => omega
      intro h9 u9 tk9 k9
      have S9 := S8.keeps k9
      walk_at "w"
      have e2 : ((1 : Int) + (i : Int)).toNat = 1 + i := by omega
      rw [e2]
      by_cases hlt : p < p.drop (1 + i)
      · have e3 : (!decide (p < p.drop (1 + i))) = false := by simpa using hlt
        rw [e3, if_neg Bool.false_ne_true]
        refine ElP.intro S9 ?_
        rw [hj]
        exact ⟨fun hq j hj' => by
          rcases Nat.lt_succ_iff_lt_or_eq.mp hj' with h1 | rfl
          · exact hq j h1
          · simpa using hlt, fun hq j hj' => hq j (Nat.lt_succ_of_lt hj')⟩
      · have e3 : (!decide (p < p.drop (1 + i))) = true := by simpa using hlt
        rw [e3, if_pos rfl]
        walk_at "w"
        refine ElP.intro S9 ?_
        exact ⟨fun hq => absurd hq (by simp), fun hq => absurd (hq i (Nat.lt_succ_self _)) (by simpa using hlt)⟩
    case fin =>
      intro D h8 tk8 ys S8 k8 hD hj
      walk_at "w"
      with_reducible refine' fListV S8 ?_ ?sz
      case sz => exact (show (0 : Nat) ≤ sizeLine by decide)
      intro D9 h9 S9 k9 hD9
      walk_at "w"
      refine fEqNil ((plK hD k9).imp fun n e => vis_self _ _ e) (hD9.imp fun n e => vis_self _ _ e) (by have := R'.un; omega) ?_
      walk_at "w"
      have hlyn : ys.isEmpty = lynF p := by
        unfold lynF
        rw [Bool.eq_iff_iff, List.isEmpty_iff, hj, List.all_eq_true]
        exact ⟨fun h j hj' => h j (List.mem_range.mp hj'), fun h j hj' => h j (List.mem_range.mpr hj')⟩
      rw [hlyn]
      have hstep : longF l f (i + 1) = if lynF p then ((f + 1 + i : Nat) : Int) else longF l f i := by rw [← hpp]; rfl
      cases hly : lynF p with
      | true =>
        rw [if_pos rfl]
        rw [hly, if_pos rfl] at hstep
        walk_at "w"
        rename_i hy tky SY KY
        refine ⟨_, _, _, _, rfl, SY.lessL (m' := [(Str.ofString "longest", Value.int _ _), (Str.ofString "word", .str (sT l) _), (Str.ofString "first", .int (f : Int) _)]) ⟨rfl, rfl, rfl, trivial⟩, ts, t2, t3, ?_, rfl⟩
        rw [hstep, show ((f + 1 + i : Nat) : Int) = (f : Int) + 1 + (i : Int) by omega]
      | false =>
        rw [if_neg Bool.false_ne_true]
        rw [hly, if_neg Bool.false_ne_true] at hstep
        walk_at "w"
        refine ⟨_, _, _, _, rfl, S9.lessL (m' := [(Str.ofString "longest", Value.int _ _), (Str.ofString "word", .str (sT l) _), (Str.ofString "first", .int (f : Int) _)]) ⟨rfl, rfl, rfl, trivial⟩, t1, t2, t3, ?_, rfl⟩
        rw [hstep]
  case done =>
    intro h' tk m' mu' S1 k1 hj
    obtain ⟨t1, t2, t3, rfl, rfl⟩ := hj
    walk_at "w"
    exact h _ _ _ S1.back.1
end
theorem flat1 (l : List Nat) (f : Nat → Nat) : (l.map fun c => [f c]).flatten = l.map f := by
  induction l with
  | nil => rfl
  | cons c r ih => rw [List.map_cons, List.flatten_cons, ih]; rfl
theorem sum1 (l : List Nat) (f : Nat → Nat) : ((l.map fun c => [f c]).map (·.length)).sum = l.length := by
  induction l with
  | nil => rfl
  | cons c r ih => rw [List.map_cons, List.map_cons, List.sum_cons, ih, List.length_cons, List.length_cons, List.length_nil]; omega
noncomputable def exS (n : Int) : Nat → List Nat × List Nat × Int
  | 0 => ([107, 109, 112, 97], [], n)
  | i + 1 => (((exS n i).1.take ((exS n i).2.2.fmod (([3, 3, 2, 1] : List Int)[i]?.getD 1)).toNat ++ (exS n i).1.drop (((exS n i).2.2.fmod (([3, 3, 2, 1] : List Int)[i]?.getD 1)).toNat + 1)),
      (exS n i).2.1 ++ [((exS n i).1[((exS n i).2.2.fmod (([3, 3, 2, 1] : List Int)[i]?.getD 1)).toNat]?).getD 0], (exS n i).2.2.fdiv (([3, 3, 2, 1] : List Int)[i]?.getD 1))
noncomputable def exOrd (n : Int) : List Nat := (exS n 4).2.1
noncomputable def exch (n : Int) (c : Nat) : Nat := (([97, 107, 109, 112] : List Nat)[(exOrd n).idxOf c]?).getD 0
noncomputable def exP (a b c d : Nat) : List Nat :=
  let L0 : List Nat := [107, 109, 112, 97]
  let L1 := L0.take a ++ L0.drop (a + 1)
  let L2 := L1.take b ++ L1.drop (b + 1)
  let L3 := L2.take c ++ L2.drop (c + 1)
  [(L0[a]?).getD 0] ++ [(L1[b]?).getD 0] ++ [(L2[c]?).getD 0] ++ [(L3[d]?).getD 0]
theorem exOrd_P (n : Int) : exOrd n = exP (n.fmod 3).toNat ((n.fdiv 3).fmod 3).toNat (((n.fdiv 3).fdiv 3).fmod 2).toNat ((((n.fdiv 3).fdiv 3).fdiv 2).fmod 1).toNat := by
  unfold exOrd exP
  simp only [exS, List.nil_append, List.getElem?_cons_zero, List.getElem?_cons_succ, Option.getD_some]
theorem exP_all (P : List Nat → Bool) (hP : ((List.range 3).all fun a => (List.range 3).all fun b => (List.range 2).all fun c => P (exP a b c 0)) = true) (n : Int) : P (exOrd n) = true := by
  rw [exOrd_P]
  have e4 : ((((n.fdiv 3).fdiv 3).fdiv 2).fmod 1).toNat = 0 := by
    have h1 := Int.fmod_nonneg_of_pos (((n.fdiv 3).fdiv 3).fdiv 2) (show (0 : Int) < 1 by decide)
    have h2 := Int.fmod_lt_of_pos (((n.fdiv 3).fdiv 3).fdiv 2) (show (0 : Int) < 1 by decide)
    omega
  have r : ∀ (x k : Int), 0 < k → (x.fmod k).toNat < k.toNat := fun x k hk => by
    have h1 := Int.fmod_nonneg_of_pos x hk
    have h2 := Int.fmod_lt_of_pos x hk
    omega
  rw [e4]
  have h1 := List.all_eq_true.mp hP _ (List.mem_range.mpr (r n 3 (by decide)))
  have h2 := List.all_eq_true.mp h1 _ (List.mem_range.mpr (r (n.fdiv 3) 3 (by decide)))
  exact List.all_eq_true.mp h2 _ (List.mem_range.mpr (r ((n.fdiv 3).fdiv 3) 2 (by decide)))
theorem many_ok {i : Nat} (hi : i < 4) : 1 ≤ (([3, 3, 2, 1] : List Int)[i]?.getD 1) ∧ (([3, 3, 2, 1] : List Int)[i]?.getD 1) ≤ 4 - i := by
  rcases i with _ | _ | _ | _ | i
  · decide
  · decide
  · decide
  · decide
  · omega
theorem exS_len (n : Int) : ∀ {i : Nat}, i ≤ 4 → (exS n i).1.length = 4 - i ∧ (exS n i).2.1.length = i
  | 0, _ => ⟨rfl, rfl⟩
  | i + 1, hi => by
    obtain ⟨h1, h2⟩ := exS_len n (i := i) (by omega)
    obtain ⟨h3, h4⟩ := many_ok (i := i) (by omega)
    have h5 := Int.fmod_nonneg_of_pos (exS n i).2.2 (show 0 < (([3, 3, 2, 1] : List Int)[i]?.getD 1) by omega)
    have h6 := Int.fmod_lt_of_pos (exS n i).2.2 (show 0 < (([3, 3, 2, 1] : List Int)[i]?.getD 1) by omega)
    have hx : ((exS n i).2.2.fmod (([3, 3, 2, 1] : List Int)[i]?.getD 1)).toNat < 4 - i := by clear h1 h2; omega
    simp only [exS, List.length_append, List.length_take, List.length_drop, List.length_cons, List.length_nil]
    rw [h1, h2]
    clear h1 h2 h3 h4 h5 h6
    generalize ((exS n i).2.2.fmod (([3, 3, 2, 1] : List Int)[i]?.getD 1)).toNat = x at hx ⊢
    refine ⟨?_, rfl⟩
    rw [Nat.min_eq_left (Nat.le_of_lt hx)]
    omega
theorem exch_ok {n : Int} {c : Nat} (hc : c ∈ [97, 107, 109, 112]) : Builtin.Str.occurrences (sT (exOrd n)) (sT [c]) 0 (sT (exOrd n)).length 1 = [(exOrd n).idxOf c] ∧ ([97, 107, 109, 112] : List Nat)[(exOrd n).idxOf c]? = some (exch n c) := by
  have h := exP_all (fun l => [97, 107, 109, 112].all fun c => decide (Builtin.Str.occurrences (sT l) (sT [c]) 0 (sT l).length 1 = [l.idxOf c]) && (([97, 107, 109, 112] : List Nat)[l.idxOf c]?).isSome) (by decide +kernel) n
  have h1 := List.all_eq_true.mp h c hc
  simp only [Bool.and_eq_true, decide_eq_true_eq] at h1
  refine ⟨h1.1, ?_⟩
  obtain ⟨v, hv⟩ := Option.isSome_iff_exists.mp h1.2
  unfold exch
  rw [hv]; rfl
section
variable {w : World} {mean : ExcName → Option Value} {mg mb : Str → Option Value} {A : Around} {E : Value → Shared → Prop} {s : Shared} {Hs : List Addr}
theorem fIndex {hp : Heap} {gn : Array GenState} {dr : Drawn} {tk : Nat} {os : OsState} {y z : List Nat} {k : Nat} {ta tb : Tok} {Q : Value → Shared → Prop} (ho : Builtin.Str.occurrences (sT y) (sT z) 0 (sT y).length 1 = [k]) (h : ∀ u tk, Q (.int (k : Int) u) ⟨hp, gn, dr, tk, os⟩) :
    wpAny (model pw w) A (call (.builtin "str.index") [.str (sT y) ta, .str (sT z) tb]) Q E ⟨hp, gn, dr, tk, os⟩ := PySem.SC.index ho (h _ _)
theorem exchanged_ {l : List Nat} {n : Int} {t u : Tok} {Q : Value → Shared → Prop} (R : Rm A 2) (C : Cx w mean mg mb Hs s.heap) (hl : ∀ c ∈ l, c ∈ [97, 107, 109, 112]) (hsz : l.length ≤ 10)
    (h : ∀ h' tk' t', Keeps s.heap h' → Q (.str (sT (l.map (exch n))) t') { s with heap := h', toks := tk' }) : wpAny (model pw w) A (call (.ref 182) [.str (sT l) t, .int n u]) Q E s := by
  refine' codeS (f := 182) (binds := [(Str.ofString "word", .str (sT l) t), (Str.ofString "number", .int n u)]) C R.at0 ?ho ?hcd ?hb ?hl ?hc ?c1 ?c2 ?c3 ?h
  case ho => rfl
  case hcd => kernel_rfl
  case hb => exact BindsTo.of_eq rfl
  case hl => exact locs rfl
  case hc => decide +kernel
  case c1 => rfl
  case c2 => rfl
  case c3 => rfl
  intro L h₁ tk env hE
  obtain ⟨bd, hbd⟩ : ∃ x, x = fbody (st 14) := ⟨_, rfl⟩
  obtain ⟨sc, hsc⟩ : ∃ x, x = fscope (st 14) := ⟨_, rfl⟩
  rw [← hsc] at hE
  rw [← hbd]
  conv at hbd => rhs; whnf
  conv at hsc => rhs; whnf
  subst hbd hsc
  intro S k0 A' hA'
  have R' := R.deeper hA'
  walk_at "w"
  with_reducible refine' fListV (by assumption) ?_ ?sz
  case sz => exact (show (4 : Nat) ≤ sizeLine by decide)
  intro D2 h2 S2 k2 hD2
  walk_at "w"
  refine fForL (fun i m mu g => ∃ t1 t2 t3 t4, m = [(Str.ofString "left", Value.str (sT (exS n i).1) t1), (Str.ofString "order", Value.str (sT (exS n i).2.1) t2), (Str.ofString "number", .int (exS n i).2.2 t3), (Str.ofString "word", .str (sT l) t4)] ∧ mu = []) (fun _ _ _ _ _ _ e => e)
    (S2.lessL (m' := [(Str.ofString "left", Value.str (sT [107, 109, 112, 97]) _), (Str.ofString "order", Value.str (sT []) _), (Str.ofString "number", .int n _), (Str.ofString "word", .str (sT l) _)]) ⟨rfl, rfl, rfl, rfl, trivial⟩)
    hD2.isList R'.hh ⟨_, _, _, _, rfl, rfl⟩ ?hk ?hx ?step ?done (fun _ _ e => e)
  case hk => rw [hE.eq] <;> rfl
  case hx => rw [hE.eq] <;> rfl
  case step =>
    intro I i v m₁ mu₁ h4 tk4 oI g₁ hi k4 hj S4
    obtain ⟨t1, t2, t3, t4, rfl, rfl⟩ := hj
    obtain ⟨hi4, tv, rfl⟩ : i < 4 ∧ ∃ tv, v = .int (([3, 3, 2, 1] : List Int)[i]?.getD 1) tv := by
      rcases i with _ | _ | _ | _ | i
      · exact ⟨by decide, _, (Option.some.inj hi).symm⟩
      · exact ⟨by decide, _, (Option.some.inj hi).symm⟩
      · exact ⟨by decide, _, (Option.some.inj hi).symm⟩
      · exact ⟨by decide, _, (Option.some.inj hi).symm⟩
      · cases hi
    obtain ⟨hm1, hm2⟩ := many_ok hi4
    obtain ⟨hl1, hl2⟩ := exS_len n (i := i) (by omega)
    obtain ⟨X', hX'⟩ : ∃ X', exS n (i + 1) = X' := ⟨_, rfl⟩
    have hS := hX'
    rw [exS] at hS
    generalize (([3, 3, 2, 1] : List Int)[i]?.getD 1) = q at hm1 hm2 S4 hS
    generalize exS n i = X at hl1 hl2 S4 hS
    obtain ⟨XL, XO, XN⟩ := X
    dsimp only at hl1 hl2 S4 hS
    have h5 := Int.fmod_nonneg_of_pos XN (show 0 < q by omega)
    have h6 := Int.fmod_lt_of_pos XN (show 0 < q by omega)
    have hget : XL[(XN.fmod q).toNat]? = some ((XL[(XN.fmod q).toNat]?).getD 0) := by
      rw [List.getElem?_eq_getElem (by omega)]; rfl
    walk_at "w"
    refine fItemS h5 (by omega) hget ?_ rfl (fun _ => rfl)
    intro _ _
    walk_at "w"
    refine fAddS (by simp only [List.length_cons, List.length_nil]; rw [sizeLine_eq]; omega) ?_
    intro _ _
    walk_at "w"
    refine SlP.ns h5 (by rw [sizeLine_eq]; omega) ?_
    intro h7 u7 tk7 k7
    have S7 := Sx.keeps (by assumption) k7
    walk_at "w"
    refine SlP.sn (by omega) (by rw [sizeLine_eq]; omega) ?_
    intro h8 u8 tk8 k8
    have S8 := S7.keeps k8
    walk_at "w"
    refine fAddS (by rw [sizeLine_eq, List.length_take, List.length_drop]; omega) ?_
    intro _ _
    walk_at "w"
    rename_i hy tky SY KY
    have e9 : (XN.fmod q + 1).toNat = (XN.fmod q).toNat + 1 := by omega
    rw [e9] at SY
    refine ⟨_, _, _, _, rfl, SY.lessL (m' := [(Str.ofString "left", Value.str (sT (XL.take (XN.fmod q).toNat ++ XL.drop ((XN.fmod q).toNat + 1))) _), (Str.ofString "order", Value.str (sT (XO ++ [(XL[(XN.fmod q).toNat]?).getD 0])) _), (Str.ofString "number", .int (XN.fdiv q) _), (Str.ofString "word", .str (sT l) _)]) ⟨rfl, rfl, rfl, rfl, trivial⟩, _, _, _, _, by rw [hX', ← hS], rfl⟩
  case done =>
    intro h' tk m' mu' S1 k1 hj
    obtain ⟨t1, t2, t3, t4, rfl, rfl⟩ := hj
    walk_at "w"
    rename_i tk5
    have hjS := S1
    have hO : (exS n 4).2.1 = exOrd n := rfl
    refine evalComp ?hok ?hkind ?hnames ?hs ?_
    case hok => rw [hE.eq] <;> rfl
    case hkind => rfl
    case hnames => decide +kernel
    case hs => intro _; rfl
    walk_at "w"
    refine compS (mf := [(Str.ofString "order", Value.str (sT (exOrd n)) t2)]) S1 R'.hh ?hmf ?hok ?hnd rfl (.inl rfl) ?hxm ?hsz (fun i ys g => ys.length = i ∧ ∀ (j : Nat) v, ys[j]? = some v → ∃ t y, v = Value.str (sT y) t ∧ (l.map fun c => [exch n c])[j]? = some y) (fun _ _ _ _ _ e => e) ⟨rfl, fun j v hv => by cases hv⟩ (step0 ?stp) (fRrV S1 (fun _ _ _ _ e => e) ?fin)
    case hmf => intro q hq; rw [List.mem_singleton.mp hq]; exact ⟨rfl, rfl⟩
    case hok => rw [hE.eq] <;> rfl
    case hnd => decide +kernel
    case hxm => intro q hq; rw [List.mem_singleton.mp hq]; show Str.ofString "order" ≠ Str.ofString "letter"; decide
    case hsz => rw [sizeLine_eq]; simp; omega
    case stp =>
      intro i v ys h8 tk8 C cenv Hc hi hv hcenv k8 hj hle S8
      obtain ⟨c, tc, hc, rfl⟩ := hv
      have hE2 := hcenv
      rw [hE.eq] at hE2
      have hcl : l[i]? = some c := by simpa using hc
      have hcm := hl c (List.mem_of_getElem? hcl)
      obtain ⟨hx1, hx2⟩ := exch_ok (n := n) hcm
      walk_at "w"
      refine fIndex hx1 ?_
      intro _ _
      walk_at "w"
      refine fItemS (y := [97, 107, 109, 112]) (c := exch n c) (by omega) ?_ ?_ ?_ rfl (fun _ => rfl)
      · have := (List.getElem?_eq_some_iff.mp hx2).1
        have h4 : ([97, 107, 109, 112] : List Nat).length = 4 := rfl
        omega
      · rw [Int.toNat_natCast]; exact hx2
      intro uu kk
      refine ElP.intro S8 ⟨by rw [List.length_append, hj.1]; rfl, fun j v hv => ?_⟩
      by_cases hji : j < ys.length
      · rw [List.getElem?_append_left hji] at hv; exact hj.2 j v hv
      · rw [List.getElem?_append_right (by omega)] at hv
        have hj0 : j - ys.length = 0 := by
          have := (List.getElem?_eq_some_iff.mp hv).1
          simp at this; omega
        rw [hj0] at hv
        have hji' : j = i := by omega
        subst hji'
        refine ⟨uu, [exch n c], (Option.some.inj hv).symm, ?_⟩
        rw [List.getElem?_map, hcl]; rfl
    case fin =>
      intro D h8 tk8 ys S8 k8 hD hj
      walk_at "w"
      have hfl := flat1 l (exch n)
      have hsum := sum1 l (exch n)
      refine fJoin (l := l.map fun c => [exch n c]) (plV hD).isList ?_ hj.2 ?_ ?_
      · rw [hj.1, List.length_map]; simp
      · rw [hsum, sizeLine_eq]; omega
      intro uu kk
      rw [hfl]
      walk_at "w"
      exact h _ _ _ S8.back.1
end
noncomputable def thickOf (s r c : Int) : Int := r - (c.fdiv s + c.fmod s).fdiv (s - 1)
noncomputable def leadOf (s least most th c : Int) : List Nat :=
  (List.replicate (th - least).toNat ((List.replicate (s - 1).toNat [32]).flatten ++ [9])).flatten ++ (List.replicate (most - th + c.fdiv s).toNat [9]).flatten ++ (List.replicate (c.fmod s).toNat [32]).flatten
theorem fdiv_bd {a b : Int} (h0 : 0 ≤ a) (hb : 1 ≤ b) : 0 ≤ a.fdiv b ∧ a.fdiv b ≤ a := by
  rw [Int.fdiv_eq_ediv_of_nonneg _ (by omega)]
  exact ⟨Int.ediv_nonneg h0 (by omega), Int.ediv_le_self _ h0⟩
theorem thick_bd {s r c : Int} (hs : 2 ≤ s ∧ s ≤ 4) (hr : 0 ≤ r ∧ r ≤ 9) (hc : 0 ≤ c ∧ c ≤ 9) : -20 ≤ thickOf s r c ∧ thickOf s r c ≤ 20 := by
  unfold thickOf
  have h1 := fdiv_bd hc.1 (show 1 ≤ s by omega)
  have h2 := Int.fmod_nonneg_of_pos c (show 0 < s by omega)
  have h3 := Int.fmod_lt_of_pos c (show 0 < s by omega)
  have h4 := fdiv_bd (show 0 ≤ c.fdiv s + c.fmod s by omega) (show 1 ≤ s - 1 by omega)
  omega
theorem repL_len (l : List Nat) : ∀ n : Nat, (List.replicate n l).flatten.length = n * l.length
  | 0 => by simp
  | n + 1 => by rw [List.replicate_succ, List.flatten_cons, List.length_append, repL_len l n, Nat.add_mul]; omega
theorem rep1_len (c n : Nat) : (List.replicate n [c]).flatten.length = n := by rw [repL_len]; simp
section
variable {w : World} {mean : ExcName → Option Value} {mg mb : Str → Option Value} {A : Around} {E : Value → Shared → Prop} {s : Shared} {Hs : List Addr}
theorem leads_ {f g : Addr} {vf vg : List Value} {rs cs : List Int} {sz : Int} {t : Tok} {Q : Value → Shared → Prop} (R : Rm A 2) (C : Cx w mean mg mb Hs s.heap)
    (hf : (hideAll s.heap Hs).IsList f vf.toArray) (hg : (hideAll s.heap Hs).IsList g vg.toArray) (hvf : IntL vf rs) (hvg : IntL vg cs) (hlen : rs.length = cs.length) (h1 : 1 ≤ rs.length) (h10 : rs.length ≤ 10)
    (hrs : ∀ r ∈ rs, 0 ≤ r ∧ r ≤ 9) (hcs : ∀ c ∈ cs, 0 ≤ c ∧ c ≤ 9) (hs : 2 ≤ sz ∧ sz ≤ 4)
    (h : ∀ h' tk' D vs least most, Keeps s.heap h' → (hideAll h' Hs).PlainList D vs.toArray → StrL vs (List.zipWith (leadOf sz least most) (List.zipWith (thickOf sz) rs cs) cs) →
      (least ∈ List.zipWith (thickOf sz) rs cs ∧ ∀ a ∈ List.zipWith (thickOf sz) rs cs, least ≤ a) → (most ∈ List.zipWith (thickOf sz) rs cs ∧ ∀ a ∈ List.zipWith (thickOf sz) rs cs, a ≤ most) → Q (.ref D) { s with heap := h', toks := tk' }) :
    wpAny (model pw w) A (call (.ref 189) [.ref f, .ref g, .int sz t]) Q E s := by
  refine' codeS (f := 189) (binds := [(Str.ofString "firsts", .ref f), (Str.ofString "seconds", .ref g), (Str.ofString "wide", .int sz t)]) C R.at0 ?ho ?hcd ?hb ?hl ?hc ?c1 ?c2 ?c3 ?h
  case ho => rfl
  case hcd => kernel_rfl
  case hb => exact BindsTo.of_eq rfl
  case hl => exact locs rfl
  case hc => decide +kernel
  case c1 => rfl
  case c2 => rfl
  case c3 => rfl
  intro L h₁ tk env hE
  obtain ⟨bd, hbd⟩ : ∃ x, x = fbody (st 15) := ⟨_, rfl⟩
  obtain ⟨sc, hsc⟩ : ∃ x, x = fscope (st 15) := ⟨_, rfl⟩
  rw [← hsc] at hE
  rw [← hbd]
  conv at hbd => rhs; whnf
  conv at hsc => rhs; whnf
  subst hbd hsc
  intro S k0 A' hA'
  have R' := R.deeper hA'
  replace hf := hf.at fun o e => k0 _ _ e
  replace hg := hg.at fun o e => k0 _ _ e
  have hlf := hvf.len
  have hlg := hvg.len
  walk_at "w"
  with_reducible refine' fListM S ?_ ?sz
  case sz => exact (show (0 : Nat) ≤ sizeLine by decide)
  intro D1 h2 S2 k2
  replace hf := hf.at fun o e => k2 _ _ e
  replace hg := hg.at fun o e => k2 _ _ e
  walk_at "w"
  rename_i h3 tk3 S3 K3
  replace hf := hf.at fun o e => K3 _ _ e
  replace hg := hg.at fun o e => K3 _ _ e
  refine fLenL (hf.at fun o e => vis_self _ _ e) (by rw [sizeLine_eq]; omega) ?_
  intro _ _
  walk_at "w"
  refine fRng1 S3 ?_
  intro r4 h4 tk4 u4 u4' S4 k4 hr4
  replace hf := hf.at fun o e => k4 _ _ e
  replace hg := hg.at fun o e => k4 _ _ e
  walk_at "w"
  refine fForR (n := rs.length) (fun i m mu _ => ∃ ys, m = [(Str.ofString "thick", Value.ref D1), (Str.ofString "firsts", Value.ref f), (Str.ofString "seconds", .ref g), (Str.ofString "wide", .int sz t)] ∧ mu = [(D1, listP ys)] ∧ IntL ys ((List.zipWith (thickOf sz) rs cs).take i)) (fun _ _ _ _ _ _ e => e)
    (S4.lessL (m' := [(Str.ofString "thick", Value.ref D1), (Str.ofString "firsts", Value.ref f), (Str.ofString "seconds", .ref g), (Str.ofString "wide", .int sz t)]) ⟨rfl, rfl, rfl, rfl, trivial⟩)
    hr4 (by omega) (by omega) R'.hh ⟨_, rfl, rfl, ValL.nil⟩ ?hk ?hx ?step ?done (fun _ _ e => e)
  case hk => rw [hE.eq] <;> rfl
  case hx => rw [hE.eq] <;> rfl
  case step =>
    intro I i ts m₁ mu₁ h5 tk5 oI g₁ hi k5 hj S5
    obtain ⟨ys, rfl, rfl, hys⟩ := hj
    rw [Int.zero_add] at S5
    have hf5 := hf.at fun o e => k5 _ _ e
    have hg5 := hg.at fun o e => k5 _ _ e
    have hr := List.getElem?_eq_getElem hi
    have hc := List.getElem?_eq_getElem (show i < cs.length by omega)
    have hrb := hrs _ (List.getElem_mem hi)
    have hcb := hcs _ (List.getElem_mem (show i < cs.length by omega))
    generalize rs[i] = r at hr hrb
    generalize cs[i]'(by omega) = c at hc hcb
    obtain ⟨tr, hr'⟩ := hvf.get hr
    obtain ⟨tc, hc'⟩ := hvg.get hc
    walk_at "w"
    have S6 := S5.swap
    refine getM_append (ownL S6) ?_
    dsimp only
    walk_at "w"
    refine fItemL (hf5.at fun o e => vis_self _ _ e) (by omega) (by omega) hr' ?_ rfl (fun _ => rfl)
    walk_at "w"
    refine fItemL (hg5.at fun o e => vis_self _ _ e) (by omega) (by omega) hc' ?_ rfl (fun _ => rfl)
    walk_at "w"
    refine fItemL (hg5.at fun o e => vis_self _ _ e) (by omega) (by omega) hc' ?_ rfl (fun _ => rfl)
    walk_at "w"
    have hyl := hys.len
    rw [List.length_take] at hyl
    refine fAppM S6 (by rw [sizeLine_eq]; omega) ?_
    intro h7 S7 k7
    walk_at "w"
    have hth : (List.zipWith (thickOf sz) rs cs)[i]? = some (thickOf sz r c) := by rw [List.getElem?_zipWith, hr, hc]
    refine ⟨_, _, _, _, rfl, S7.swap.lessL (m' := [(Str.ofString "thick", Value.ref D1), (Str.ofString "firsts", Value.ref f), (Str.ofString "seconds", .ref g), (Str.ofString "wide", .int sz t)]) ⟨rfl, rfl, rfl, rfl, trivial⟩, _, rfl, rfl, ?_⟩
    rw [take_snoc hth]
    exact hys.snoc rfl
  case done =>
    intro h8 tk8 m' mu' S8 k8 hj
    obtain ⟨ys, rfl, rfl, hys⟩ := hj
    rw [List.take_of_length_le (by rw [List.length_zipWith]; omega)] at hys
    have hys0 := hys
    replace hf := hf.at fun o e => k8 _ _ e
    replace hg := hg.at fun o e => k8 _ _ e
    obtain ⟨hD1, S9, k9⟩ := S8.doneL
    replace hf := hf.at fun o e => k9 _ _ e
    replace hg := hg.at fun o e => k9 _ _ e
    have hthl : (List.zipWith (thickOf sz) rs cs).length = rs.length := by rw [List.length_zipWith]; omega
    have hthb : ∀ a ∈ List.zipWith (thickOf sz) rs cs, -20 ≤ a ∧ a ≤ 20 := fun a ha => by
      obtain ⟨i, hi, e⟩ := List.mem_iff_getElem.mp ha
      rw [List.length_zipWith] at hi
      rw [List.getElem_zipWith] at e
      rw [← e]
      exact thick_bd hs (hrs _ (List.getElem_mem _)) (hcs _ (List.getElem_mem _))
    generalize hth : List.zipWith (thickOf sz) rs cs = th at *
    walk_at "w"
    refine fMinL R'.hh (plV hD1).isList hys (by omega) ?_
    intro h10 least u10 tk10 k10 hle1 hle2
    have S10 := S9.keeps k10
    replace hf := hf.at fun o e => vis_keeps k10 _ _ e
    replace hg := hg.at fun o e => vis_keeps k10 _ _ e
    replace hD1 := plK hD1 (vis_keeps k10)
    walk_at "w"
    rename_i h11 tk11 S11 K11
    replace hf := hf.at fun o e => K11 _ _ e
    replace hg := hg.at fun o e => K11 _ _ e
    replace hD1 := plK hD1 K11
    refine fMaxL R'.hh (plV hD1).isList hys (by omega) ?_
    intro h12 most u12 tk12 k12 hmo1 hmo2
    have S12 := S11.keeps k12
    replace hf := hf.at fun o e => vis_keeps k12 _ _ e
    replace hg := hg.at fun o e => vis_keeps k12 _ _ e
    replace hD1 := plK hD1 (vis_keeps k12)
    have hlb := hthb _ hle1
    have hmb := hthb _ hmo1
    walk_at "w"
    rename_i h13 tk13 S13 K13
    replace hf := hf.at fun o e => K13 _ _ e
    replace hg := hg.at fun o e => K13 _ _ e
    replace hD1 := plK hD1 K13
    with_reducible refine' fListM S13 ?_ ?sz
    case sz => exact (show (0 : Nat) ≤ sizeLine by decide)
    intro D2 h14 S14 k14
    replace hf := hf.at fun o e => k14 _ _ e
    replace hg := hg.at fun o e => k14 _ _ e
    replace hD1 := plK hD1 k14
    walk_at "w"
    rename_i h15 tk15 S15 K15
    replace hf := hf.at fun o e => K15 _ _ e
    replace hg := hg.at fun o e => K15 _ _ e
    replace hD1 := plK hD1 K15
    refine fLenL (hf.at fun o e => vis_self _ _ e) (by rw [sizeLine_eq]; omega) ?_
    intro _ _
    walk_at "w"
    refine fRng1 S15 ?_
    intro r16 h16 tk16 u16 u16' S16 k16 hr16
    replace hf := hf.at fun o e => k16 _ _ e
    replace hg := hg.at fun o e => k16 _ _ e
    replace hD1 := plK hD1 k16
    walk_at "w"
    refine fForR (n := rs.length) (fun i m mu _ => ∃ ys, m = [(Str.ofString "leads", Value.ref D2), (Str.ofString "most", Value.int most u12), (Str.ofString "least", Value.int least u10), (Str.ofString "thick", Value.ref D1), (Str.ofString "seconds", .ref g), (Str.ofString "wide", .int sz t)] ∧ mu = [(D2, listP ys)] ∧ StrL ys ((List.zipWith (leadOf sz least most) th cs).take i)) (fun _ _ _ _ _ _ e => e)
      (S16.lessL (m' := [(Str.ofString "leads", Value.ref D2), (Str.ofString "most", Value.int most u12), (Str.ofString "least", Value.int least u10), (Str.ofString "thick", Value.ref D1), (Str.ofString "seconds", .ref g), (Str.ofString "wide", .int sz t)]) ⟨rfl, rfl, rfl, rfl, rfl, rfl, trivial⟩)
      hr16 (by omega) (by omega) R'.hh ⟨_, rfl, rfl, ValL.nil⟩ ?hk ?hx ?step ?done (fun _ _ e => e)
    case hk => rw [hE.eq] <;> rfl
    case hx => rw [hE.eq] <;> rfl
    case step =>
      intro I i ts m₁ mu₁ h5 tk5 oI g₁ hi k5 hj S5
      obtain ⟨ys, rfl, rfl, hys⟩ := hj
      rw [Int.zero_add] at S5
      have hg5 := hg.at fun o e => k5 _ _ e
      have hD5 := plK hD1 k5
      have ht := List.getElem?_eq_getElem (show i < th.length by omega)
      have hc := List.getElem?_eq_getElem (show i < cs.length by omega)
      have htb := hthb _ (List.getElem_mem (show i < th.length by omega))
      have htl := hle2 _ (List.getElem_mem (show i < th.length by omega))
      have htm := hmo2 _ (List.getElem_mem (show i < th.length by omega))
      have hcb := hcs _ (List.getElem_mem (show i < cs.length by omega))
      generalize th[i]'(by omega) = x at ht htb htl htm
      generalize cs[i]'(by omega) = c at hc hcb
      obtain ⟨tr, hr'⟩ := hys0.get ht
      obtain ⟨tc, hc'⟩ := hvg.get hc
      have hq := fdiv_bd hcb.1 (show 1 ≤ sz by omega)
      have he1 := Int.fmod_nonneg_of_pos c (show 0 < sz by omega)
      have he2 := Int.fmod_lt_of_pos c (show 0 < sz by omega)
      walk_at "w"
      refine fMulS (y := [32]) (by omega) (by omega) (by decide) ?_
      intro _ _
      walk_at "w"
      refine fAddS (z := [9]) (by rw [rep1_len, sizeLine_eq]; simp; omega) ?_
      intro _ _
      walk_at "w"
      refine fItemL (plV hD5).isList (by omega) (by omega) hr' ?_ rfl (fun _ => rfl)
      walk_at "w"
      have hbl : ((List.replicate (sz - 1).toNat [32]).flatten ++ [9]).length ≤ 4 := by rw [List.length_append, rep1_len]; simp; omega
      refine fMulS (by omega) (by omega) (by omega) ?_
      intro _ _
      have hcl : (List.replicate (x - least).toNat ((List.replicate (sz - 1).toNat [32]).flatten ++ [9])).flatten.length ≤ 160 := by
        rw [repL_len]
        have : (x - least).toNat ≤ 40 := by omega
        exact Nat.le_trans (Nat.mul_le_mul this hbl) (by decide)
      walk_at "w"
      rename_i h6 tk6 S6 K6
      have hD6 := plK hD5 K6
      have hg6 := hg5.at fun o e => K6 _ _ e
      have S7 := S6.swap
      refine getM_append (ownL S7) ?_
      dsimp only
      walk_at "w"
      refine fItemL (plV hD6).isList (by omega) (by omega) hr' ?_ rfl (fun _ => rfl)
      walk_at "w"
      refine fItemL (hg6.at fun o e => vis_self _ _ e) (by omega) (by omega) hc' ?_ rfl (fun _ => rfl)
      walk_at "w"
      refine fMulS (y := [9]) (by omega) (by omega) (by decide) ?_
      intro _ _
      walk_at "w"
      refine fAddS (by rw [rep1_len, sizeLine_eq]; omega) ?_
      intro _ _
      walk_at "w"
      refine fItemL (hg6.at fun o e => vis_self _ _ e) (by omega) (by omega) hc' ?_ rfl (fun _ => rfl)
      walk_at "w"
      refine fMulS (y := [32]) (by omega) (by omega) (by decide) ?_
      intro _ _
      refine fAddS (by rw [List.length_append, rep1_len, rep1_len, sizeLine_eq]; omega) ?_
      intro _ _
      walk_at "w"
      have hyl := hys.len
      rw [List.length_take] at hyl
      refine fAppM S7 (by rw [sizeLine_eq]; omega) ?_
      intro h8 S8 k8
      walk_at "w"
      have hth2 : (List.zipWith (leadOf sz least most) th cs)[i]? = some (leadOf sz least most x c) := by rw [List.getElem?_zipWith, ht, hc]
      refine ⟨_, _, _, _, rfl, S8.swap.lessL (m' := [(Str.ofString "leads", Value.ref D2), (Str.ofString "most", Value.int most u12), (Str.ofString "least", Value.int least u10), (Str.ofString "thick", Value.ref D1), (Str.ofString "seconds", .ref g), (Str.ofString "wide", .int sz t)]) ⟨rfl, rfl, rfl, rfl, rfl, rfl, trivial⟩, _, rfl, rfl, ?_⟩
      rw [take_snoc hth2]
      exact hys.snoc rfl
    case done =>
      intro h17 tk17 m' mu' S17 k17 hj
      obtain ⟨ys, rfl, rfl, hys⟩ := hj
      rw [List.take_of_length_le (by rw [List.length_zipWith]; omega)] at hys
      obtain ⟨hD2, S18, k18⟩ := S17.doneL
      walk_at "w"
      exact h _ _ D2 _ least most S18.back.1 (plK hD2 S18.back.2) hys ⟨hle1, hle2⟩ ⟨hmo1, hmo2⟩
end
section
variable {w : World} {mean : ExcName → Option Value} {mg mb : Str → Option Value} {A : Around} {E : Value → Shared → Prop} {s : Shared} {Hs : List Addr}
structure Run (tp : List Int) (i : Nat) (d : List Int) : Prop where
  dig : ∀ x ∈ d, 0 ≤ x ∧ x < 64
  at' : ∀ j, j < d.length → ∃ x, tp[i + j]? = some x ∧ 0 ≤ x ∧ x < 256 ∧ d[j]? = some (x % 64) ∧ (64 ≤ x % 128 ↔ j + 1 < d.length)
theorem parse_ {I l : Addr} {vs : List Value} {tp d : List Int} {i : Nat} {Q : Value → Shared → Prop} (R : Rm A 2) (C : Cx w mean mg mb Hs s.heap) (hI : s.heap.IsListIter I l i) (hIH : I ∈ Hs)
    (hl : (hideAll s.heap Hs).IsList l vs.toArray) (hvs : IntL vs tp) (hd : Run tp i d) (h1 : 1 ≤ d.length) (h10 : d.length ≤ 10)
    (h : ∀ h' tk' t', (∀ b o, b ≠ I → s.heap.get? b = some o → h'.get? b = some o) → h'.IsListIter I l (i + d.length) → Q (.int (b64 d) t') { s with heap := h', toks := tk' }) :
    wpAny (model pw w) A (call (.ref 94) [.ref I]) Q E s := by
  refine' codeS (f := 94) (binds := [(Str.ofString "iterator", .ref I)]) C R.at0 ?ho ?hcd ?hb ?hl ?hc ?c1 ?c2 ?c3 ?h
  case ho => rfl
  case hcd => kernel_rfl
  case hb => exact BindsTo.of_eq rfl
  case hl => exact locs rfl
  case hc => decide +kernel
  case c1 => rfl
  case c2 => rfl
  case c3 => rfl
  intro L h₁ tk env hE
  obtain ⟨bd, hbd⟩ : ∃ x, x = fbody (st 4) := ⟨_, rfl⟩
  obtain ⟨sc, hsc⟩ : ∃ x, x = fscope (st 4) := ⟨_, rfl⟩
  rw [← hsc] at hE
  rw [← hbd]
  conv at hbd => rhs; whnf
  conv at hsc => rhs; whnf
  subst hbd hsc
  intro S k0 A' hA'
  have R' := R.deeper hA'
  obtain ⟨oI, hoI, hPI⟩ := iterP_of hI
  have S1 := S.take (P := iterP l i) hoI (List.mem_append_right _ hIH) hPI
  clear S
  replace hl := hl.at fun o e => k0 _ _ e
  obtain ⟨x0, hx0, x00, x01, hd0, hc0⟩ := hd.at' 0 (by omega)
  rw [Nat.add_zero] at hx0
  obtain ⟨tx0, hv0⟩ := hvs.get hx0
  walk_at "w"
  refine fNextM S1 hl hv0 ?_
  intro h2 S2 k2
  replace hl := hl.at fun o e => k2 _ _ e
  walk_at "w"
  rename_i ha tka Sa Ka u1 kk1 u2 kk2 h3 tk3 S3 K3
  replace hl := hl.at fun o e => K3 _ _ (Ka _ _ e)
  rw [and63] at S3
  have hb0 : x0 % 64 = b64 (d.take 1) := by
    cases d with
    | nil => simp at h1
    | cons a r => have h9 : a = x0 % 64 := by simpa using hd0
                  subst h9; show x0 % 64 = 0 * 64 + x0 % 64; omega
  rw [hb0] at S3
  refine fWhile (d.length - 1) (fun n m mu _ => ∃ j x t1 t2, m = [(Str.ofString "val", Value.int (b64 (d.take (j + 1))) t1), (Str.ofString "b", .int x t2), (Str.ofString "iterator", .ref I)] ∧ mu = [(I, iterP l (i + j + 1))] ∧ tp[i + j]? = some x ∧ j + 1 + n = d.length)
    (S3.lessL (m' := [(Str.ofString "val", Value.int (b64 (d.take 1)) _), (Str.ofString "b", .int x0 _), (Str.ofString "iterator", .ref I)]) ⟨rfl, rfl, rfl, trivial⟩) ⟨0, x0, _, _, rfl, rfl, hx0, by omega⟩ ?step
  intro n m₁ mu₁ h4 tk4 g₁ kg k4 hj S4
  obtain ⟨j, x, t1, t2, rfl, rfl, hx, hjn⟩ := hj
  obtain ⟨x', hx', hx0', hx1', hdx, hcx⟩ := hd.at' j (by omega)
  rw [hx] at hx'
  obtain rfl := Option.some.inj hx'
  replace hl := hl.at fun o e => k4 _ _ e
  refine isTrue_plain ?_ rfl
  walk_at "w"
  refine PyProof.Rows.truthy_int ?_
  have hbd := b64_bd (j + 1) (d.take (j + 1)) (by rw [List.length_take]; omega) fun z hz => hd.dig z (List.mem_of_mem_take hz)
  by_cases hc : 64 ≤ x % 128
  · have e64 : (Builtin.bitAnd x 64 != 0) = true := by
      rw [bne_iff_ne]; intro q; have := (and64 hx0' hx1').mp q; omega
    rw [e64, if_pos rfl]
    have hj2 := hcx.mp hc
    obtain ⟨y, hy, hy0, hy1, hdy, hcy⟩ := hd.at' (j + 1) hj2
    obtain ⟨ty, hvy⟩ := hvs.get hy
    walk_at "w"
    refine fIShl (by decide) (by decide) ?_ ?_
    · have : (64 : Int) ^ (j + 1) ≤ 64 ^ 10 := by
        have := Nat.pow_le_pow_right (show 0 < 64 by decide) (show j + 1 ≤ 10 by omega)
        exact_mod_cast this
      have e10 : (64 : Int) ^ 10 = 1152921504606846976 := by decide
      omega
    intro _ _
    walk_at "w"
    rename_i h5 tk5 S5 K5
    refine fNextM S5 (hl.at fun o e => K5 _ _ e) hvy ?_
    intro h6 S6 k6
    walk_at "w"
    rename_i h7 tk7 S7 K7
    rw [and63, or_digit hbd.1 (by omega) (by omega)] at S7
    refine ⟨n - 1, _, _, _, _, by omega, rfl, S7.lessL (m' := [(Str.ofString "val", Value.int (b64 (d.take (j + 1)) * 64 + y % 64) _), (Str.ofString "b", .int y _), (Str.ofString "iterator", .ref I)]) ⟨rfl, rfl, rfl, trivial⟩, j + 1, y, _, _, by rw [take_snoc hdy, b64_snoc], rfl, hy, by omega⟩
  · have e64 : (Builtin.bitAnd x 64 != 0) = false := by
      rw [bne_eq_false_iff_eq]; exact (and64 hx0' hx1').mpr (by omega)
    rw [e64, if_neg Bool.false_ne_true]
    have hjl : j + 1 = d.length := by
      have : ¬ j + 1 < d.length := fun q => hc (hcx.mpr q)
      omega
    walk_at "w"
    rw [hjl, List.take_of_length_le (Nat.le_refl _)]
    refine h _ _ _ (fun b o hb e => S4.base b o (kg b o (hideAll_get _ e fun hm => hb (List.mem_singleton.mp hm)))) ?_
    rw [← hjl]; exact S4.iter
end
section
variable {w : World} {mean : ExcName → Option Value} {mg mb : Str → Option Value} {A : Around} {E : Value → Shared → Prop} {s : Shared} {Hs : List Addr}
theorem codeSX {Q : Value → Shared → Prop} {f : Addr} {args : List Value} {binds : List (Str × Value)} {name qual : Str} {params : Arguments} {body : List Stmt} {scope : Scope} {dV kV doc pm cdv ct oc : Value} {an od : Option Addr} {osl : Array (Option Value)}
    (C : Cx w mean mg mb Hs s.heap) (hroom : A.depth < recursionLimit)
    (ho : (K w.params).lookup f = some ⟨oc, od, .func (fnOf name qual params body scope dV kV doc pm an cdv ct), osl⟩) (hcd : codeIn (K w.params) cdv qual = true)
    (hbind : BindsTo s (fnOf name qual params body scope dV kV doc pm an cdv ct) ⟨args, []⟩ binds) (hloc : ∀ y ∈ binds, scope.names.lookup y.1 = some .local)
    (hnd : ((cellsFrom 0 scope.names []).map (·.1)).Nodup) (hco : scope.isCoroutine = false) (hgen : scope.isGenerator = false) (hk : scope.kind = .function)
    (h : ∀ L h₁ tk env, IsEnv env (envX qual scope L f cdv (cellsFrom (L + 1) scope.names [])) → L = s.heap.objs.size → Sx w mean mg mb s.heap (ownOf env ++ Hs) env (ownOf env) binds.reverse [] h₁ →
      Keeps (hideAll s.heap Hs) (hideAll h₁ (ownOf env ++ Hs)) → ∀ A', A' = A.deeper env →
      wpAny (model pw w) A' (execs body env) (fun fl s' => Q (match fl with | .ret v => v | _ => .none) s')
        (fun e s' => wpAny (model pw w) A' («leaving» env e) (fun _ s'' => E e s'') (fun e' s'' => E e' s'') s') { s with heap := h₁, toks := tk }) :
    wpAny (model pw w) A (call (.ref f) args) Q E s :=
  codeSE C hroom ho hcd hbind hloc hnd hco hgen hk fun L h₁ tk hL S k => h L h₁ tk _ rfl hL S k _ rfl
theorem parse_stop {I l L₀ : Addr} {env₀ : Env} {o₀ : Obj} {vs : List Value} {i : Nat} {Q : Value → Shared → Prop} (R : Rm A 2) (C : Cx w mean mg mb Hs s.heap) (hI : s.heap.IsListIter I l i)
    (hl : (hideAll s.heap Hs).IsList l vs.toArray) (hx : vs.length ≤ i) (hfr : A.frames = some [env₀]) (hf0 : env₀.frame = some L₀) (hk0 : env₀.scope.kind ≠ .module)
    (hL0 : s.heap.get? L₀ = some o₀) (hd0 : ∀ vs, o₀.data ≠ .fields vs)
    (hE : ∀ h' tk e base, EX base h' [env₀] e .none → (∀ b o, b ≠ I → b ≠ L₀ → s.heap.get? b = some o → base.get? b = some o) → (∃ o, base.get? I = some o) → base.get? L₀ = none → (∃ sl, h'.get? L₀ = some { o₀ with slots := sl }) → E (.ref e) { s with heap := h', toks := tk }) :
    wpAny (model pw w) A (call (.ref 94) [.ref I]) Q E s := by
  refine' codeSX (f := 94) (binds := [(Str.ofString "iterator", .ref I)]) C R.at0 ?ho ?hcd ?hb ?hl ?hc ?c1 ?c2 ?c3 ?h
  case ho => rfl
  case hcd => kernel_rfl
  case hb => exact BindsTo.of_eq rfl
  case hl => exact locs rfl
  case hc => decide +kernel
  case c1 => rfl
  case c2 => rfl
  case c3 => rfl
  intro L h₁ tk env hE0 hL S k0 A' hA'
  obtain ⟨bd, hbd⟩ : ∃ x, x = fbody (st 4) := ⟨_, rfl⟩
  obtain ⟨sc, hsc⟩ : ∃ x, x = fscope (st 4) := ⟨_, rfl⟩
  rw [← hsc] at hE0
  rw [← hbd]
  conv at hbd => rhs; whnf
  conv at hsc => rhs; whnf
  subst hbd hsc
  have R' := R.deeper hA'
  walk_at "w"
  have hIs := hI
  obtain ⟨oI, hoI, hoIc, hoId⟩ := hIs
  have hLI : L₀ ≠ I := fun q => by rw [q, hoI] at hL0; cases hL0; exact hd0 _ hoId
  refine fNextStop R'.hh (hI.at fun o e => S.base _ _ e) ((hl.at fun o e => k0 _ _ e).at fun o e => vis_self _ _ e) (by simpa using hx) ?_
  intro h2 tk2 e hN
  obtain ⟨oe, ws, he, hc, hd, hw1, hw2⟩ := hN.there
  have hfresh : ∀ b o, s.heap.get? b = some o → b ≠ e ∧ b ≠ env.locals := fun b o hb => by
    refine ⟨fun q => ?_, fun q => ?_⟩
    · have := S.base b o hb; rw [q, hN.new] at this; cases this
    · have := (S.wr env.locals (List.mem_append_left _ List.mem_cons_self)).2; rw [← q, hb] at this; cases this
  have hold : ∀ b o, b ≠ I → s.heap.get? b = some o → h2.get? b = some o := fun b o hb e' => hN.keeps b o hb (S.base b o e')
  obtain ⟨oL, hoL, hdL⟩ : ∃ o, h2.get? env.locals = some o ∧ ∀ vs, o.data ≠ .fields vs := by
    obtain ⟨ml, ⟨o, es, ep, e', d, r⟩, _⟩ := S.vars.ns
    refine ⟨o, hN.keeps _ o (fun q => ?_) e', fun vs q => by rw [d] at q; cases q⟩
    have := (S.wr env.locals (List.mem_append_left _ List.mem_cons_self)).2
    rw [q, hoI] at this; cases this
  have hfrm : env.frame = some env.locals := by rw [hE0.eq] <;> rfl
  have hkm : env.scope.kind ≠ .module := by rw [hE0.eq]; exact (fun q => by cases q)
  have hA3 : A'.frames = some (env :: [env₀]) := by rw [hA']; exact Around.frames_deeper hfr
  refine exLeave (base := hideAll h2 [e, env.locals, L₀]) (outer := [env₀]) hA3 hfrm ⟨hkm, ⟨_, oL, hfrm, hideAll_none _ (by simp), hoL, hdL⟩, hk0, ⟨_, o₀, hf0, hideAll_none _ (by simp), hold _ _ hLI hL0, hd0⟩, trivial⟩
    (fun b o e' => of_hideAll _ e') (hideAll_none _ (by simp)) he hc hd hw1 hw2 ?_
  intro h3 X U
  refine hE h3 tk2 e _ X (fun b o hbI hbL e' => hideAll_get _ (hold b o hbI e') ?_) ?_ (hideAll_none _ (by simp)) (U _ _ (hold _ _ hLI hL0) hd0)
  · simp only [List.mem_cons, List.not_mem_nil, or_false, not_or]
    exact ⟨(hfresh b o e').1, (hfresh b o e').2, hbL⟩
  · obtain ⟨o, ho⟩ := hN.live
    refine ⟨o, hideAll_get _ ho ?_⟩
    simp only [List.mem_cons, List.not_mem_nil, or_false, not_or]
    exact ⟨(hfresh I _ hoI).1, (hfresh I _ hoI).2, fun q => hLI q.symm⟩
end
noncomputable def bumpC (cnt : List Int) (b : Nat) : List Int :=
  let c1 := if cnt.length ≤ b then cnt ++ List.replicate (b + 1 - cnt.length) 0 else cnt
  c1.set b ((c1[b]?).getD 0 + 1)
noncomputable def wsOne (st : Nat × Nat × List Int) (c : Nat) : Nat × Nat × List Int := if c = 32 then (st.1 + 1, st.2.1, st.2.2) else (0, st.2.1 + 1, bumpC st.2.2 st.1)
noncomputable def wsRun (l : List Nat) : Nat × Nat × List Int := l.foldl wsOne (0, 0, [])
theorem wsRun_snoc (l : List Nat) (c : Nat) : wsRun (l ++ [c]) = wsOne (wsRun l) c := by unfold wsRun; rw [List.foldl_append]; rfl
theorem bumpC_len (cnt : List Int) (b : Nat) : (bumpC cnt b).length = max cnt.length (b + 1) := by
  unfold bumpC
  simp only [List.length_set]
  split
  · rw [List.length_append, List.length_replicate]; omega
  · omega
theorem wsRun_bd : ∀ (n : Nat) (l : List Nat), l.length = n → (wsRun l).1 ≤ n ∧ (wsRun l).2.1 ≤ n ∧ (wsRun l).2.2.length ≤ n
  | 0, l, h => by rw [List.length_eq_zero_iff.mp h]; decide
  | n + 1, l, h => by
    have hne : l ≠ [] := fun e => by rw [e] at h; cases h
    obtain ⟨r, c, rfl⟩ : ∃ r c, l = r ++ [c] := ⟨l.dropLast, l.getLast hne, (List.dropLast_concat_getLast hne).symm⟩
    have ih := wsRun_bd n r (by rw [List.length_append] at h; simpa using h)
    rw [wsRun_snoc]
    unfold wsOne
    split
    · dsimp only; omega
    · dsimp only; rw [bumpC_len]; omega
theorem ValL.append {α : Type} {f : α → Tok → Value} {vs us : List Value} {as bs : List α} (x : ValL f vs as) (y : ValL f us bs) : ValL f (vs ++ us) (as ++ bs) := by
  obtain ⟨ts, rfl, rfl⟩ := x
  obtain ⟨rs, rfl, rfl⟩ := y
  exact ⟨ts ++ rs, by rw [List.map_append], by rw [List.map_append]⟩
theorem ValL.set' {α : Type} {f : α → Tok → Value} {vs : List Value} {as : List α} (x : ValL f vs as) (i : Nat) (a : α) (t : Tok) : ValL f (vs.set i (f a t)) (as.set i a) := by
  obtain ⟨ts, rfl, rfl⟩ := x
  exact ⟨ts.set i (a, t), by rw [List.map_set], by rw [List.map_set]⟩
theorem zeros_ (u : Tok) : ∀ n : Nat, IntL (List.replicate n [Value.int 0 u]).flatten (List.replicate n 0)
  | 0 => ValL.nil
  | n + 1 => by
    rw [List.replicate_succ, List.flatten_cons, List.replicate_succ]
    exact ValL.append (as := [0]) ⟨[(0, u)], rfl, rfl⟩ (zeros_ u n)
section
variable {w : World} {mean : ExcName → Option Value} {mg mb : Str → Option Value} {A : Around} {E : Value → Shared → Prop} {hp : Heap} {Hs : List Addr} {gn : Array GenState} {dr : Drawn} {tk : Nat} {os : OsState}
/-- what __init__ leaves -/
structure WsIs (g : Heap) (x : Addr) (ld : List Nat) : Prop where
  at' : ∃ fs T CT vs tb tn tt, WsAt g x fs ∧ fs.lookup (Str.ofString "n") = some (.int ld.length tn) ∧ fs.lookup (Str.ofString "nt") = some (.int (wsRun ld).2.1 tt) ∧ fs.lookup (Str.ofString "is_simple") = some (.bool (decide ((wsRun ld).2.2.length ≤ 1))) ∧
    fs.lookup (Str.ofString "norm") = some (.ref T) ∧ IsTup g T [.ref CT, .int (wsRun ld).1 tb].toArray ∧ IsTup g CT (vs : List Value).toArray ∧ IntL vs (wsRun ld).2.2 ∧
    fs.lookup (Str.ofString "longest_run_of_spaces") = none ∧ fs.lookup (Str.ofString "indent_level") = none ∧ fs.lookup (Str.ofString "less") = none
theorem Sx.exch {mean : ExcName → Option Value} {g₀ : Heap} {env : Env} {ow : List Addr} {m : List (Str × Value)} {mu : Mu} {D' D I : Addr} {zs : List Value} {PI PD : Obj → Prop} (S : Sx w mean mg mb g₀ (D' :: I :: D :: Hs) env ow m ((D', listP zs) :: (I, PI) :: (D, PD) :: mu) hp) :
    Sx w mean mg mb g₀ (I :: D' :: Hs) env ow m ((D', Mine.listW zs) :: (I, PI) :: mu) hp ∧ Keeps (hideAll hp (D' :: I :: D :: Hs)) (hideAll hp (I :: D' :: Hs)) := by
  have p1 : ([D', I, D] ++ Hs).Perm (D :: I :: D' :: Hs) := by
    have : ([D', I, D] : List Addr).Perm [D, I, D'] := (List.reverse_perm [D, I, D'])
    exact this.append_right Hs
  have p2 : ([(D', listP zs), (I, PI), (D, PD)] ++ mu : Mu).Perm ((D, PD) :: (I, PI) :: (D', listP zs) :: mu) := by
    have : ([(D', listP zs), (I, PI), (D, PD)] : Mu).Perm [(D, PD), (I, PI), (D', listP zs)] := (List.reverse_perm [(D, PD), (I, PI), (D', listP zs)])
    exact this.append_right mu
  obtain ⟨S1, k1⟩ := S.permH p1
  obtain ⟨S2, k2⟩ := (S1.perm p2).letGo
  exact ⟨S2.swap.mono (fun _ => listW_of), k1.trans k2⟩
theorem ws_ {ld rest : List Nat} {c0 : Nat} {t : Tok} {Q : Value → Shared → Prop} (R : Rm A 3) (C : Cx w mean mg mb Hs hp) (hld : ∀ c ∈ ld, c = 32 ∨ c = 9) (hc0 : c0 ≠ 32 ∧ c0 ≠ 9) (hsz : ld.length + rest.length ≤ 300)
    (h : ∀ h' k x, Keeps hp h' → WsIs (hideAll h' Hs) x ld → Q (.ref x) ⟨h', gn, dr, k, os⟩) : wpAny (model pw w) A (call (.ref 83) [.str (sT (ld ++ c0 :: rest)) t]) Q E ⟨hp, gn, dr, tk, os⟩ := by
  refine makeW (R.less (by decide)) C ?_
  intro H2 dx x A₁ C2 kH kHv hx hdx hdn hxn R₁
  refine' codeC (f := 38) (binds := [(Str.ofString "self", .ref x), (Str.ofString "ws", .str (sT (ld ++ c0 :: rest)) t)]) C2 R₁.at0 ?ho ?hcd ?hb ?hl ?hc ?c1 ?c2 ?c3 ?h
  case ho => rfl
  case hcd => kernel_rfl
  case hb => exact BindsTo.of_eq rfl
  case hl => exact locs rfl
  case hc => decide +kernel
  case c1 => rfl
  case c2 => rfl
  case c3 => rfl
  intro L h₁ tk1 env hE S0 k0 A' hA'
  obtain ⟨bd, hbd⟩ : ∃ x, x = fbody (mth 1) := ⟨_, rfl⟩
  obtain ⟨sc, hsc⟩ : ∃ x, x = fscope (mth 1) := ⟨_, rfl⟩
  rw [← hsc] at hE
  rw [← hbd]
  conv at hbd => rhs; whnf
  conv at hsc => rhs; whnf
  subst hbd hsc
  have R' := R₁.deeper hA'
  have S := S0.take (P := dictP []) hdx (List.mem_append_right _ List.mem_cons_self) ⟨[], 0, rfl, Fields.nil⟩
  clear S0
  replace hx := k0 _ _ hx
  dsimp only
  walk_at "w"
  refine fSet S hx rfl (by decide) (by kernel_rfl) ?_
  intro h2 tk2 S2 k2
  replace hx := k2 _ _ hx
  dsimp only
  walk_at "w"
  refine Assign_Tuple_swapped ?_ (by rw [hE.eq] <;> rfl) (names := [Str.ofString "S", Str.ofString "T"]) (by rw [hE.eq] <;> rfl)
  walk_at "w"
  refine fClsS S2.kin ?_
  intro _
  walk_at "w"
  refine fClsT S2.kin ?_
  intro _
  walk_at "w"
  with_reducible refine' fTup S2 ?_ ?sz
  case sz => exact (show (2 : Nat) ≤ sizeLine by decide)
  intro T0 h3 S3 k3 hT0
  replace hx := k3 _ _ hx
  refine unpTup S3 R'.hh hT0 rfl ?_
  intro h4 S4 k4
  replace hx := k4 _ _ hx
  refine assignInOrder_cons (bindName_ ?_)
  dsimp only
  walk_at "w"
  refine assignInOrder_cons (bindName_ ?_)
  walk_at "w"
  rename_i h5 tk5 S5 K5 h6 tk6 S6 K6
  replace hx := K6 _ _ (K5 _ _ hx)
  refine assignInOrder_nil ?_
  walk_at "w"
  with_reducible refine' fListM S6 ?_ ?sz
  case sz => exact (show (0 : Nat) ≤ sizeLine by decide)
  intro D h7 S7 k7
  replace hx := k7 _ _ hx
  walk_at "w"
  rename_i ha tka Sa Ka u0 kk0 hb tkb Sb Kb hc tkc Sc Kc h8 tk8 S8 K8
  replace hx := K8 _ _ (Kc _ _ (Kb _ _ (Ka _ _ hx)))
  refine fGet S8.kin (S8.swap.ws hx) rfl (by kernel_rfl) rfl ?_
  intro _
  refine fForSG (Ds := [D]) (fun i Ds m mu _ => ∃ D ys tn tb tt, Ds = [D] ∧ mu = [(D, listW ys), (dx, dictP [(Str.ofString "raw", Value.str (sT (ld ++ c0 :: rest)) t)])] ∧ m = [(Str.ofString "count", Value.ref D), (Str.ofString "b", .int (wsRun (ld.take i)).1 tb), (Str.ofString "n", .int (i : Int) tn), (Str.ofString "nt", .int (wsRun (ld.take i)).2.1 tt), (Str.ofString "S", .str (sT [32]) 209), (Str.ofString "T", .str (sT [9]) 210), (Str.ofString "self", .ref x)] ∧ IntL ys (wsRun (ld.take i)).2.2 ∧ i ≤ ld.length) (fun _ _ _ _ _ _ _ e => e)
    ((S8.mono (fun _ => listW_of)).lessL (m' := [(Str.ofString "count", Value.ref D), (Str.ofString "b", .int 0 _), (Str.ofString "n", .int 0 _), (Str.ofString "nt", .int 0 _), (Str.ofString "S", .str (sT [32]) 209), (Str.ofString "T", .str (sT [9]) 210), (Str.ofString "self", .ref x)]) ⟨rfl, rfl, rfl, rfl, rfl, rfl, rfl, trivial⟩)
    (fun d hd => by rw [List.mem_singleton.mp hd]; exact List.mem_cons_self) R'.hh ⟨D, [], _, _, _, rfl, rfl, rfl, ValL.nil, Nat.zero_le _⟩ ?hk ?hx ?step ?done (fun _ _ e => e)
  case hk => rw [hE.eq] <;> rfl
  case hx => rw [hE.eq] <;> rfl
  case done =>
    rintro Ds m mu g ⟨_, _, _, _, _, _, _, _, _, hle⟩
    rw [List.length_append, List.length_cons] at hle
    omega
  case step =>
    intro I i c tv Ds₁ m₁ mu₁ h9 tk9 oI g₁ hi kg k9 hDs hj S9
    obtain ⟨D, ys, tn, tb, tt, rfl, rfl, rfl, hys, hil⟩ := hj
    replace hx := k9 _ _ hx
    have hbd := wsRun_bd i (ld.take i) (by rw [List.length_take]; omega)
    have hsn := fun (c : Nat) (h : ld[i]? = some c) => show wsRun (ld.take (i + 1)) = wsOne (wsRun (ld.take i)) c by rw [take_snoc h, wsRun_snoc]
    obtain ⟨st, hst⟩ : ∃ st, wsRun (ld.take i) = st := ⟨_, rfl⟩
    rw [hst] at hys hbd hsn S9
    obtain ⟨sb, snt, scnt⟩ := st
    dsimp only at hys hbd hsn S9
    have hyl := hys.len
    walk_at "w"
    by_cases hlt : i < ld.length
    · rw [List.getElem?_append_left hlt] at hi
      have hs1 := hsn c hi
      rcases hld c (List.mem_of_getElem? hi) with rfl | rfl
      · rw [if_pos (by decide)]
        walk_at "w"
        rename_i hz tkz SZ KZ
        have hs2 : wsRun (ld.take (i + 1)) = (sb + 1, snt, scnt) := by rw [hs1]; rfl
        refine ⟨_, _, _, _, [D], rfl, SZ.lessL (m' := [(Str.ofString "count", Value.ref D), (Str.ofString "b", .int ((sb : Int) + 1) _), (Str.ofString "n", .int ((i : Int) + 1) _), (Str.ofString "nt", .int snt _), (Str.ofString "S", .str (sT [32]) 209), (Str.ofString "T", .str (sT [9]) 210), (Str.ofString "self", .ref x)]) ⟨rfl, rfl, rfl, rfl, rfl, rfl, rfl, trivial⟩,
          hDs, D, ys, _, _, _, rfl, rfl, by rw [hs2]; rfl, by rw [hs2]; exact hys, by omega⟩
      · rw [if_neg (by decide)]
        walk_at "w"
        rw [if_pos (by decide)]
        walk_at "w"
        rename_i hz tkz SZ KZ
        have hs2 : wsRun (ld.take (i + 1)) = (0, snt + 1, bumpC scnt sb) := by rw [hs1]; rfl
        refine fLenL SZ.swap.listW (by rw [sizeLine_eq]; omega) ?_
        intro _ _
        walk_at "w"
        by_cases hge : scnt.length ≤ sb
        · rw [if_pos (by simp; omega)]
          walk_at "w"
          rename_i u0 ku0
          with_reducible refine' fListV SZ ?_ ?sz
          case sz => exact (show (1 : Nat) ≤ sizeLine by decide)
          intro Dz h10 S10 k10 hDz
          walk_at "w"
          refine fLenL S10.swap.listW (by rw [sizeLine_eq]; omega) ?_
          intro _ _
          walk_at "w"
          refine fMulL S10 (plV hDz) (by simp) (by omega) (by omega) (show (1 : Nat) ≤ 1000 by decide) ?_
          intro Dy h11 S11 k11 hDy
          have e11 : ((sb : Int) - (ys.length : Int) + 1).toNat = sb + 1 - scnt.length := by omega
          rw [e11] at hDy
          have hzl := zeros_ u0 (sb + 1 - scnt.length)
          have hzn := hzl.len
          rw [List.length_replicate] at hzn
          refine fAddL S11 S11.swap.listW (plV hDy).isList (by rw [hzn, sizeLine_eq]; omega) ?_
          intro D' h12 S12 k12
          with_reducible refine' fSt S12 ?_ ?ka ?la
          case ka => first | rfl | ((with_reducible rename IsEnv _ _ => hE); rw [hE.eq] <;> rfl)
          case la => first | rfl | ((with_reducible rename IsEnv _ _ => hE); rw [hE.eq] <;> rfl)
          intro h13 tk13 S13 K13
          with_reducible refine wpAny_execs_nil ?_
          obtain ⟨SE, KE⟩ := S13.exch
          obtain ⟨c1, hc1⟩ : ∃ c1, c1 = if scnt.length ≤ sb then scnt ++ List.replicate (sb + 1 - scnt.length) 0 else scnt := ⟨_, rfl⟩
          have hzs : IntL (ys ++ (List.replicate (sb + 1 - scnt.length) [Value.int 0 u0]).flatten) c1 := by rw [hc1, if_pos hge]; exact hys.append hzl
          have hc1l : sb < c1.length := by rw [hc1, if_pos hge, List.length_append, List.length_replicate]; omega
          obtain ⟨v0, hv0⟩ : ∃ v, c1[sb]? = some v := ⟨_, List.getElem?_eq_getElem hc1l⟩
          obtain ⟨t0, hz0⟩ := hzs.get hv0
          have hzl2 := hzs.len
          have hc1b : c1.length ≤ 602 := by
            rw [hc1]; split
            · rw [List.length_append, List.length_replicate]; omega
            · omega
          walk_at "w"
          refine fItemL SE.listW (by omega) (by omega) (v := .int v0 t0) (by rw [Int.toNat_natCast]; exact hz0) ?_ rfl (fun _ => rfl)
          walk_at "w"
          rename_i u9 ku9
          refine fSetI SE (by omega) (by omega) (by rw [sizeLine_eq]; omega) ?_
          intro h14 S14 k14
          walk_at "w"
          rename_i hy tky SY KY
          have hb1 : bumpC scnt sb = c1.set sb (v0 + 1) := by
            unfold bumpC
            rw [← hc1]
            dsimp only
            rw [hv0]; rfl
          rw [Int.toNat_natCast] at SY
          refine ⟨_, _, _, _, [D'], rfl, SY.swap.lessL (m' := [(Str.ofString "count", Value.ref D'), (Str.ofString "b", .int 0 _), (Str.ofString "n", .int ((i : Int) + 1) _), (Str.ofString "nt", .int ((snt : Int) + 1) _), (Str.ofString "S", .str (sT [32]) 209), (Str.ofString "T", .str (sT [9]) 210), (Str.ofString "self", .ref x)]) ⟨rfl, rfl, rfl, rfl, rfl, rfl, rfl, trivial⟩,
            (fun d hd => by rw [List.mem_singleton.mp hd]; exact List.mem_cons_self), D', _, _, _, _, rfl, rfl, by rw [hs2]; rfl, ?_, by omega⟩
          rw [hs2, hb1]
          exact hzs.set' sb (v0 + 1) u9
        · rw [if_neg (by simp; omega)]
          have SE := SZ.swap
          obtain ⟨c1, hc1⟩ : ∃ c1, c1 = if scnt.length ≤ sb then scnt ++ List.replicate (sb + 1 - scnt.length) 0 else scnt := ⟨_, rfl⟩
          have hzs : IntL ys c1 := by rw [hc1, if_neg hge]; exact hys
          have hc1l : sb < c1.length := by rw [hc1, if_neg hge]; omega
          obtain ⟨v0, hv0⟩ : ∃ v, c1[sb]? = some v := ⟨_, List.getElem?_eq_getElem hc1l⟩
          obtain ⟨t0, hz0⟩ := hzs.get hv0
          have hzl2 := hzs.len
          have hc1b : c1.length ≤ 602 := by
            rw [hc1]; split
            · rw [List.length_append, List.length_replicate]; omega
            · omega
          walk_at "w"
          refine fItemL SE.listW (by omega) (by omega) (v := .int v0 t0) (by rw [Int.toNat_natCast]; exact hz0) ?_ rfl (fun _ => rfl)
          walk_at "w"
          rename_i u9 ku9
          refine fSetI SE (by omega) (by omega) (by rw [sizeLine_eq]; omega) ?_
          intro h14 S14 k14
          walk_at "w"
          rename_i hy tky SY KY
          have hb1 : bumpC scnt sb = c1.set sb (v0 + 1) := by
            unfold bumpC
            rw [← hc1]
            dsimp only
            rw [hv0]; rfl
          rw [Int.toNat_natCast] at SY
          refine ⟨_, _, _, _, [D], rfl, SY.swap.lessL (m' := [(Str.ofString "count", Value.ref D), (Str.ofString "b", .int 0 _), (Str.ofString "n", .int ((i : Int) + 1) _), (Str.ofString "nt", .int ((snt : Int) + 1) _), (Str.ofString "S", .str (sT [32]) 209), (Str.ofString "T", .str (sT [9]) 210), (Str.ofString "self", .ref x)]) ⟨rfl, rfl, rfl, rfl, rfl, rfl, rfl, trivial⟩,
            (fun d hd => by rw [List.mem_singleton.mp hd]; exact List.mem_cons_self), D, _, _, _, _, rfl, rfl, by rw [hs2]; rfl, ?_, by omega⟩
          rw [hs2, hb1]
          exact hzs.set' sb (v0 + 1) u9
    · have hie : i = ld.length := by omega
      subst hie
      rw [List.getElem?_append_right (Nat.le_refl _), Nat.sub_self] at hi
      have hc : c = c0 := (Option.some.inj hi).symm
      subst hc
      rw [if_neg (by simpa using hc0.1)]
      walk_at "w"
      rw [if_neg (by simpa using hc0.2)]
      walk_at "w"
      show wpAny (model pw w) A' (execs _ env) _ _ _
      obtain ⟨S10, k10⟩ := S9.letGo
      replace hx := k10 _ _ hx
      walk_at "w"
      refine fSet S10.swap hx rfl (show (1 : Nat) ≤ 100 by decide) (by kernel_rfl) ?_
      intro h11 tk11 S11 k11
      replace hx := k11 _ _ hx
      walk_at "w"
      refine fSet S11 hx rfl (show (2 : Nat) ≤ 100 by decide) (by kernel_rfl) ?_
      intro h12 tk12 S12 k12
      replace hx := k12 _ _ hx
      walk_at "w"
      refine fTupOf S12 S12.swap.listW (by rw [sizeLine_eq]; omega) ?_
      intro CT h13 S13 k13 hCT
      replace hx := k13 _ _ hx
      walk_at "w"
      with_reducible refine' fTup S13 ?_ ?sz
      case sz => exact (show (2 : Nat) ≤ sizeLine by decide)
      intro T h14 S14 k14 hT
      replace hx := k14 _ _ hx
      replace hCT := hCT.keeps k14
      walk_at "w"
      refine fSet S14 hx rfl (show (3 : Nat) ≤ 100 by decide) (by kernel_rfl) ?_
      intro h15 tk15 S15 k15
      replace hx := k15 _ _ hx
      replace hCT := hCT.keeps k15
      replace hT := hT.keeps k15
      walk_at "w"
      refine fLenL S15.swap.listW (by rw [sizeLine_eq]; omega) ?_
      intro _ _
      walk_at "w"
      refine fSet S15 hx rfl (show (4 : Nat) ≤ 100 by decide) (by kernel_rfl) ?_
      intro h16 tk16 S16 k16
      replace hx := k16 _ _ hx
      replace hCT := hCT.keeps k16
      replace hT := hT.keeps k16
      walk_at "w"
      rw [List.take_length] at hst
      have kk : Keeps (hideAll h16 ([D] ++ (ownOf env ++ dx :: Hs))) (hideAll h16 Hs) := vis_to (fun _ _ _ e => e) fun b hb => .inl (List.mem_append_right _ (List.mem_append_right _ (List.mem_cons_of_mem _ hb)))
      obtain ⟨od, hod, es, n, rfl, F⟩ := S16.own _ List.mem_cons_self
      refine ⟨rfl, h _ _ x (fun b o e => S16.base b o (kg b o (hideAll_get _ (kH b o e) fun hm => ?_))) ⟨_, T, CT, ys, tb, tn, tt, ⟨dx, es, n, kk _ _ hx, hideAll_get _ hod (List.nodup_cons.mp C2.nd).1, F⟩, rfl, ?_, ?_, rfl, ?_, hCT.keeps kk, ?_, rfl, rfl, rfl⟩⟩
      · rw [List.mem_singleton.mp hm, hdn] at e; cases e
      · rw [hst]; rfl
      · rw [hst]
        have e1 : decide ((ys.length : Int) ≤ 1) = decide (scnt.length ≤ 1) := by rw [hyl]; exact decide_eq_decide.mpr (by omega)
        show some (Value.bool (decide ((ys.length : Int) ≤ 1))) = _
        rw [e1]
      · rw [hst]; exact hT.keeps kk
      · rw [hst]; exact hys
end
noncomputable def longR (st : Nat × Nat × List Int) : Int := if (st.1 : Int) > (st.2.2.length : Int) - 1 then (st.1 : Int) else (st.2.2.length : Int) - 1
noncomputable def ilF (cnt : List Int) (ts : Nat) : Nat → Int
  | 0 => 0
  | k + 1 => ilF cnt ts k + (((ts + k : Nat) : Int).fdiv ts) * (cnt[ts + k]?).getD 0
noncomputable def levelF (st : Nat × Nat × List Int) (ts : Nat) : Int := st.1 + ts * (ilF st.2.2 ts (st.2.2.length - ts) + st.2.1)
section
variable {w : World} {mean : ExcName → Option Value} {mg mb : Str → Option Value} {A : Around} {E : Value → Shared → Prop} {hp : Heap} {Hs : List Addr} {gn : Array GenState} {dr : Drawn} {tk : Nat} {os : OsState}
theorem WsIs.keeps {g g' : Heap} {x : Addr} {ld : List Nat} (W : WsIs g x ld) (k : Keeps g g') : WsIs g' x ld := by
  obtain ⟨fs, T, CT, vs, tb, tn, tt, h1, h2, h3, h4, h5, h6, h7, h8⟩ := W.at'
  exact ⟨fs, T, CT, vs, tb, tn, tt, h1.keeps k, h2, h3, h4, h5, h6.keeps k, h7.keeps k, h8⟩
theorem fMulI {a b : Int} {ta tb : Tok} {Q : Value → Shared → Prop} (h0 : -(2 ^ 64) < a) (h1 : a < 2 ^ 64) (h : ∀ u k, Q (.int (a * b) u) ⟨hp, gn, dr, k, os⟩) : wpAny (model pw w) A (binaryOp .Mult (.int a ta) (.int b tb)) Q E ⟨hp, gn, dr, tk, os⟩ :=
  PyProof.Rows.mul_int (h _ _) (IntMulOk.of_left (PySem.intBits_le_64 h0 h1))
theorem fAsgTup {g₀ : Heap} {env : Env} {ow : List Addr} {m : List (Str × Value)} {mu : Mu} {vs : List Value} {elts : List Expr} {k : Nat} {tpos : Pos} {t : Addr} {Q : Unit → Shared → Prop} (S : Sx w mean mg mb g₀ Hs env ow m mu hp) (hh : A.handled = none) (ht : IsTup (hideAll hp Hs) t vs.toArray)
    (hn : (assignEach elts env).length = vs.length) (hstar : (assignEach elts env).findIdx? (·.1) = none)
    (h : ∀ h', Sx w mean mg mb g₀ Hs env ow m mu h' → Keeps (hideAll hp Hs) (hideAll h' Hs) → wpAny (model pw w) A (assignInOrder ((assignEach elts env).map (·.2)) vs) Q E ⟨h', gn, dr, tk, os⟩) :
    wpAny (model pw w) A (assign (.Tuple elts k tpos) env (.ref t)) Q E ⟨hp, gn, dr, tk, os⟩ := asgTup (s := ⟨hp, gn, dr, tk, os⟩) S hh ht hn hstar h
theorem fLenT {a : Addr} {vs : List Value} {Q : Value → Shared → Prop} (ht : IsTup hp a vs.toArray) (hsz : vs.length ≤ 1000) (h : ∀ u k, Q (.int vs.length u) ⟨hp, gn, dr, k, os⟩) : wpAny (model pw w) A (call (.builtin "len") [.ref a]) Q E ⟨hp, gn, dr, tk, os⟩ := by
  refine PyProof.Rows.len_tuple ht ?_ ?_
  · simp; omega
  · simpa using h _ _
theorem fItemT {a : Addr} {vs : List Value} {k : Int} {v : Value} {u : Tok} {value slice : Expr} {Q : Value → Shared → Prop} (ht : IsTup hp a vs.toArray) (h0 : 0 ≤ k) (hhi : k < 2 ^ 63) (hx : vs[k.toNat]? = some v) (h : Q v ⟨hp, gn, dr, tk, os⟩)
    (hs : subscripted slice false (.ref a) (.int k u) = operate [.ref a, .int k u] (getItem (.ref a) (.int k u))) (hg : ∀ r, letTemporaryGo value (.ref a) r = pure ()) : wpAny (model pw w) A (subscriptTail value slice (.ref a) (.int k u)) Q E ⟨hp, gn, dr, tk, os⟩ := by
  refine itemT (j := k.toNat) ht (by omega) hhi ?_ hx h hs hg
  have hlt := (List.getElem?_eq_some_iff.mp hx).1
  unfold seqIndex?
  have h1 : (0 ≤ (if k < 0 then k + vs.length else k) && (if k < 0 then k + (vs.length : Int) else k) < vs.length) = true := by
    rw [if_neg (by omega)]; simp; omega
  simp only [h1, if_true]
  rw [if_neg (by omega)]
theorem longrun_ {x : Addr} {ld : List Nat} {Q : Value → Shared → Prop} (R : Rm A 1) (C : Cx w mean mg mb Hs hp) (W : WsIs (hideAll hp Hs) x ld) (hsz : ld.length ≤ 300)
    (h : ∀ h' k u, Keeps hp h' → Q (.int (longR (wsRun ld)) u) ⟨h', gn, dr, k, os⟩) : wpAny (model pw w) A (call (.ref 45) [.ref x]) Q E ⟨hp, gn, dr, tk, os⟩ := by
  refine' codeS (f := 45) (binds := [(Str.ofString "self", .ref x)]) C R.at0 ?ho ?hcd ?hb ?hl ?hc ?c1 ?c2 ?c3 ?h
  case ho => rfl
  case hcd => kernel_rfl
  case hb => exact BindsTo.of_eq rfl
  case hl => exact locs rfl
  case hc => decide +kernel
  case c1 => rfl
  case c2 => rfl
  case c3 => rfl
  intro L h₁ tk1 env hE S k0 A' hA'
  obtain ⟨bd, hbd⟩ : ∃ x, x = fbody (mth 2) := ⟨_, rfl⟩
  obtain ⟨sc, hsc⟩ : ∃ x, x = fscope (mth 2) := ⟨_, rfl⟩
  rw [← hsc] at hE
  rw [← hbd]
  conv at hbd => rhs; whnf
  conv at hsc => rhs; whnf
  subst hbd hsc
  have R' := R.deeper hA'
  obtain ⟨fs, T, CT, vs, tb, tn, tt, h1, h2, h3, h4, h5, h6, h7, h8, h9⟩ := (W.keeps k0).at'
  have hbd := wsRun_bd _ ld rfl
  have hvl := h8.len
  generalize wsRun ld = st at *
  dsimp only
  walk_at "w"
  refine fGet S.kin (h1.keeps vis_self) h5 (by kernel_rfl) rfl ?_
  intro _
  refine fAsgTup S R'.hh h6 rfl rfl ?_
  intro h2' S2 k2
  replace h7 := h7.keeps k2
  refine assignInOrder_cons (wpAny_assign_Name ?_)
  walk_at "w"
  refine assignInOrder_cons (wpAny_assign_Name ?_)
  walk_at "w"
  rename_i ha tka Sa Ka hb tkb Sb Kb
  replace h7 := (h7.keeps Ka).keeps Kb
  refine assignInOrder_nil ?_
  walk_at "w"
  refine fLenT (h7.keeps vis_self) (by omega) ?_
  intro _ _
  walk_at "w"
  refine fMax2 R'.hh ?_
  intro hc uc kc kcc
  walk_at "w"
  have Sc := Sb.keeps kcc
  have e : (if (st.1 : Int) > (vs.length : Int) - 1 then (st.1 : Int) else (vs.length : Int) - 1) = longR st := by rw [hvl]; rfl
  rw [e]
  exact h _ _ _ Sc.back.1
theorem level_ {x : Addr} {ld : List Nat} {ts : Nat} {t : Tok} {Q : Value → Shared → Prop} (R : Rm A 1) (C : Cx w mean mg mb Hs hp) (W : WsIs (hideAll hp Hs) x ld) (hsz : ld.length ≤ 300) (hts : 2 ≤ ts) (hts2 : ts ≤ 400)
    (h : ∀ h' k u, Keeps hp h' → Q (.int (levelF (wsRun ld) ts) u) ⟨h', gn, dr, k, os⟩) : wpAny (model pw w) A (call (.ref 52) [.ref x, .int (ts : Int) t]) Q E ⟨hp, gn, dr, tk, os⟩ := by
  refine' codeS (f := 52) (binds := [(Str.ofString "self", .ref x), (Str.ofString "tabsize", .int (ts : Int) t)]) C R.at0 ?ho ?hcd ?hb ?hl ?hc ?c1 ?c2 ?c3 ?h
  case ho => rfl
  case hcd => kernel_rfl
  case hb => exact BindsTo.of_eq rfl
  case hl => exact locs rfl
  case hc => decide +kernel
  case c1 => rfl
  case c2 => rfl
  case c3 => rfl
  intro L h₁ tk1 env hE S k0 A' hA'
  obtain ⟨bd, hbd⟩ : ∃ x, x = fbody (mth 3) := ⟨_, rfl⟩
  obtain ⟨sc, hsc⟩ : ∃ x, x = fscope (mth 3) := ⟨_, rfl⟩
  rw [← hsc] at hE
  rw [← hbd]
  conv at hbd => rhs; whnf
  conv at hsc => rhs; whnf
  subst hbd hsc
  have R' := R.deeper hA'
  obtain ⟨fs, T, CT, vs, tb, tn, tt, h1, h2, h3, h4, h5, h6, h7, h8, h9⟩ := (W.keeps k0).at'
  have hbd := wsRun_bd _ ld rfl
  have hvl := h8.len
  generalize wsRun ld = st at *
  dsimp only
  walk_at "w"
  refine fGet S.kin (h1.keeps vis_self) h5 (by kernel_rfl) rfl ?_
  intro _
  refine fAsgTup S R'.hh h6 rfl rfl ?_
  intro h2' S2 k2
  replace h7 := h7.keeps k2
  replace h1 := h1.keeps k2
  refine assignInOrder_cons (wpAny_assign_Name ?_)
  walk_at "w"
  refine assignInOrder_cons (wpAny_assign_Name ?_)
  walk_at "w"
  rename_i ha tka Sa Ka hb tkb Sb Kb
  replace h7 := (h7.keeps Ka).keeps Kb
  replace h1 := (h1.keeps Ka).keeps Kb
  refine assignInOrder_nil ?_
  walk_at "w"
  rename_i u3 kk3 h3' tk3 S3 K3
  replace h7 := h7.keeps K3
  replace h1 := h1.keeps K3
  refine fLenT (h7.keeps vis_self) (by omega) ?_
  intro _ _
  walk_at "w"
  refine fRng2 S3 ?_
  intro D h4' tk4 u4 S4 k4 hr
  replace h7 := h7.keeps k4
  replace h1 := h1.keeps k4
  walk_at "w"
  refine fForR (n := st.2.2.length - ts) (fun i m mu _ => ∃ t1, m = [(Str.ofString "il", Value.int (ilF st.2.2 ts i) t1), (Str.ofString "count", .ref CT), (Str.ofString "trailing", .int (st.1 : Int) tb), (Str.ofString "tabsize", .int (ts : Int) t), (Str.ofString "self", .ref x)] ∧ mu = []) (fun _ _ _ _ _ _ e => e)
    (S4.lessL (m' := [(Str.ofString "il", Value.int 0 _), (Str.ofString "count", .ref CT), (Str.ofString "trailing", .int (st.1 : Int) tb), (Str.ofString "tabsize", .int (ts : Int) t), (Str.ofString "self", .ref x)]) ⟨rfl, rfl, rfl, rfl, rfl, trivial⟩)
    hr (by omega) (by omega) R'.hh ⟨_, rfl, rfl⟩ ?hk ?hx ?step ?done (fun _ _ e => e)
  case hk => rw [hE.eq] <;> rfl
  case hx => rw [hE.eq] <;> rfl
  case step =>
    intro I i tv m₁ mu₁ h5' tk5 oI g₁ hi k5 hj S5
    obtain ⟨t1, rfl, rfl⟩ := hj
    have hlt : ts + i < st.2.2.length := by omega
    have hc := List.getElem?_eq_getElem hlt
    generalize st.2.2[ts + i] = c at hc
    obtain ⟨tc, hc'⟩ := h8.get hc
    have hq := fdiv_bd (show (0 : Int) ≤ (ts : Int) + (i : Int) by omega) (show (1 : Int) ≤ (ts : Int) by omega)
    walk_at "w"
    refine fItemT (h7.keeps k5 |>.keeps vis_self) (by omega) (by omega) (v := .int c tc) (by rw [show ((ts : Int) + (i : Int)).toNat = ts + i by omega]; exact hc') ?_ rfl (fun _ => rfl)
    refine fMulI (by omega) (by omega) ?_
    intro _ _
    walk_at "w"
    rename_i hy tky SY KY
    have this : ilF st.2.2 ts (i + 1) = ilF st.2.2 ts i + ((ts : Int) + (i : Int)).fdiv ts * c := by
      show ilF st.2.2 ts i + (((ts + i : Nat) : Int).fdiv ts) * (st.2.2[ts + i]?).getD 0 = _
      rw [hc]; rfl
    refine ⟨_, _, _, _, rfl, SY.lessL (m' := [(Str.ofString "il", Value.int (ilF st.2.2 ts i + ((ts : Int) + (i : Int)).fdiv ts * c) _), (Str.ofString "count", .ref CT), (Str.ofString "trailing", .int (st.1 : Int) tb), (Str.ofString "tabsize", .int (ts : Int) t), (Str.ofString "self", .ref x)]) ⟨rfl, rfl, rfl, rfl, rfl, trivial⟩, _, by rw [this], rfl⟩
  case done =>
    intro h6' tk6 m' mu' S6 k6 hj
    obtain ⟨t1, rfl, rfl⟩ := hj
    replace h1 := h1.keeps k6
    walk_at "w"
    refine fGet S6.kin (h1.keeps vis_self) h3 (by kernel_rfl) rfl ?_
    intro _
    walk_at "w"
    refine fMulI (by omega) (by omega) ?_
    intro _ _
    walk_at "w"
    exact h _ _ _ S6.back.1
end
noncomputable def levN (l1 l2 : List Nat) : Nat := ((if longR (wsRun l2) > longR (wsRun l1) then longR (wsRun l2) else longR (wsRun l1)) + 1 + 1 - 2).toNat
noncomputable def lessF (l1 l2 : List Nat) : Bool :=
  if l2.length ≤ l1.length then false
  else if (wsRun l1).2.2.length ≤ 1 ∧ (wsRun l2).2.2.length ≤ 1 then decide ((wsRun l1).2.1 ≤ (wsRun l2).2.1)
  else (List.range (levN l1 l2)).all fun j => decide (levelF (wsRun l1) (2 + j) < levelF (wsRun l2) (2 + j))
theorem longR_bd {l : List Nat} (h : l.length ≤ 300) : -1 ≤ longR (wsRun l) ∧ longR (wsRun l) ≤ 300 := by
  have := wsRun_bd _ l rfl
  unfold longR; split <;> omega
section
variable {w : World} {mean : ExcName → Option Value} {mg mb : Str → Option Value} {A : Around} {E : Value → Shared → Prop} {hp : Heap} {Hs : List Addr} {gn : Array GenState} {dr : Drawn} {tk : Nat} {os : OsState}
theorem cwK0 {env : Env} {g₀ : Heap} {ow : List Addr} {m : List (Str × Value)} {mu : Mu} {f : Addr} {first : List Value} {pos : Pos} {s : Shared} {Q : Value → Shared → Prop} (ho : ((K w.params).lookup f).any Mine.isFn = true) (S : Sx w mean mg mb g₀ Hs env ow m mu s.heap)
    (h : wpAny (model pw w) A (call (.ref f) first) Q E s) : wpAny (model pw w) A (callWith pos (.ref f) first (backTo pos (starEach [] env)) []) Q E s := by
  obtain ⟨o, ho, hf⟩ : ∃ o, (K w.params).lookup f = some o ∧ Mine.isFn o = true := by
    cases e : (K w.params).lookup f with
    | none => rw [e] at ho; cases ho
    | some o => rw [e] at ho; exact ⟨o, rfl, ho⟩
  obtain ⟨fd, hd⟩ := isFn_of hf
  exact cwF0 hd (S.getK ho) h
theorem and2_ {env : Env} {x y : Expr} {pos : Pos} {whole : Sem Value} {b1 b2 : Bool} {Q : Bool → Shared → Prop}
    (hx : ∀ (Q' : Bool → Shared → Prop) t, (∀ k, Q' b1 ⟨hp, gn, dr, k, os⟩) → wpAny (model pw w) A (isTrue x env (eval x env)) Q' E ⟨hp, gn, dr, t, os⟩)
    (hy : ∀ (Q' : Bool → Shared → Prop) t, (∀ k, Q' b2 ⟨hp, gn, dr, k, os⟩) → wpAny (model pw w) A (isTrue y env (eval y env)) Q' E ⟨hp, gn, dr, t, os⟩)
    (h : ∀ k, Q (b1 && b2) ⟨hp, gn, dr, k, os⟩) : wpAny (model pw w) A (isTrue (.BoolOp .And [x, y] pos) env whole) Q E ⟨hp, gn, dr, tk, os⟩ := by
  refine PyProof.Rows.isTrue_and (hx _ _ fun k => ?_)
  cases b1 with
  | false => exact h k
  | true =>
    rw [if_pos rfl]
    refine PyProof.Rows.isTrue_and (hy _ _ fun k => ?_)
    cases b2 with
    | false => exact h k
    | true => rw [if_pos rfl]; exact PyProof.Rows.isTrue_and_nil (h k)
theorem less_ {x y : Addr} {l1 l2 : List Nat} {Q : Value → Shared → Prop} (R : Rm A 3) (C : Cx w mean mg mb Hs hp) (W1 : WsIs (hideAll hp Hs) x l1) (W2 : WsIs (hideAll hp Hs) y l2) (hs1 : l1.length ≤ 300) (hs2 : l2.length ≤ 300)
    (h : ∀ h' k, Keeps hp h' → Q (.bool (lessF l1 l2)) ⟨h', gn, dr, k, os⟩) : wpAny (model pw w) A (call (.ref 73) [.ref x, .ref y]) Q E ⟨hp, gn, dr, tk, os⟩ := by
  refine' codeS (f := 73) (binds := [(Str.ofString "self", .ref x), (Str.ofString "other", .ref y)]) C R.at0 ?ho ?hcd ?hb ?hl ?hc ?c1 ?c2 ?c3 ?h
  case ho => rfl
  case hcd => kernel_rfl
  case hb => exact BindsTo.of_eq rfl
  case hl => exact locs rfl
  case hc => decide +kernel
  case c1 => rfl
  case c2 => rfl
  case c3 => rfl
  intro L h₁ tk1 env hE S k0 A' hA'
  obtain ⟨bd, hbd⟩ : ∃ x, x = fbody (mth 6) := ⟨_, rfl⟩
  obtain ⟨sc, hsc⟩ : ∃ x, x = fscope (mth 6) := ⟨_, rfl⟩
  rw [← hsc] at hE
  rw [← hbd]
  conv at hbd => rhs; whnf
  conv at hsc => rhs; whnf
  subst hbd hsc
  have R' := R.deeper hA'
  replace W1 := W1.keeps k0
  replace W2 := W2.keeps k0
  obtain ⟨fs1, T1, CT1, vs1, tb1, tn1, tt1, a1, a2, a3, a4, a5, a6, a7, a8, a9, a10, a11⟩ := W1.at'
  obtain ⟨fs2, T2, CT2, vs2, tb2, tn2, tt2, b1, b2, b3, b4, b5, b6, b7, b8, b9, b10, b11⟩ := W2.at'
  have hl1 := longR_bd hs1
  have hl2 := longR_bd hs2
  dsimp only
  walk_at "w"
  refine fGet S.kin (a1.keeps vis_self) a2 (by kernel_rfl) rfl ?_
  intro _
  walk_at "w"
  refine fGet S.kin (b1.keeps vis_self) b2 (by kernel_rfl) rfl ?_
  intro _
  walk_at "w"
  by_cases hn : l2.length ≤ l1.length
  · rw [if_pos (by simpa using hn)]
    walk_at "w"
    have hv : lessF l1 l2 = false := by unfold lessF; rw [if_pos hn]
    rw [← hv]
    exact h _ _ S.back.1
  · rw [if_neg (by simpa using hn)]
    walk_at "w"
    refine and2_ (b1 := decide ((wsRun l1).2.2.length ≤ 1)) (b2 := decide ((wsRun l2).2.2.length ≤ 1)) ?hx ?hy ?_
    case hx =>
      intro Q' tq hq
      refine isTrue_plain ?_ rfl
      walk_at "w"
      refine fGet S.kin (a1.keeps vis_self) a4 (by kernel_rfl) rfl ?_
      intro _
      walk_at "w"
      exact hq _
    case hy =>
      intro Q' tq hq
      refine isTrue_plain ?_ rfl
      walk_at "w"
      refine fGet S.kin (b1.keeps vis_self) b4 (by kernel_rfl) rfl ?_
      intro _
      walk_at "w"
      exact hq _
    intro tq
    by_cases hb : (wsRun l1).2.2.length ≤ 1 ∧ (wsRun l2).2.2.length ≤ 1
    · rw [if_pos (by simpa using hb)]
      walk_at "w"
      refine fGet S.kin (a1.keeps vis_self) a3 (by kernel_rfl) rfl ?_
      intro _
      walk_at "w"
      refine fGet S.kin (b1.keeps vis_self) b3 (by kernel_rfl) rfl ?_
      intro _
      walk_at "w"
      have hv : lessF l1 l2 = decide (((wsRun l1).2.1 : Int) ≤ ((wsRun l2).2.1 : Int)) := by
        unfold lessF; rw [if_neg hn, if_pos hb]; exact decide_eq_decide.mpr (by omega)
      rw [← hv]
      exact h _ _ S.back.1
    · rw [if_neg (by simp only [Bool.and_eq_true, decide_eq_true_eq]; exact hb)]
      walk_at "w"
      refine fMeth (f := 45) S.kin (a1.keeps vis_self) a9 (by kernel_rfl) (by kernel_rfl) ?_
      dsimp only
      refine cwK0 rfl S (longrun_ (R'.less (by decide)) S.cx W1 hs1 ?_)
      intro h2 k2 u2 kp2
      have S2 := S.keeps kp2
      walk_at "w"
      refine fMeth (f := 45) S2.kin ((b1.keeps (vis_keeps kp2)).keeps vis_self) b9 (by kernel_rfl) (by kernel_rfl) ?_
      dsimp only
      refine cwK0 rfl S2 (longrun_ (R'.less (by decide)) S2.cx (W2.keeps (vis_keeps kp2)) hs2 ?_)
      intro h3 k3 u3 kp3
      have S3 := S2.keeps kp3
      walk_at "w"
      refine fMax2 R'.hh ?_
      intro h4 u4 k4 kp4
      have S4 := S3.keeps kp4
      walk_at "w"
      rename_i u5 kk5 h5 tk5 S5 K5 u6 kk6 u7 kk7 u8 kk8
      have Kall : Keeps (hideAll h₁ (ownOf env ++ Hs)) (hideAll h5 (ownOf env ++ Hs)) := ((vis_keeps ((kp2.trans kp3).trans kp4)).trans K5)
      refine fRng2 S5 ?_
      intro D6 h6 tk6 u9 S6 k6 hr
      replace Kall := Kall.trans k6
      walk_at "w"
      refine fForRK (n := levN l1 l2) (fun i m mu _ => m = [(Str.ofString "self", Value.ref x), (Str.ofString "other", .ref y)] ∧ mu = [] ∧ ∀ j, j < i → levelF (wsRun l1) (2 + j) < levelF (wsRun l2) (2 + j)) (fun _ _ _ _ _ _ e => e)
        (S6.lessL (m' := [(Str.ofString "self", Value.ref x), (Str.ofString "other", .ref y)]) ⟨rfl, rfl, trivial⟩)
        hr rfl (by split <;> omega) R'.hh ⟨rfl, rfl, fun j hj => absurd hj (Nat.not_lt_zero _)⟩ ?hk ?hx ?step ?done (fun _ _ e => e)
      case hk => rw [hE.eq] <;> rfl
      case hx => rw [hE.eq] <;> rfl
      case step =>
        intro I i tv m₁ mu₁ h7 tk7 oI g₁ kg hi k7 hj S7
        obtain ⟨rfl, rfl, hj⟩ := hj
        have hi400 : 2 + i ≤ 400 := by
          have : levN l1 l2 ≤ 310 := by unfold levN; split <;> omega
          omega
        have e2 : ((2 : Int) + (i : Int)) = ((2 + i : Nat) : Int) := by omega
        rw [e2] at S7
        have W1' := (W1.keeps Kall).keeps k7
        have W2' := (W2.keeps Kall).keeps k7
        have A1 := (a1.keeps Kall).keeps k7
        have B1 := (b1.keeps Kall).keeps k7
        walk_at "w"
        refine fMeth (f := 52) S7.kin (A1.keeps vis_self) a10 (by kernel_rfl) (by kernel_rfl) ?_
        dsimp only
        walk_at "w"
        refine level_ (R'.less (by decide)) S7.cx W1' hs1 (by omega) hi400 ?_
        intro h8 k8 u8' kp8
        have S8 := S7.keeps kp8
        walk_at "w"
        refine fMeth (f := 52) S8.kin ((B1.keeps (vis_keeps kp8)).keeps vis_self) b10 (by kernel_rfl) (by kernel_rfl) ?_
        dsimp only
        walk_at "w"
        refine level_ (R'.less (by decide)) S8.cx (W2'.keeps (vis_keeps kp8)) hs2 (by omega) hi400 ?_
        intro h9 k9 u9' kp9
        have S9 := S8.keeps kp9
        walk_at "w"
        by_cases hlv : levelF (wsRun l1) (2 + i) < levelF (wsRun l2) (2 + i)
        · rw [if_neg (by simpa using hlv)]
          walk_at "w"
          refine ⟨_, _, _, _, rfl, S9.lessL (m' := [(Str.ofString "self", Value.ref x), (Str.ofString "other", .ref y)]) ⟨rfl, rfl, trivial⟩, rfl, rfl, fun j hj' => ?_⟩
          rcases Nat.lt_succ_iff_lt_or_eq.mp hj' with h' | rfl
          · exact hj j h'
          · exact hlv
        · rw [if_pos (by simpa using hlv)]
          walk_at "w"
          have hv : lessF l1 l2 = false := by
            unfold lessF
            rw [if_neg hn, if_neg hb]
            refine List.all_eq_false.mpr ⟨i, List.mem_range.mpr hi, by simpa using hlv⟩
          have := h h9 k9 (fun b o e => S9.base b o (kg b o e))
          rw [hv] at this
          exact this
      case done =>
        intro h7 tk7 m' mu' S7 k7 hj
        obtain ⟨rfl, rfl, hj⟩ := hj
        walk_at "w"
        have hv : lessF l1 l2 = true := by
          unfold lessF
          rw [if_neg hn, if_neg hb, List.all_eq_true]
          exact fun j hj' => by simpa using hj j (List.mem_range.mp hj')
        have := h h7 tk7 S7.back.1
        rw [hv] at this
        exact this
end
noncomputable def fillL : List Int := [11, 31, 9, 13, 10, 19]
noncomputable def numsOf (ns : List Int) : List Int := ns.take 6 ++ fillL.drop (ns.take 6).length
noncomputable def sgOf (nums : List Int) : List (Int × Str) := (List.range 5).map fun k => signOf ((nums[k]?).getD 0) (if k = 0 then 15 else 16)
noncomputable def wordAll (nums : List Int) : List Nat := (sgOf nums).flatMap txt
noncomputable def wordOf (nums : List Int) : List Nat := (wordAll nums).take 10
theorem ValL.take' {α : Type} {f : α → Tok → Value} {vs : List Value} {as : List α} (x : ValL f vs as) (k : Nat) : ValL f (vs.take k) (as.take k) := by
  obtain ⟨ts, rfl, rfl⟩ := x
  exact ⟨ts.take k, by rw [List.map_take], by rw [List.map_take]⟩
theorem ValL.drop' {α : Type} {f : α → Tok → Value} {vs : List Value} {as : List α} (x : ValL f vs as) (k : Nat) : ValL f (vs.drop k) (as.drop k) := by
  obtain ⟨ts, rfl, rfl⟩ := x
  exact ⟨ts.drop k, by rw [List.map_drop], by rw [List.map_drop]⟩
theorem pick6 (vs : List Value) : slicePick vs.toArray none (some 6) none = (vs.take 6).toArray := slicePick_upto' vs.toArray 6
theorem pickF (vs : List Value) (k : Nat) : slicePick vs.toArray (some (k : Int)) none none = (vs.drop k).toArray := slicePick_from' vs.toArray k
section
variable {w : World} {mean : ExcName → Option Value} {mg mb : Str → Option Value} {A : Around} {E : Value → Shared → Prop} {hp g₀ : Heap} {Hs : List Addr} {gn : Array GenState} {dr : Drawn} {tk : Nat} {os : OsState} {env : Env} {L : Addr}
abbrev LawEnv (env : Env) (L : Addr) : Prop := ∃ cdv, IsEnv env (envX (Str.ofString "law") (fscope (st 16)) L 194 cdv (cellsFrom (L + 1) (fscope (st 16)).names []))
noncomputable def sgAt (nums : List Int) (k : Nat) : Int × Str := signOf ((nums[k]?).getD 0) (if k = 0 then 15 else 16)
noncomputable def DrawnAt (nums : List Int) (g : Heap) (ys : List Value) : Prop := ∀ (j : Nat) v, ys[j]? = some v → ∃ T t1 t2, v = Value.ref T ∧ IsTup g T [.str ⟨#[(sgAt nums j).1.toNat]⟩ t1, .str (sgAt nums j).2 t2].toArray
theorem DrawnAt.keeps {nums : List Int} {g g' : Heap} {ys : List Value} (D : DrawnAt nums g ys) (k : Keeps g g') : DrawnAt nums g' ys := fun j v h => let ⟨T, t1, t2, e, hT⟩ := D j v h; ⟨T, t1, t2, e, hT.keeps k⟩
theorem snoc_at {α : Type} {ys : List α} {v w : α} {i j : Nat} (hl : ys.length = i) (h : (ys ++ [v])[j]? = some w) : ys[j]? = some w ∨ (j = i ∧ w = v) := by
  by_cases hj : j < ys.length
  · rw [List.getElem?_append_left hj] at h; exact .inl h
  · rw [List.getElem?_append_right (by omega)] at h
    have h0 : j - ys.length = 0 := by
      have := (List.getElem?_eq_some_iff.mp h).1
      simp at this; omega
    rw [h0] at h
    exact .inr ⟨by omega, (Option.some.inj h).symm⟩
theorem tup_uniq {g : Heap} {T : Addr} {xs ys : Array Value} (a : IsTup g T xs) (b : IsTup g T ys) : xs = ys := by
  obtain ⟨o, e1, _, n1, d1⟩ := a
  obtain ⟨o', e2, _, n2, d2⟩ := b
  rw [e1] at e2; cases e2
  rw [d1] at d2; cases d2; rfl
theorem sgOf_get (nums : List Int) {j : Nat} (hj : j < 5) : (sgOf nums)[j]? = some (sgAt nums j) := by
  unfold sgOf sgAt
  rw [List.getElem?_map, List.getElem?_range hj]; rfl
theorem sgOf_len (nums : List Int) : (sgOf nums).length = 5 := by unfold sgOf; rw [List.length_map, List.length_range]
theorem signOk {x k : Int} (hk : k = 15 ∨ k = 16) : okSign (signOf x k) := by
  have h1 := Int.fmod_nonneg_of_pos x (show 0 < k by omega)
  have h2 := Int.fmod_lt_of_pos x (show 0 < k by omega)
  unfold signOf
  split
  · refine .inr ⟨rfl, ?_⟩
    have h3 := Int.fmod_nonneg_of_pos (x.fdiv 16) (show (0 : Int) < 27 by decide)
    have h4 := Int.fmod_lt_of_pos (x.fdiv 16) (show (0 : Int) < 27 by decide)
    have h5 : ((x.fdiv 16).fmod 27).toNat < b1L.length := by show _ < 27; omega
    show (b1L[((x.fdiv 16).fmod 27).toNat]?).getD 0 ∈ b1L
    rw [List.getElem?_eq_getElem h5]; exact List.getElem_mem h5
  · rename_i h
    have h5 : (x.fmod k).toNat < shownL.length := by show _ < 15; omega
    refine .inl ?_
    rw [List.getElem?_eq_getElem h5]; exact List.getElem_mem h5
theorem sgOf_ok (nums : List Int) : ∀ p ∈ sgOf nums, okSign p := by
  intro p hp
  obtain ⟨j, hj, e⟩ := List.mem_map.mp hp
  rw [← e]
  refine signOk ?_
  split <;> simp
theorem wordAll_len (nums : List Int) : (wordAll nums).length ≤ 15 := by
  have := flat_le (f := txt) (sgOf nums) fun p hp => sign_le (sgOf_ok nums p hp)
  rw [sgOf_len] at this
  exact this
theorem ph1 {a : Addr} {vs : List Value} {ns : List Int} {Q : Flow → Shared → Prop} (R : Rm A 8) (hE0 : LawEnv env L)
    (S : Sx w mean mg mb g₀ Hs env (ownOf env) [(Str.ofString "script", .ref a)] [] hp) (hl : (hideAll hp Hs).IsList a vs.toArray) (hvs : IntL vs ns) (hlen : vs.length ≤ 1000)
    (hnext : ∀ h' k N vn t1 t2, Sx w mean mg mb g₀ Hs env (ownOf env) [(Str.ofString "size", .int ((wordOf (numsOf ns)).length : Int) t1), (Str.ofString "word", .str (sT (wordOf (numsOf ns))) t2), (Str.ofString "numbers", .ref N)] [] h' →
      (hideAll h' Hs).IsList N vn.toArray → IntL vn (numsOf ns) → wpAny (model pw w) A (execs ((fbody (st 16)).drop 7) env) Q E ⟨h', gn, dr, k, os⟩) :
    wpAny (model pw w) A (execs (fbody (st 16)) env) Q E ⟨hp, gn, dr, tk, os⟩ := by
  obtain ⟨cdv, hE⟩ := hE0
  obtain ⟨r, hr⟩ : ∃ x, x = (fbody (st 16)).drop 7 := ⟨_, rfl⟩
  rw [← hr] at hnext
  obtain ⟨bd, hbd⟩ : ∃ x, x = fbody (st 16) := ⟨_, rfl⟩
  obtain ⟨sc, hsc⟩ : ∃ x, x = fscope (st 16) := ⟨_, rfl⟩
  rw [← hsc] at hE
  rw [← hbd]
  conv at hbd => rhs; whnf
  conv at hsc => rhs; whnf
  conv at hr => rhs; whnf
  rw [← hr] at hbd
  clear hr
  subst hbd hsc
  have noSl : NoSl := .mk
  walk_at "w"
  rename_i u1 _ u2 _ u3 _ u4 _ u5 _ u6 _
  have hfill : IntL [Value.int 11 u1, .int 31 u2, .int 9 u3, .int 13 u4, .int 10 u5, .int 19 u6] fillL := ⟨[(11, u1), (31, u2), (9, u3), (13, u4), (10, u5), (19, u6)], rfl, rfl⟩
  with_reducible refine' fListV S ?_ ?sz
  case sz => exact (show (6 : Nat) ≤ sizeLine by decide)
  intro F h1 S1 k1 hF
  replace hl := hl.at fun o e => k1 _ _ e
  walk_at "w"
  rename_i h2 tk2 S2 K2
  replace hl := hl.at fun o e => K2 _ _ e
  replace hF := plK hF K2
  refine fSlL ?_ (fun _ _ => rfl)
  walk_at "w"
  refine SlL.intro S2 (hl.at fun o e => vis_self _ _ e) (by rw [sizeLine_eq]; omega) IsPart.none (IsPart.int _ _) ?_
  intro D3 h3 S3 k3 hD3
  rw [pick6] at hD3
  replace hl := hl.at fun o e => k3 _ _ e
  replace hF := plK hF k3
  refine fSlL ?_ (fun _ _ => rfl)
  walk_at "w"
  refine fSlL ?_ (fun _ _ => rfl)
  walk_at "w"
  refine SlL.intro S3 (hl.at fun o e => vis_self _ _ e) (by rw [sizeLine_eq]; omega) IsPart.none (IsPart.int _ _) ?_
  intro D4 h4 S4 k4 hD4
  rw [pick6] at hD4
  replace hl := hl.at fun o e => k4 _ _ e
  replace hF := plK hF k4
  replace hD3 := plK hD3 k4
  walk_at "w"
  refine fLenL (plV hD4).isList (by rw [sizeLine_eq, List.length_take]; omega) ?_
  intro u7 tk7
  walk_at "w"
  refine SlL.intro S4 (plV hF).isList (show (6 : Nat) ≤ sizeLine by decide) (IsPart.int _ _) IsPart.none ?_
  intro D5 h5 S5 k5 hD5
  rw [pickF] at hD5
  replace hD3 := plK hD3 k5
  have hvn := (hvs.take' 6).append (hfill.drop' (vs.take 6).length)
  have hlt : (vs.take 6).length = (ns.take 6).length := (hvs.take' 6).len
  refine fAddL S5 (plV hD3).isList (plV hD5).isList (by rw [sizeLine_eq, List.length_take, List.length_drop]; simp only [List.length_cons, List.length_nil]; omega) ?_
  intro N h6 S6 k6
  obtain ⟨hN, S7, k7⟩ := S6.doneL
  rw [hlt] at hvn
  rw [hlt] at hN
  generalize hvneq : (vs.take 6 ++ List.drop (ns.take 6).length [Value.int 11 u1, .int 31 u2, .int 9 u3, .int 13 u4, .int 10 u5, .int 19 u6]) = vn at hvn hN
  have hvn' : IntL vn (numsOf ns) := hvn
  have hn6 : (numsOf ns).length = 6 := by
    unfold numsOf
    rw [List.length_append, List.length_drop, List.length_take]
    have : fillL.length = 6 := rfl
    omega
  generalize numsOf ns = nums at *
  walk_at "w"
  clear noSl
  rename_i h8 tk8 S8 K8
  replace hN := plK hN K8
  refine execComp ?hok ?hkind ?hnames ?hsw ?hs ?_
  case hok => rw [hE.eq] <;> rfl
  case hkind => rfl
  case hnames => decide +kernel
  case hsw => rw [hE.eq] <;> rfl
  case hs => intro _; rfl
  walk_at "w"
  refine fRng1 S8 ?_
  intro D9 h9 tk9 u9 u9' S9 k9 hr9
  replace hN := plK hN k9
  walk_at "w"
  refine compR (n := 5) (mf := [(Str.ofString "numbers", Value.ref N)]) S9 hr9 (by decide) (by decide) R.hh ?hmf ?hok ?hnd rfl (.inl rfl) ?hxm (by decide) (fun i ys g => ys.length = i ∧ DrawnAt nums g ys) (fun _ _ _ _ k e => ⟨e.1, e.2.keeps k⟩) ⟨rfl, fun j v hv => by cases hv⟩ (step0 ?stp) (fRrA S9 (fun _ _ _ k e => ⟨e.1, e.2.keeps k⟩) ?fin (by rw [hE.eq] <;> rfl) (by rw [hE.eq] <;> rfl))
  case hmf => intro q hq; rw [List.mem_singleton.mp hq]; exact ⟨rfl, rfl⟩
  case hok => rw [hE.eq] <;> rfl
  case hnd => decide +kernel
  case hxm => intro q hq; rw [List.mem_singleton.mp hq]; show Str.ofString "numbers" ≠ Str.ofString "k"; decide
  case stp =>
    intro i v ys h8 tk8 C cenv Hc hi hv hcenv k8 hj hle S8
    obtain ⟨tv, rfl⟩ := hv
    rw [Int.zero_add] at S8
    have hE2 := hcenv
    rw [hE.eq] at hE2
    have hnk := List.getElem?_eq_getElem (show i < nums.length by omega)
    obtain ⟨tn, hnv⟩ := hvn'.get hnk
    walk_at "w"
    refine fItemL ((plV (plK hN k8)).isList) (by omega) (by omega) (by rw [Int.toNat_natCast]; exact hnv) ?_ rfl (fun _ => rfl)
    walk_at "w"
    have fin : ∀ (kk : Int) tt h9 tk9, (kk = if i = 0 then 15 else 16) → Keeps h8 h9 → Sx w mean mg mb h8 Hc cenv [] [(Str.ofString "k", Value.int (i : Int) tv), (Str.ofString "numbers", Value.ref N)] [] h9 →
        wpAny (model pw w) A (call (.ref 165) [.int nums[i] tn, .int kk tt]) (fun y s₃ => ElP h8 Hc (fun ys g => ys.length = i + 1 ∧ DrawnAt nums g ys) ⟨h8, gn, dr, tk8, os⟩ (ys ++ [y]) s₃) (fun _ _ => False) ⟨h9, gn, dr, tk9, os⟩ := by
      intro kk tt h9 tk9 hkk k9 S9
      refine law_sign_ (s := ⟨h9, gn, dr, tk9, os⟩) (R.less (by decide)) S9.cx (by rw [hkk]; split <;> simp) ?_
      intro h10 k10 T t1 t2 kp hT
      refine ElP.intro (S9.keeps kp) ⟨by rw [List.length_append, hj.1]; rfl, ?_⟩
      intro j v hv
      rcases snoc_at hj.1 hv with h' | ⟨rfl, rfl⟩
      · exact (hj.2.keeps (vis_keeps (k9.trans kp))) j v h'
      · refine ⟨T, t1, t2, rfl, ?_⟩
        have e : sgAt nums j = signOf nums[j] kk := by unfold sgAt; rw [hnk, hkk]; rfl
        rw [e]; exact hT
    by_cases hi0 : i = 0
    · rw [if_pos (by simpa using hi0)]
      walk_at "w"
      exact fin _ _ _ _ (by rw [if_pos hi0]) (Keeps.refl _) S8
    · rw [if_neg (by simpa using hi0)]
      walk_at "w"
      exact fin _ _ _ _ (by rw [if_neg hi0]) (Keeps.refl _) S8
  case fin =>
    intro DD h10 tk10 ys S10 k10 hDD hj
    replace hN := plK hN k10
    walk_at "w"
    have hD5 : ys.length = 5 := hj.1
    refine evalComp ?hok ?hkind ?hnames ?hs ?_
    case hok => rw [hE.eq] <;> rfl
    case hkind => rfl
    case hnames => decide +kernel
    case hs => intro _; rfl
    walk_at "w"
    refine compLT (fun i us g => us.length = i ∧ ∀ (j : Nat) v, us[j]? = some v → ∃ t, v = Value.str ⟨#[(sgAt nums j).1.toNat]⟩ t) (fun _ _ _ _ _ e => e) S10 hDD.isList R.hh (by rw [hE.eq] <;> rfl) (by decide +kernel) rfl rfl rfl (by rw [hD5]; decide) ⟨rfl, fun j v hv => by cases hv⟩ ?hit ?stp (fRrV S10 (fun _ _ _ _ e => e) ?fin2)
    case hit => intro i v hv; obtain ⟨T, t1, t2, e, hT⟩ := hj.2 i v hv; exact ⟨T, _, _, e, hT⟩
    case stp =>
      intro i T va vb us h11 tk11 C cenv Hc hi hT hcenv k11 hju hle S11
      obtain ⟨T', t1, t2, e, hT'⟩ := hj.2 i _ hi
      cases e
      have e2 : [va, vb] = [Value.str ⟨#[(sgAt nums i).1.toNat]⟩ t1, Value.str (sgAt nums i).2 t2] := congrArg Array.toList (tup_uniq hT (hT'.keeps k11))
      cases e2
      have hE2 := hcenv
      rw [hE.eq] at hE2
      walk_at "w"
      refine ElP.intro S11 ⟨by rw [List.length_append, hju.1]; rfl, fun j v hv => ?_⟩
      rcases snoc_at hju.1 hv with h' | ⟨rfl, rfl⟩
      · exact hju.2 j v h'
      · exact ⟨t1, rfl⟩
    case fin2 =>
      intro D12 h12 tk12 us S12 k12 hD12 hju
      replace hN := plK hN k12
      replace hDD := plK hDD k12
      have hdr := hj.2.keeps k12
      rw [hD5] at hju
      walk_at "w"
      refine prepared_ (s := ⟨h12, gn, dr, tk12, os⟩) (R.less (by decide)) S12.cx hD12.isList (by rw [hju.1, sgOf_len]) (fun j v hv => ?_) (sgOf_ok nums) (by rw [sgOf_len]; decide) ?_
      · have hj5 : j < 5 := by have := (List.getElem?_eq_some_iff.mp hv).1; omega
        obtain ⟨t, e⟩ := hju.2 j v hv
        exact ⟨_, t, sgOf_get nums hj5, e⟩
      intro h13 tk13 u13 k13
      have S13 := S12.keeps k13
      replace hN := plK hN (vis_keeps k13)
      replace hDD := plK hDD (vis_keeps k13)
      replace hdr := hdr.keeps (vis_keeps k13)
      have hwd : (sgOf nums).flatMap txt = wordAll nums := rfl
      rw [hwd]
      have hwl := wordAll_len nums
      dsimp only
      walk_at "w"
      rename_i h14 tk14 S14 K14 u14 kk14
      replace hN := plK hN K14
      replace hDD := plK hDD K14
      replace hdr := hdr.keeps K14
      refine evalComp ?hok ?hkind ?hnames ?hs ?_
      case hok => rw [hE.eq] <;> rfl
      case hkind => rfl
      case hnames => decide +kernel
      case hs => intro _; rfl
      walk_at "w"
      refine compLT (fun i us g => us.length = i ∧ ∀ (j : Nat) v, us[j]? = some v → ∃ t y, v = Value.str (sT y) t ∧ ((sgOf nums).map txt)[j]? = some y) (fun _ _ _ _ _ e => e) S14 hDD.isList R.hh (by rw [hE.eq] <;> rfl) (by decide +kernel) rfl rfl rfl (by rw [hD5]; decide) ⟨rfl, fun j v hv => by cases hv⟩ ?hit ?stp (fRrV S14 (fun _ _ _ _ e => e) ?fin3)
      case hit => intro i v hv; obtain ⟨T, t1, t2, e, hT⟩ := hdr i v hv; exact ⟨T, _, _, e, hT⟩
      case stp =>
        intro i T va vb us h15 tk15 C cenv Hc hi hT hcenv k15 hju hle S15
        have hi5 : i < 5 := by have := (List.getElem?_eq_some_iff.mp hi).1; omega
        obtain ⟨T', t1, t2, e, hT'⟩ := hdr i _ hi
        cases e
        have e2 : [va, vb] = [Value.str ⟨#[(sgAt nums i).1.toNat]⟩ t1, Value.str (sgAt nums i).2 t2] := congrArg Array.toList (tup_uniq hT (hT'.keeps k15))
        cases e2
        have hE2 := hcenv
        rw [hE.eq] at hE2
        walk_at "w"
        refine ElP.intro S15 ⟨by rw [List.length_append, hju.1]; rfl, fun j v hv => ?_⟩
        rcases snoc_at hju.1 hv with h' | ⟨rfl, rfl⟩
        · exact hju.2 j v h'
        · exact ⟨t2, txt (sgAt nums j), by rw [sT_eq], by rw [List.getElem?_map, sgOf_get nums hi5]; rfl⟩
      case fin3 =>
        intro D16 h16 tk16 us2 S16 k16 hD16 hju2
        replace hN := plK hN k16
        rw [hD5] at hju2
        walk_at "w"
        refine fJoin (l := (sgOf nums).map txt) (plV hD16).isList (by rw [hju2.1, List.length_map, sgOf_len]) hju2.2 ?_ ?_
        · rw [← List.length_flatten]
          have e : ((sgOf nums).map txt).flatten = wordAll nums := rfl
          rw [e, sizeLine_eq]; omega
        intro u17 tk17
        have e : ((sgOf nums).map txt).flatten = wordAll nums := rfl
        rw [e]
        walk_at "w"
        rw [if_neg (by simp)]
        walk_at "w"
        refine SlP.ns (by decide) (by rw [sizeLine_eq]; omega) ?_
        intro h18 u18 tk18 k18
        have S18 := S16.keeps k18
        replace hN := plK hN (vis_keeps k18)
        walk_at "w"
        rename_i h19 tk19 S19 K19
        replace hN := plK hN K19
        refine fLenS (by rw [sizeLine_eq, List.length_take]; omega) ?_
        intro u20 tk20
        walk_at "w"
        rename_i h21 tk21 S21 K21
        replace hN := plK hN K21
        exact hnext h21 tk21 N vn u20 u18 (S21.lessL (m' := [(Str.ofString "size", .int ((wordOf nums).length : Int) u20), (Str.ofString "word", .str (sT (wordOf nums)) u18), (Str.ofString "numbers", .ref N)]) ⟨rfl, rfl, rfl, trivial⟩) hN.isList hvn'
end
noncomputable def octs (wd : List Nat) (i : Nat) : List Int := (wd.drop i).map Int.ofNat ++ List.replicate i 64
noncomputable def segO (wd : List Nat) (i : Nat) : List Int := (octs wd i).dropLast ++ [(octs wd i).getLastD 0 - 64]
noncomputable def tapeU (wd : List Nat) : Nat → List Int
  | 0 => []
  | k + 1 => tapeU wd k ++ segO wd k
noncomputable def tapeM (wd : List Nat) (sh : Int) : List Int := (List.range (tapeU wd wd.length).length).map fun (j : Nat) => if ((j : Int) + sh).fmod 3 = 0 then ((tapeU wd wd.length)[j]?).getD 0 + 128 else ((tapeU wd wd.length)[j]?).getD 0
theorem octs_len (wd : List Nat) {i : Nat} (h : i ≤ wd.length) : (octs wd i).length = wd.length := by unfold octs; rw [List.length_append, List.length_map, List.length_drop, List.length_replicate]; omega
theorem segO_len (wd : List Nat) {i : Nat} (h : i ≤ wd.length) (h1 : 1 ≤ wd.length) : (segO wd i).length = wd.length := by unfold segO; rw [List.length_append, List.length_dropLast, octs_len wd h]; simp; omega
theorem tapeU_len (wd : List Nat) (h1 : 1 ≤ wd.length) : ∀ {k : Nat}, k ≤ wd.length → (tapeU wd k).length = k * wd.length
  | 0, _ => by simp [tapeU]
  | k + 1, h => by
    unfold tapeU
    rw [List.length_append, tapeU_len wd h1 (by omega), segO_len wd (by omega) h1, Nat.add_mul]; omega
section
variable {w : World} {mean : ExcName → Option Value} {mg mb : Str → Option Value} {A : Around} {E : Value → Shared → Prop} {hp g₀ : Heap} {Hs : List Addr} {gn : Array GenState} {dr : Drawn} {tk : Nat} {os : OsState} {env : Env} {L : Addr}
theorem Sx.rot3 {ow : List Addr} {m : List (Str × Value)} {p q r : Addr × (Obj → Prop)} {mu : Mu} (S : Sx w mean mg mb g₀ Hs env ow m (p :: q :: r :: mu) hp) : Sx w mean mg mb g₀ Hs env ow m (r :: p :: q :: mu) hp :=
  S.perm (List.perm_middle (l₁ := [p, q]) (a := r) (l₂ := mu))
theorem ValL.unsnoc {α : Type} {f : α → Tok → Value} {vs : List Value} {v : Value} {as : List α} {a : α} (x : ValL f (vs ++ [v]) (as ++ [a])) : ValL f vs as ∧ ∃ t, v = f a t := by
  obtain ⟨ts, h1, h2⟩ := x
  have hne : ts ≠ [] := fun e => by rw [e] at h1; simp at h1
  obtain ⟨r, p, rfl⟩ : ∃ r p, ts = r ++ [p] := ⟨ts.dropLast, ts.getLast hne, (List.dropLast_concat_getLast hne).symm⟩
  rw [List.map_append] at h1 h2
  obtain ⟨e1, e2⟩ := List.append_inj' h1 rfl
  obtain ⟨e3, e4⟩ := List.append_inj' h2 rfl
  have e5 : v = f p.1 p.2 := by simpa using e2
  have e6 : p.1 = a := by simpa using e4
  exact ⟨⟨r, e1, e3⟩, p.2, by rw [e5, e6]⟩
theorem ph2 {N : Addr} {vn : List Value} {nums : List Int} {wd : List Nat} {t1 t2 : Tok} {Q : Flow → Shared → Prop} (R : Rm A 8) (hE0 : LawEnv env L)
    (S : Sx w mean mg mb g₀ Hs env (ownOf env) [(Str.ofString "size", .int (wd.length : Int) t1), (Str.ofString "word", .str (sT wd) t2), (Str.ofString "numbers", .ref N)] [] hp) (hN : (hideAll hp Hs).IsList N vn.toArray) (hvn : IntL vn nums) (hn6 : nums.length = 6)
    (hw1 : 1 ≤ wd.length) (hw10 : wd.length ≤ 10)
    (hnext : ∀ h' k LT vl I t3, Sx w mean mg mb g₀ (I :: Hs) env (ownOf env) [(Str.ofString "feed", .ref I), (Str.ofString "shift", .int (((nums[5]?).getD 0).fmod 3) t3), (Str.ofString "size", .int (wd.length : Int) t1), (Str.ofString "word", .str (sT wd) t2), (Str.ofString "numbers", .ref N)] [(I, iterP LT 0)] h' →
      (hideAll h' (I :: Hs)).IsList N vn.toArray → (hideAll h' (I :: Hs)).IsList LT vl.toArray → IntL vl (tapeM wd (((nums[5]?).getD 0).fmod 3)) → wpAny (model pw w) A (execs ((fbody (st 16)).drop 11) env) Q E ⟨h', gn, dr, k, os⟩) :
    wpAny (model pw w) A (execs ((fbody (st 16)).drop 7) env) Q E ⟨hp, gn, dr, tk, os⟩ := by
  obtain ⟨cdv, hE⟩ := hE0
  obtain ⟨r, hr⟩ : ∃ x, x = (fbody (st 16)).drop 11 := ⟨_, rfl⟩
  rw [← hr] at hnext
  obtain ⟨bd, hbd⟩ : ∃ x, x = (fbody (st 16)).drop 7 := ⟨_, rfl⟩
  obtain ⟨sc, hsc⟩ : ∃ x, x = fscope (st 16) := ⟨_, rfl⟩
  rw [← hsc] at hE
  rw [← hbd]
  conv at hbd => rhs; whnf
  conv at hsc => rhs; whnf
  conv at hr => rhs; whnf
  rw [← hr] at hbd
  clear hr
  subst hbd hsc
  have hbig : ∀ n : Nat, n ≤ 1000 → n ≤ sizeLine := fun n hn => by rw [sizeLine_eq]; omega
  walk_at "w"
  with_reducible refine' fListM S ?_ ?sz
  case sz => exact (show (0 : Nat) ≤ sizeLine by decide)
  intro D h1 S1 k1
  replace hN := hN.at fun o e => k1 _ _ e
  walk_at "w"
  rename_i h2 tk2 S2 K2
  replace hN := hN.at fun o e => K2 _ _ e
  refine fRng1 S2 ?_
  intro D3 h3 tk3 u3 u3' S3 k3 hr3
  replace hN := hN.at fun o e => k3 _ _ e
  walk_at "w"
  refine fForR (n := wd.length) (fun i m mu _ => ∃ ys, m = [(Str.ofString "tape", Value.ref D), (Str.ofString "size", .int (wd.length : Int) t1), (Str.ofString "word", .str (sT wd) t2), (Str.ofString "numbers", .ref N)] ∧ mu = [(D, listP ys)] ∧ IntL ys (tapeU wd i)) (fun _ _ _ _ _ _ e => e)
    (S3.lessL (m' := [(Str.ofString "tape", Value.ref D), (Str.ofString "size", .int (wd.length : Int) t1), (Str.ofString "word", .str (sT wd) t2), (Str.ofString "numbers", .ref N)]) ⟨rfl, rfl, rfl, rfl, trivial⟩)
    hr3 (by omega) (by omega) R.hh ⟨_, rfl, rfl, ValL.nil⟩ ?hk ?hx ?step ?done (fun _ _ e => e)
  case hk => rw [hE.eq] <;> rfl
  case hx => rw [hE.eq] <;> rfl
  case step =>
    intro I i tv m₁ mu₁ h4 tk4 oI g₁ hi k4 hj S4
    obtain ⟨ys, rfl, rfl, hys⟩ := hj
    rw [Int.zero_add] at S4
    walk_at "w"
    refine evalComp ?hok ?hkind ?hnames ?hs ?_
    case hok => rw [hE.eq] <;> rfl
    case hkind => rfl
    case hnames => decide +kernel
    case hs => intro _; rfl
    walk_at "w"
    refine SlP.sn (by omega) (hbig _ (by omega)) ?_
    intro h5 u5 tk5 k5
    have S5 := S4.keeps k5
    rw [Int.toNat_natCast]
    refine compS (mf := []) S5 R.hh (fun q hq => by cases hq) (by rw [hE.eq] <;> rfl) (by decide +kernel) rfl (.inl rfl) (fun q hq => by cases hq) ?hsz (fun k us _ => us.length = k ∧ IntL us (((wd.drop i).take k).map Int.ofNat)) (fun _ _ _ _ _ e => e) ⟨rfl, ValL.nil⟩ (step0 ?stp) (fRrV S5 (fun _ _ _ _ e => e) ?fin)
    case hsz => rw [sizeLine_eq]; simp; omega
    case stp =>
      intro j v us h6 tk6 C cenv Hc hj' hv hcenv k6 hju hle S6
      obtain ⟨c, tc, hc, rfl⟩ := hv
      have hcl : (wd.drop i)[j]? = some c := by simpa using hc
      have hE2 := hcenv
      rw [hE.eq] at hE2
      walk_at "w"
      refine fOrd ?_
      intro u7 tk7
      refine ElP.intro S6 ⟨by rw [List.length_append, hju.1]; rfl, ?_⟩
      rw [take_snoc hcl, List.map_append]
      exact hju.2.snoc rfl
    case fin =>
      intro D6 h6 tk6 us S6 k6 hD6 hju
      have hus : IntL us ((wd.drop i).map Int.ofNat) := by
        have := hju.2
        rwa [show (sT (wd.drop i)).cps.size = (wd.drop i).length by simp, List.take_length] at this
      have husl := hus.len
      rw [List.length_map, List.length_drop] at husl
      walk_at "w"
      rename_i u7 tk7
      with_reducible refine' fListV S6 ?_ ?sz
      case sz => exact (show (1 : Nat) ≤ sizeLine by decide)
      intro D7 h7 S7 k7 hD7
      replace hD6 := plK hD6 k7
      walk_at "w"
      refine fMulL S7 (plV hD7) (by simp) (by omega) (by omega) (show (1 : Nat) ≤ 1000 by decide) ?_
      intro D8 h8 S8 k8 hD8
      replace hD6 := plK hD6 k8
      rw [Int.toNat_natCast] at hD8
      have h64 : ∀ n : Nat, IntL (List.replicate n [Value.int 64 u7]).flatten (List.replicate n 64) := fun n => by
        induction n with
        | zero => exact ValL.nil
        | succ n ih => rw [List.replicate_succ, List.flatten_cons, List.replicate_succ]; exact ValL.append (as := [64]) ⟨[(64, u7)], rfl, rfl⟩ ih
      have hoc : IntL (us ++ (List.replicate i [Value.int 64 u7]).flatten) (octs wd i) := hus.append (h64 i)
      have hocl := hoc.len
      rw [octs_len wd (by omega)] at hocl
      refine fAddL S8 (plV hD6).isList (plV hD8).isList (by rw [← List.length_append, hocl]; exact hbig _ (by omega)) ?_
      intro D' h9 S9 k9
      obtain ⟨os', hos⟩ : ∃ os', us ++ (List.replicate i [Value.int 64 u7]).flatten = os' := ⟨_, rfl⟩
      rw [hos] at S9 hoc hocl
      obtain ⟨io, lo, hio⟩ : ∃ io lo, os' = io ++ [lo] := ⟨os'.dropLast, os'.getLast (fun e => by rw [e] at hocl; simp at hocl; omega), (List.dropLast_concat_getLast _).symm⟩
      obtain ⟨di, dl, hdi⟩ : ∃ di dl, octs wd i = di ++ [dl] := ⟨(octs wd i).dropLast, (octs wd i).getLast (fun e => by have := octs_len wd (show i ≤ wd.length by omega); rw [e] at this; simp at this; omega), (List.dropLast_concat_getLast _).symm⟩
      subst hio
      rw [hdi] at hoc
      obtain ⟨hio, tl, rfl⟩ := hoc.unsnoc
      rw [List.length_append] at hocl
      have hseg : segO wd i = di ++ [dl - 64] := by
        unfold segO
        rw [hdi, List.dropLast_concat]
        congr 1
        simp
      walk_at "w"
      rename_i h10 tk10 S10 K10 u11 tk11 u12 tk12
      refine fItemLast (ownL S10).isList (hbig _ (by omega)) ?_ rfl (fun _ => rfl)
      walk_at "w"
      rename_i u13 tk13 u14 tk14 u15 tk15 u16 tk16
      refine fSetLast S10 ?_
      intro h17 S17 k17
      walk_at "w"
      have SR := S17.rot3
      refine getM_extend (ownL SR) ?_
      dsimp only
      walk_at "w"
      have hys' := hys.len
      rw [tapeU_len wd hw1 (by omega)] at hys'
      have hmul : i * wd.length ≤ 10 * 10 := Nat.mul_le_mul (by omega) hw10
      refine fExtM SR (ownL S17) (hbig _ (by rw [List.length_append]; simp only [List.length_cons, List.length_nil] at *; omega)) ?_
      intro h18 S18 k18
      walk_at "w"
      obtain ⟨S19, k19⟩ := S18.swap.letGo
      refine ⟨_, _, _, _, rfl, S19.swap.lessL (m' := [(Str.ofString "tape", Value.ref D), (Str.ofString "size", .int (wd.length : Int) t1), (Str.ofString "word", .str (sT wd) t2), (Str.ofString "numbers", .ref N)]) ⟨rfl, rfl, rfl, rfl, trivial⟩, _, rfl, rfl, ?_⟩
      show IntL _ (tapeU wd i ++ segO wd i)
      rw [hseg]
      exact hys.append (hio.snoc rfl)
  case done =>
    intro h' tk' m' mu' S9 k9 hj
    obtain ⟨ys, rfl, rfl, hys⟩ := hj
    replace hN := hN.at fun o e => k9 _ _ e
    obtain ⟨hD, S10, k10⟩ := S9.doneL
    replace hN := hN.at fun o e => k10 _ _ e
    have hn5 := List.getElem?_eq_getElem (show 5 < nums.length by omega)
    rw [hn5] at hnext
    generalize nums[5] = n5 at hn5 hnext
    obtain ⟨t5, hv5⟩ := hvn.get hn5
    dsimp only [Option.getD_some] at hnext
    walk_at "w"
    refine fItemL (hN.at fun o e => vis_self _ _ e) (by decide) (by decide) (v := .int n5 t5) hv5 ?_ rfl (fun _ => rfl)
    walk_at "w"
    rename_i u11 tk11 u12 tk12 h13 tk13 S13 K13
    replace hN := hN.at fun o e => K13 _ _ e
    replace hD := plK hD K13
    have hyl := hys.len
    rw [tapeU_len wd hw1 (Nat.le_refl _)] at hyl
    have hmul : wd.length * wd.length ≤ 10 * 10 := Nat.mul_le_mul hw10 hw10
    have htl := tapeU_len wd hw1 (Nat.le_refl wd.length)
    refine evalComp ?hok ?hkind ?hnames ?hs ?_
    case hok => rw [hE.eq] <;> rfl
    case hkind => rfl
    case hnames => decide +kernel
    case hs => intro _; rfl
    walk_at "w"
    refine fLenL (plV hD).isList (hbig _ (by omega)) ?_
    intro u14 tk14
    walk_at "w"
    refine fRng1 S13 ?_
    intro D15 h15 tk15 u15 u15' S15 k15 hr15
    replace hN := hN.at fun o e => k15 _ _ e
    replace hD := plK hD k15
    walk_at "w"
    have h3a := Int.fmod_nonneg_of_pos n5 (show (0 : Int) < 3 by decide)
    generalize hsh : n5.fmod 3 = sh at *
    refine compR (n := ys.length) (mf := [(Str.ofString "shift", Value.int sh u12), (Str.ofString "tape", Value.ref D)]) S15 hr15 (by omega) (by omega) R.hh ?hmf ?hok ?hnd rfl (.inl rfl) ?hxm (hbig _ (by omega)) (fun k us _ => us.length = k ∧ IntL us ((tapeM wd sh).take k)) (fun _ _ _ _ _ e => e) ⟨rfl, ValL.nil⟩ (step0 ?stp) (fRrV S15 (fun _ _ _ _ e => e) ?fin)
    case hmf =>
      intro q hq
      simp only [List.mem_cons, List.not_mem_nil, or_false] at hq
      rcases hq with rfl | rfl
      · exact ⟨rfl, rfl⟩
      · exact ⟨rfl, rfl⟩
    case hok => rw [hE.eq] <;> rfl
    case hnd => decide +kernel
    case hxm =>
      intro q hq
      simp only [List.mem_cons, List.not_mem_nil, or_false] at hq
      rcases hq with rfl | rfl
      · show Str.ofString "shift" ≠ Str.ofString "j"; decide
      · show Str.ofString "tape" ≠ Str.ofString "j"; decide
    case stp =>
      intro j v us h16 tk16 C cenv Hc hj' hv hcenv k16 hju hle S16
      obtain ⟨tv, rfl⟩ := hv
      rw [Int.zero_add] at S16
      have hE2 := hcenv
      rw [hE.eq] at hE2
      have hx := List.getElem?_eq_getElem (show j < (tapeU wd wd.length).length by omega)
      have hm : (tapeM wd sh)[j]? = some (if ((j : Int) + sh).fmod 3 = 0 then (tapeU wd wd.length)[j] + 128 else (tapeU wd wd.length)[j]) := by
        unfold tapeM
        rw [List.getElem?_map, List.getElem?_range (by omega), Option.map_some, hx]; rfl
      generalize (tapeU wd wd.length)[j]'(by omega) = xv at hx hm
      obtain ⟨tx, hvx⟩ := hys.get hx
      walk_at "w"
      by_cases h0 : ((j : Int) + sh).fmod 3 = 0
      · rw [if_pos (by simpa using h0)]
        walk_at "w"
        refine fItemL (plV (plK hD k16)).isList (by omega) (by omega) (v := .int xv tx) (by rw [Int.toNat_natCast]; exact hvx) ?_ rfl (fun _ => rfl)
        walk_at "w"
        refine ElP.intro S16 ⟨by rw [List.length_append, hju.1]; rfl, ?_⟩
        rw [if_pos h0] at hm
        rw [take_snoc hm]
        exact hju.2.snoc rfl
      · rw [if_neg (by simpa using h0)]
        walk_at "w"
        refine fItemL (plV (plK hD k16)).isList (by omega) (by omega) (v := .int xv tx) (by rw [Int.toNat_natCast]; exact hvx) ?_ rfl (fun _ => rfl)
        walk_at "w"
        refine ElP.intro S16 ⟨by rw [List.length_append, hju.1]; rfl, ?_⟩
        rw [if_neg h0] at hm
        rw [take_snoc hm]
        exact hju.2.snoc rfl
    case fin =>
      intro LT h16 tk16 us S16 k16 hLT hju
      replace hN := hN.at fun o e => k16 _ _ e
      have hus : IntL us (tapeM wd sh) := by
        have := hju.2
        rwa [List.take_of_length_le (by unfold tapeM; rw [List.length_map, List.length_range]; omega)] at this
      walk_at "w"
      refine fIter S16 (plV hLT).isList ?_
      intro I h17 S17 k17
      replace hN := hN.at fun o e => k17 _ _ e
      replace hLT := plK hLT k17
      walk_at "w"
      rename_i h18 tk18 S18 K18
      exact hnext h18 tk18 LT us I u12 (S18.lessL (m' := [(Str.ofString "feed", .ref I), (Str.ofString "shift", .int sh u12), (Str.ofString "size", .int (wd.length : Int) t1), (Str.ofString "word", .str (sT wd) t2), (Str.ofString "numbers", .ref N)]) ⟨rfl, rfl, rfl, rfl, rfl, trivial⟩)
        (hN.at fun o e => K18 _ _ e) (plK hLT K18).isList hus
end
noncomputable def okW (wd : List Nat) : Prop := ∀ c ∈ wd, c ∈ [97, 107, 109, 112]
noncomputable def dig (wd : List Nat) (i : Nat) : List Int := (wd.drop i).map (fun c => Int.ofNat c - 64) ++ List.replicate i 0
noncomputable def worthOf (wd : List Nat) (i : Nat) : Int := b64 (dig wd i)
theorem okW_bd {wd : List Nat} (h : okW wd) {c : Nat} (hc : c ∈ wd) : 97 ≤ c ∧ c ≤ 112 := by
  have := h c hc
  simp only [List.mem_cons, List.not_mem_nil, or_false] at this
  omega
theorem dig_len {wd : List Nat} {i : Nat} (h : i ≤ wd.length) : (dig wd i).length = wd.length := by unfold dig; rw [List.length_append, List.length_map, List.length_drop, List.length_replicate]; omega
theorem dig_bd {wd : List Nat} (hw : okW wd) {i : Nat} : ∀ x ∈ dig wd i, 0 ≤ x ∧ x < 64 := by
  intro x hx
  rcases List.mem_append.mp hx with hx | hx
  · obtain ⟨c, hc, rfl⟩ := List.mem_map.mp hx
    have := okW_bd hw (List.mem_of_mem_drop hc)
    have e : Int.ofNat c = (c : Int) := rfl
    rw [e]; omega
  · rw [List.eq_of_mem_replicate hx]; decide
theorem octs_dig {wd : List Nat} (hw : okW wd) {i j : Nat} (hi : i ≤ wd.length) (hj : j < wd.length) : ∃ x, (octs wd i)[j]? = some (x + 64) ∧ (dig wd i)[j]? = some x ∧ 0 ≤ x ∧ x < 64 := by
  by_cases hc : j < (wd.drop i).length
  · have hx := List.getElem?_eq_getElem hc
    have hm := List.getElem_mem hc
    generalize (wd.drop i)[j] = c at hx hm
    have hb := okW_bd hw (List.mem_of_mem_drop hm)
    have e : Int.ofNat c = (c : Int) := rfl
    refine ⟨Int.ofNat c - 64, ?_, ?_, by rw [e]; omega, by rw [e]; omega⟩
    · unfold octs
      rw [List.getElem?_append_left (by rw [List.length_map]; exact hc), List.getElem?_map, hx, Option.map_some]
      congr 1; omega
    · unfold dig
      rw [List.getElem?_append_left (by rw [List.length_map]; exact hc), List.getElem?_map, hx, Option.map_some]
  · have hl : (wd.drop i).length = wd.length - i := List.length_drop
    refine ⟨0, ?_, ?_, by decide, by decide⟩
    · unfold octs
      rw [List.getElem?_append_right (by rw [List.length_map]; omega), List.getElem?_replicate, if_pos (by rw [List.length_map]; omega)]; rfl
    · unfold dig
      rw [List.getElem?_append_right (by rw [List.length_map]; omega), List.getElem?_replicate, if_pos (by rw [List.length_map]; omega)]
theorem segO_get {wd : List Nat} (hw : okW wd) {i j : Nat} (hi : i ≤ wd.length) (hj : j < wd.length) : ∃ x, (dig wd i)[j]? = some x ∧ 0 ≤ x ∧ x < 64 ∧ (segO wd i)[j]? = some (if j + 1 < wd.length then x + 64 else x) := by
  obtain ⟨x, h1, h2, h3, h4⟩ := octs_dig hw hi hj
  refine ⟨x, h2, h3, h4, ?_⟩
  have hl := octs_len wd hi
  unfold segO
  by_cases hc : j + 1 < wd.length
  · rw [if_pos hc, List.getElem?_append_left (by rw [List.length_dropLast]; omega), List.getElem?_dropLast, if_pos (by omega), h1]
  · rw [if_neg hc, List.getElem?_append_right (by rw [List.length_dropLast]; omega)]
    have e0 : j - (octs wd i).dropLast.length = 0 := by rw [List.length_dropLast]; omega
    rw [e0]
    have hlast : (octs wd i).getLastD 0 = x + 64 := by
      rw [List.getLastD_eq_getLast?, List.getLast?_eq_getElem?, hl, show wd.length - 1 = j by omega, h1]; rfl
    rw [hlast]
    show some (x + 64 - 64) = some x
    congr 1; omega
theorem tapeU_get {wd : List Nat} (h1 : 1 ≤ wd.length) : ∀ {n k j : Nat}, n ≤ wd.length → k < n → j < wd.length → (tapeU wd n)[k * wd.length + j]? = (segO wd k)[j]?
  | 0, _, _, _, hk, _ => absurd hk (Nat.not_lt_zero _)
  | n + 1, k, j, hn, hk, hj => by
    unfold tapeU
    have hl := tapeU_len wd h1 (show n ≤ wd.length by omega)
    rcases Nat.lt_succ_iff_lt_or_eq.mp hk with h | rfl
    · have hlt : k * wd.length + j < (tapeU wd n).length := by
        rw [hl]
        have : (k + 1) * wd.length ≤ n * wd.length := Nat.mul_le_mul_right _ h
        rw [Nat.add_mul] at this; omega
      rw [List.getElem?_append_left hlt, tapeU_get h1 (by omega) h hj]
    · rw [List.getElem?_append_right (by omega), hl, Nat.add_sub_cancel_left]
theorem run_ok {wd : List Nat} (hw : okW wd) (h1 : 1 ≤ wd.length) (sh : Int) {i : Nat} (hi : i < wd.length) : Run (tapeM wd sh) (i * wd.length) (dig wd i) where
  dig := dig_bd hw
  at' := fun j hj => by
    rw [dig_len (by omega)] at hj
    obtain ⟨x, h2, h3, h4, h5⟩ := segO_get hw (show i ≤ wd.length by omega) hj
    have hg := tapeU_get h1 (Nat.le_refl wd.length) hi hj
    rw [h5] at hg
    have hlt := (List.getElem?_eq_some_iff.mp hg).1
    have hm : (tapeM wd sh)[i * wd.length + j]? = some (if (((i * wd.length + j : Nat) : Int) + sh).fmod 3 = 0 then (if j + 1 < wd.length then x + 64 else x) + 128 else (if j + 1 < wd.length then x + 64 else x)) := by
      unfold tapeM
      rw [List.getElem?_map, List.getElem?_range hlt, Option.map_some, hg]; rfl
    refine ⟨_, hm, ?_⟩
    rw [dig_len (by omega), h2]
    by_cases hc : j + 1 < wd.length
    · rw [if_pos hc]
      split
      · exact ⟨by omega, by omega, by congr 1; omega, fun _ => hc, fun _ => by omega⟩
      · exact ⟨by omega, by omega, by congr 1; omega, fun _ => hc, fun _ => by omega⟩
    · rw [if_neg hc]
      split
      · exact ⟨by omega, by omega, by congr 1; omega, fun h => by omega, fun h => absurd h hc⟩
      · exact ⟨by omega, by omega, by congr 1; omega, fun h => by omega, fun h => absurd h hc⟩
theorem b64_zeros (d : List Int) : ∀ i : Nat, b64 (d ++ List.replicate i 0) = b64 d * 64 ^ i
  | 0 => by simp
  | i + 1 => by
    rw [List.replicate_succ', ← List.append_assoc, b64_snoc, b64_zeros d i, Int.pow_succ, Int.add_zero, Int.mul_assoc]
theorem worth_due (wd : List Nat) (i : Nat) : worthOf wd i = b64 ((wd.drop i).map (fun c => Int.ofNat c - 64)) * 64 ^ i := b64_zeros _ i
section
variable {w : World} {mean : ExcName → Option Value} {mg mb : Str → Option Value} {A : Around} {E : Value → Shared → Prop} {hp g₀ : Heap} {Hs : List Addr} {gn : Array GenState} {dr : Drawn} {tk : Nat} {os : OsState} {env : Env} {L : Addr}
theorem ph3 {N LT I : Addr} {vl : List Value} {wd : List Nat} {sh : Int} {t1 t2 t3 : Tok} {Q : Flow → Shared → Prop} (R : Rm A 8) (hE0 : LawEnv env L)
    (S : Sx w mean mg mb g₀ (I :: Hs) env (ownOf env) [(Str.ofString "feed", .ref I), (Str.ofString "shift", .int sh t3), (Str.ofString "size", .int (wd.length : Int) t1), (Str.ofString "word", .str (sT wd) t2), (Str.ofString "numbers", .ref N)] [(I, iterP LT 0)] hp)
    (hLT : (hideAll hp (I :: Hs)).IsList LT vl.toArray) (hvl : IntL vl (tapeM wd sh)) (hw : okW wd) (hw1 : 1 ≤ wd.length) (hw10 : wd.length ≤ 10)
    (hnext : ∀ h' k WL vw, Keeps (hideAll hp (I :: Hs)) (hideAll h' (I :: Hs)) → Sx w mean mg mb g₀ (I :: Hs) env (ownOf env) [(Str.ofString "worths", .ref WL), (Str.ofString "feed", .ref I), (Str.ofString "shift", .int sh t3), (Str.ofString "size", .int (wd.length : Int) t1), (Str.ofString "word", .str (sT wd) t2), (Str.ofString "numbers", .ref N)] [(I, iterP LT (wd.length * wd.length))] h' →
      (hideAll h' (I :: Hs)).PlainList WL vw.toArray → IntL vw ((List.range wd.length).map (worthOf wd)) → wpAny (model pw w) A (execs ((fbody (st 16)).drop 13) env) Q E ⟨h', gn, dr, k, os⟩) :
    wpAny (model pw w) A (execs ((fbody (st 16)).drop 11) env) Q E ⟨hp, gn, dr, tk, os⟩ := by
  obtain ⟨cdv, hE⟩ := hE0
  obtain ⟨r, hr⟩ : ∃ x, x = (fbody (st 16)).drop 13 := ⟨_, rfl⟩
  rw [← hr] at hnext
  obtain ⟨bd, hbd⟩ : ∃ x, x = (fbody (st 16)).drop 11 := ⟨_, rfl⟩
  obtain ⟨sc, hsc⟩ : ∃ x, x = fscope (st 16) := ⟨_, rfl⟩
  rw [← hsc] at hE
  rw [← hbd]
  conv at hbd => rhs; whnf
  conv at hsc => rhs; whnf
  conv at hr => rhs; whnf
  rw [← hr] at hbd
  clear hr
  subst hbd hsc
  have hbig : ∀ n : Nat, n ≤ 1000 → n ≤ sizeLine := fun n hn => by rw [sizeLine_eq]; omega
  walk_at "w"
  with_reducible refine' fListM S ?_ ?sz
  case sz => exact (show (0 : Nat) ≤ sizeLine by decide)
  intro WL h1 S1 k1
  replace hLT := hLT.at fun o e => k1 _ _ e
  walk_at "w"
  rename_i h2 tk2 S2 K2
  replace hLT := hLT.at fun o e => K2 _ _ e
  refine fRng1 S2 ?_
  intro D3 h3 tk3 u3 u3' S3 k3 hr3
  replace hLT := hLT.at fun o e => k3 _ _ e
  walk_at "w"
  refine fForR (n := wd.length) (fun i m mu _ => ∃ ys, m = [(Str.ofString "worths", Value.ref WL), (Str.ofString "feed", .ref I), (Str.ofString "shift", .int sh t3), (Str.ofString "size", .int (wd.length : Int) t1), (Str.ofString "word", .str (sT wd) t2), (Str.ofString "numbers", .ref N)] ∧ mu = [(WL, listP ys), (I, iterP LT (i * wd.length))] ∧ IntL ys (((List.range wd.length).map (worthOf wd)).take i)) (fun _ _ _ _ _ _ e => e)
    (S3.lessL (m' := [(Str.ofString "worths", Value.ref WL), (Str.ofString "feed", .ref I), (Str.ofString "shift", .int sh t3), (Str.ofString "size", .int (wd.length : Int) t1), (Str.ofString "word", .str (sT wd) t2), (Str.ofString "numbers", .ref N)]) ⟨rfl, rfl, rfl, rfl, rfl, rfl, trivial⟩)
    hr3 (by omega) (by omega) R.hh ⟨_, rfl, by rw [Nat.zero_mul], ValL.nil⟩ ?hk ?hx ?step ?done (fun _ _ e => e)
  case hk => rw [hE.eq] <;> rfl
  case hx => rw [hE.eq] <;> rfl
  case step =>
    intro J0 i tv m₁ mu₁ h4 tk4 oI g₁ hi k4 hj S4
    obtain ⟨ys, rfl, rfl, hys⟩ := hj
    rw [Int.zero_add] at S4
    have hLT4 := hLT.at fun o e => k4 _ _ e
    walk_at "w"
    rename_i u5 tk5 h6 tk6 S6 K6
    refine SlP.sn (by omega) (hbig _ (by omega)) ?_
    intro h7 u7 tk7 k7
    have S7 := S6.keeps k7
    rw [Int.toNat_natCast]
    generalize hdd : wd.drop i = dd at *
    have hddl : dd.length = wd.length - i := by rw [← hdd, List.length_drop]
    have hddw : ∀ c ∈ dd, 97 ≤ c ∧ c ≤ 112 := fun c hc => okW_bd hw (by rw [← hdd] at hc; exact List.mem_of_mem_drop hc)
    have hddb : ∀ x ∈ dd.map (fun c => Int.ofNat c - 64), 0 ≤ x ∧ x < 64 := fun x hx => by
      obtain ⟨c, hc, rfl⟩ := List.mem_map.mp hx
      have := hddw c hc
      have e : Int.ofNat c = (c : Int) := rfl
      rw [e]; omega
    have hb10 : ∀ n : Nat, n ≤ 10 → (64 : Int) ^ n ≤ 1152921504606846976 := fun n hn => by
      have := List.all_eq_true.mp (show (List.range 11).all (fun n => decide ((64 : Int) ^ n ≤ 1152921504606846976)) = true by decide +kernel) n (List.mem_range.mpr (by omega))
      simpa using this
    refine fForS (fun k m mu _ => ∃ td, m = [(Str.ofString "due", Value.int (b64 ((dd.map (fun c => Int.ofNat c - 64)).take k)) td), (Str.ofString "place", .int (i : Int) tv), (Str.ofString "worths", Value.ref WL), (Str.ofString "feed", .ref I), (Str.ofString "shift", .int sh t3), (Str.ofString "size", .int (wd.length : Int) t1), (Str.ofString "word", .str (sT wd) t2), (Str.ofString "numbers", .ref N)] ∧ mu = [(J0, (· = oI)), (WL, listP ys), (I, iterP LT (i * wd.length))]) (fun _ _ _ _ _ _ e => e)
      (S7.lessL (m' := [(Str.ofString "due", Value.int 0 _), (Str.ofString "place", .int (i : Int) tv), (Str.ofString "worths", Value.ref WL), (Str.ofString "feed", .ref I), (Str.ofString "shift", .int sh t3), (Str.ofString "size", .int (wd.length : Int) t1), (Str.ofString "word", .str (sT wd) t2), (Str.ofString "numbers", .ref N)]) ⟨rfl, rfl, rfl, rfl, rfl, rfl, rfl, rfl, trivial⟩)
      R.hh ⟨_, rfl, rfl⟩ ?hk ?hx ?step2 ?done2 (fun _ _ e => e)
    case hk => rw [hE.eq] <;> rfl
    case hx => rw [hE.eq] <;> rfl
    case step2 =>
      intro J1 j c tc m₁ mu₁ h8 tk8 oJ g₂ hc k8 hj2 S8
      obtain ⟨td, rfl, rfl⟩ := hj2
      have hjl : j < dd.length := (List.getElem?_eq_some_iff.mp hc).1
      have hcm : (dd.map (fun c => Int.ofNat c - 64))[j]? = some (Int.ofNat c - 64) := by rw [List.getElem?_map, hc]; rfl
      have hbd := b64_bd j ((dd.map (fun c => Int.ofNat c - 64)).take j) (by rw [List.length_take, List.length_map]; omega) (fun x hx => hddb x (List.mem_of_mem_take hx))
      have h10 := hb10 j (by omega)
      walk_at "w"
      refine fMulI (by omega) (by omega) ?_
      intro _ _
      walk_at "w"
      refine fOrd ?_
      intro _ _
      walk_at "w"
      rename_i h9 tk9 S9 K9
      have e : b64 ((dd.map (fun c => Int.ofNat c - 64)).take (j + 1)) = b64 ((dd.map (fun c => Int.ofNat c - 64)).take j) * 64 + (c : Int) - 64 := by
        rw [take_snoc hcm, b64_snoc]
        have e : Int.ofNat c = (c : Int) := rfl
        rw [e]; omega
      refine ⟨_, _, _, _, rfl, S9.lessL (m' := [(Str.ofString "due", Value.int (b64 ((dd.map (fun c => Int.ofNat c - 64)).take j) * 64 + (c : Int) - 64) _), (Str.ofString "place", .int (i : Int) tv), (Str.ofString "worths", Value.ref WL), (Str.ofString "feed", .ref I), (Str.ofString "shift", .int sh t3), (Str.ofString "size", .int (wd.length : Int) t1), (Str.ofString "word", .str (sT wd) t2), (Str.ofString "numbers", .ref N)]) ⟨rfl, rfl, rfl, rfl, rfl, rfl, rfl, rfl, trivial⟩, _, by rw [e], rfl⟩
    case done2 =>
      intro h8 tk8 m' mu' S8 k8 hj2
      obtain ⟨td, rfl, rfl⟩ := hj2
      rw [List.take_of_length_le (by rw [List.length_map]; omega)] at S8
      have hLT8 := (hLT4.at fun o e => K6 _ _ e).at fun o e => (vis_keeps k7) _ _ e
      replace hLT8 := hLT8.at fun o e => k8 _ _ e
      have hbd := b64_bd dd.length (dd.map (fun c => Int.ofNat c - 64)) (by rw [List.length_map]) hddb
      have h10 := hb10 dd.length (by omega)
      have hdue : worthOf wd i = b64 (dd.map (fun c => Int.ofNat c - 64)) * 64 ^ i := by rw [← hdd]; exact worth_due wd i
      walk_at "w"
      have SR := S8.rot3
      have hdl := dig_len (wd := wd) (i := i) (by omega)
      refine parse_ (s := ⟨h8, gn, dr, tk8, os⟩) (R.less (by decide)) S8.cx SR.iter (by simp) hLT8 hvl (run_ok hw hw1 sh hi) (by omega) (by omega) ?_
      intro h9 tk9 u9 hkeep hit
      obtain ⟨o9, e9, hP9⟩ := iterP_of hit
      obtain ⟨S9, k9⟩ := SR.ext (P' := iterP LT (i * wd.length + (dig wd i).length)) hkeep e9 hP9
      dsimp only
      walk_at "w"
      rename_i h10' tk10 S10 K10 u11 tk11
      refine fPow (by omega) (by omega) (by decide) ?_
      intro u12 tk12
      refine fMulI (by omega) (by omega) ?_
      intro u13 tk13
      walk_at "w"
      have hne : (b64 (dig wd i) != b64 (dd.map (fun c => Int.ofNat c - 64)) * 64 ^ (i : Int).toNat) = false := by
        rw [Int.toNat_natCast, ← hdue]; show (worthOf wd i != worthOf wd i) = false; simp
      rw [hne, if_neg Bool.false_ne_true]
      walk_at "w"
      have SW := S10.rot3
      refine getM_append (ownL SW) ?_
      dsimp only
      walk_at "w"
      have hyl := hys.len
      rw [List.length_take, List.length_map, List.length_range] at hyl
      refine fAppM SW (hbig _ (by omega)) ?_
      intro h14 S14 k14
      walk_at "w"
      have e14 : i * wd.length + (dig wd i).length = (i + 1) * wd.length := by rw [hdl, Nat.add_mul]; omega
      rw [e14] at S14
      have hwi : ((List.range wd.length).map (worthOf wd))[i]? = some (worthOf wd i) := by rw [List.getElem?_map, List.getElem?_range hi]; rfl
      refine ⟨_, _, _, _, rfl, S14.rot3.lessL (m' := [(Str.ofString "worths", Value.ref WL), (Str.ofString "feed", .ref I), (Str.ofString "shift", .int sh t3), (Str.ofString "size", .int (wd.length : Int) t1), (Str.ofString "word", .str (sT wd) t2), (Str.ofString "numbers", .ref N)]) ⟨rfl, rfl, rfl, rfl, rfl, rfl, trivial⟩, _, rfl, rfl, ?_⟩
      rw [take_snoc hwi]
      exact hys.snoc rfl
  case done =>
    intro h' tk' m' mu' S9 k9 hj
    obtain ⟨ys, rfl, rfl, hys⟩ := hj
    rw [List.take_of_length_le (by rw [List.length_map, List.length_range]; exact Nat.le_refl _)] at hys
    obtain ⟨hWL, S10, k10⟩ := S9.doneL
    exact hnext h' tk' WL ys ((((k1.trans K2).trans k3).trans k9).trans k10) S10 hWL hys
end
theorem exc_stop : isSubtype (.type "StopIteration") (.type "BaseException") = pure true := by rw [isSubtype_type]; kernel_rfl
theorem meta_stop : isSubtype (.type ((Manifest.find? "StopIteration").elim "type" fun x => x.metatype)) (.type "tuple") = pure false := by rw [isSubtype_type]; kernel_rfl
theorem self_stop : isSubtype (.type "StopIteration") (.type "StopIteration") = pure true := by rw [isSubtype_type]; kernel_rfl
noncomputable def rankOf (ws : List Int) (x : Int) : Int := ((ws.filter fun y => decide (y < x)).length : Int)
section
variable {w : World} {mean : ExcName → Option Value} {mg mb : Str → Option Value} {A : Around} {E : Value → Shared → Prop} {hp g₀ h' : Heap} {Hs : List Addr} {gn : Array GenState} {dr : Drawn} {tk : Nat} {os : OsState} {env : Env} {L : Addr}
theorem Sx.caught {m : List (Str × Value)} {I : Addr} {P : Obj → Prop} (S : Sx w mean mg mb g₀ (I :: Hs) env (ownOf env) m [(I, P)] hp) (h1 : ∀ b o, b ≠ I → b ≠ env.locals → hp.get? b = some o → h'.get? b = some o)
    (hI : ∃ o, h'.get? I = some o) (hL : ∀ o, hp.get? env.locals = some o → ∃ sl, h'.get? env.locals = some { o with slots := sl }) : Sx w mean mg mb g₀ Hs env (ownOf env) m [] h' ∧ Keeps (hideAll hp (I :: Hs)) (hideAll h' Hs) := by
  have hIo : I ∉ ownOf env := fun q => S.head_out (List.mem_append_left _ q)
  have hLH := (S.wr env.locals (List.mem_append_left _ List.mem_cons_self)).1
  have kk : Keeps (hideAll hp (I :: Hs)) (hideAll h' (I :: Hs)) := vis_to (fun b o hb e => h1 b o (fun q => hb (q ▸ List.mem_cons_self)) (fun q => hb (q ▸ hLH)) e) fun b hb => .inl hb
  have live : ∀ b, (∃ o, hp.get? b = some o) → ∃ o, h'.get? b = some o := fun b ⟨o, e⟩ => by
    by_cases q1 : b = I
    · rw [q1]; exact hI
    · by_cases q2 : b = env.locals
      · rw [q2] at e ⊢; obtain ⟨sl, e'⟩ := hL o e; exact ⟨_, e'⟩
      · exact ⟨o, h1 b o q1 q2 e⟩
  have S' : Sx w mean mg mb g₀ (I :: Hs) env (ownOf env) m [(I, fun _ => True)] h' := by
    refine ⟨fun b o e => h1 b o (fun q => ?_) (fun q => ?_) (S.base b o e), ⟨S.cx.gd.keeps kk, fun b hb => live b (S.cx.live b hb), S.cx.nd⟩, ⟨?_, fun x c hl hk => ?_, S.vars.apart, fun b hb => live b (S.vars.live b hb)⟩, fun p hp => ?_, S.wr, S.nd⟩
    · have := (S.wr I (List.mem_append_right _ List.mem_cons_self)).2; rw [← q, e] at this; cases this
    · have := (S.wr env.locals (List.mem_append_left _ List.mem_cons_self)).2; rw [← q, e] at this; cases this
    · obtain ⟨ml, ⟨o, es, ep, e, d, r⟩, q⟩ := S.vars.ns
      obtain ⟨sl, e'⟩ := hL o e
      exact ⟨ml, ⟨_, es, ep, e', d, r⟩, q⟩
    · obtain ⟨v0, ⟨o, ho, hd⟩, q⟩ := S.vars.cl x c hl hk
      have hc : c ∈ env.cells.map (·.2) := List.mem_map.mpr ⟨_, mem_of_lookup hl, rfl⟩
      exact ⟨v0, ⟨o, h1 c o (fun q => hIo (q ▸ List.mem_cons_of_mem _ hc)) (fun q => (List.nodup_cons.mp S.vars.apart).1 (q ▸ hc)) ho, hd⟩, q⟩
    · rw [List.mem_singleton.mp hp]
      obtain ⟨o, e⟩ := hI
      exact ⟨o, e, trivial⟩
  obtain ⟨S'', k2⟩ := S'.letGo
  exact ⟨S'', kk.trans k2⟩
theorem ph4 {N LT I WL : Addr} {vl vw : List Value} {wd : List Nat} {sh : Int} {ws : List Int} {t1 t2 t3 : Tok} {n : Nat} {Q : Flow → Shared → Prop} (R : Rm A 8) (hE0 : LawEnv env L) (hfr : A.frames = some [env])
    (S : Sx w mean mg mb g₀ (I :: Hs) env (ownOf env) [(Str.ofString "worths", .ref WL), (Str.ofString "feed", .ref I), (Str.ofString "shift", .int sh t3), (Str.ofString "size", .int (wd.length : Int) t1), (Str.ofString "word", .str (sT wd) t2), (Str.ofString "numbers", .ref N)] [(I, iterP LT n)] hp)
    (hLT : (hideAll hp (I :: Hs)).IsList LT vl.toArray) (hn : vl.length ≤ n) (hWL : (hideAll hp (I :: Hs)).PlainList WL vw.toArray) (hvw : IntL vw ws) (hws : ws.length ≤ 10)
    (hnext : ∀ h' k FL vf, Keeps (hideAll hp (I :: Hs)) (hideAll h' Hs) → Sx w mean mg mb g₀ Hs env (ownOf env) [(Str.ofString "firsts", .ref FL), (Str.ofString "shift", .int sh t3), (Str.ofString "size", .int (wd.length : Int) t1), (Str.ofString "word", .str (sT wd) t2), (Str.ofString "numbers", .ref N)] [] h' →
      (hideAll h' Hs).PlainList FL vf.toArray → IntL vf (ws.map (rankOf ws)) → wpAny (model pw w) A (execs ((fbody (st 16)).drop 14) env) Q E ⟨h', gn, dr, k, os⟩) :
    wpAny (model pw w) A (execs ((fbody (st 16)).drop 13) env) Q E ⟨hp, gn, dr, tk, os⟩ := by
  obtain ⟨cdv, hE⟩ := hE0
  obtain ⟨r, hr⟩ : ∃ x, x = (fbody (st 16)).drop 14 := ⟨_, rfl⟩
  rw [← hr] at hnext
  obtain ⟨bd, hbd⟩ : ∃ x, x = (fbody (st 16)).drop 13 := ⟨_, rfl⟩
  obtain ⟨sc, hsc⟩ : ∃ x, x = fscope (st 16) := ⟨_, rfl⟩
  rw [← hsc] at hE
  rw [← hbd]
  conv at hbd => rhs; whnf
  conv at hsc => rhs; whnf
  conv at hr => rhs; whnf
  rw [← hr] at hbd
  clear hr
  subst hbd hsc
  have hbig : ∀ n : Nat, n ≤ 1000 → n ≤ sizeLine := fun n hn => by rw [sizeLine_eq]; omega
  walk_at "w"
  refine wpAny_Try_except ?_
  walk_at "w"
  have hfrm : env.frame = some env.locals := by rw [hE.eq] <;> rfl
  have hkm : env.scope.kind ≠ .module := by rw [hE.eq]; exact (fun q => by cases q)
  obtain ⟨oL, hoL, hdL⟩ : ∃ o, hp.get? env.locals = some o ∧ ∀ vs, o.data ≠ .fields vs := by
    obtain ⟨ml, ⟨o, es, ep, e', d, r⟩, _⟩ := S.vars.ns
    exact ⟨o, e', fun vs q => by rw [d] at q; cases q⟩
  refine parse_stop (s := ⟨hp, gn, dr, _, os⟩) (R.less (by decide)) S.cx S.iter hLT hn hfr hfrm hkm hoL hdL ?_
  intro h1 tk1 e base X hold hIl hLn hsl
  dsimp only
  obtain ⟨sl1, hsl1⟩ := hsl
  refine exNote hfr hfrm X ?_
  intro h2 X2 U2
  refine exFlight X2 ?_
  intro h3 X3 U3
  have getL : ∀ {h'}, h1.UpToSlots h' → ∀ o, hp.get? env.locals = some o → ∃ sl, h'.get? env.locals = some { o with slots := sl } := fun U o e' => by
    rw [hoL] at e'; cases e'
    obtain ⟨sl, q⟩ := U _ _ hsl1 hdL
    exact ⟨sl, q⟩
  have mk : ∀ {h'}, EX base h' [env] e .none → h1.UpToSlots h' → Sx w mean mg mb g₀ Hs env (ownOf env) _ [] h' ∧ Keeps (hideAll hp (I :: Hs)) (hideAll h' Hs) := fun X' U => S.caught (fun b o q1 q2 e' => X'.stays b o (hold b o q1 q2 e')) (let ⟨o, e'⟩ := hIl; ⟨o, X'.stays _ o e'⟩) (getL U)
  obtain ⟨S3, k3⟩ := mk X3 (U2.trans U3)
  refine wpAny_handleBy_builtin (X := "StopIteration") (T := "StopIteration") (b := true) exc_stop meta_stop self_stop ?_
  walk_at "w"
  obtain ⟨oe3, vs3, T3, oT3, ts3, a1, a2, _⟩ := X3.there
  refine ⟨rfl, ⟨oe3, a1, a2⟩, ?_⟩
  rw [if_pos rfl]
  refine exFlight X3 ?_
  intro h4 X4 U4
  obtain ⟨S4, k4⟩ := mk X4 ((U2.trans U3).trans U4)
  refine wpAny_noRaise ?_
  obtain ⟨oe, ve, T4, oT4, ts4, c1, c2, c3, c4, _⟩ := X4.there
  have hP4 : HdlP oe := ⟨ve, c3, c4⟩
  have heHs : e ∉ Hs := fun hm => by
    obtain ⟨o, ho⟩ := S.cx.live e (List.mem_cons_of_mem _ hm)
    by_cases q1 : e = I
    · obtain ⟨o', e'⟩ := hIl
      rw [← q1, X4.new] at e'; cases e'
    · by_cases q2 : e = env.locals
      · rw [q2] at ho c1
        obtain ⟨sl, e'⟩ := getL ((U2.trans U3).trans U4) o ho
        rw [c1] at e'; cases e'
        rw [hoL] at ho; cases ho
        exact hdL _ c3
      · have := hold e o q1 q2 ho
        rw [X4.new] at this; cases this
  have he4 : (hideAll h4 Hs).get? e = some oe := hideAll_get _ c1 heHs
  have hh4 : (A.mark (some (.ref e))).handled = some (.ref e) := rfl
  have hW4 := plK hWL k4
  have hvl := hvw.len
  generalize hA4 : A.mark (some (.ref e)) = A4 at hh4 ⊢
  dsimp only
  walk_at "w"
  refine execComp ?hok ?hkind ?hnames ?hsw ?hs ?_
  case hok => rw [hE.eq] <;> rfl
  case hkind => rfl
  case hnames => decide +kernel
  case hsw => rw [hE.eq] <;> rfl
  case hs => intro _; rfl
  walk_at "w"
  refine compLH (s := ⟨h4, gn, dr, _, os⟩) (items := vw) (mf := [(Str.ofString "worths", Value.ref WL)]) S4 hW4.isList hh4 he4 hP4 ?hmf ?hok ?hnd rfl (.inr rfl) ?hxm (hbig _ (by omega)) (fun k us _ => us.length = k ∧ IntL us ((ws.map (rankOf ws)).take k)) (fun _ _ _ _ _ e => e) ⟨rfl, ValL.nil⟩ (step0 ?stp) (fRrA S4 (fun _ _ _ _ e => e) ?fin (by rw [hE.eq] <;> rfl) (by rw [hE.eq] <;> rfl))
  case hmf => intro q hq; rw [List.mem_singleton.mp hq]; exact ⟨rfl, rfl⟩
  case hok => rw [hE.eq] <;> rfl
  case hnd => decide +kernel
  case hxm => intro q hq; rw [List.mem_singleton.mp hq]; show Str.ofString "worths" ≠ Str.ofString "worth"; decide
  case stp =>
    intro i v us h5 tk5 C cenv Hc hi hv hcenv k5 hju hle S5
    obtain ⟨x, tx, hx, rfl⟩ := hvw.at hv
    have hE2 := hcenv
    rw [hE.eq] at hE2
    walk_at "w"
    refine evalComp ?hok ?hkind ?hnames ?hs ?_
    case hok => rw [hE2.eq] <;> rfl
    case hkind => rfl
    case hnames => decide +kernel
    case hs => intro _; rfl
    walk_at "w"
    refine compLH (s := ⟨h5, gn, dr, tk5, os⟩) (items := vw) (mf := [(Str.ofString "worth", Value.int x tx)]) S5 (plK hW4 k5).isList hh4 (k5 _ _ he4) hP4 ?hmf ?hok ?hnd rfl (.inl rfl) ?hxm (hbig _ (by omega)) (fun k us _ => us.length = ((ws.take k).filter fun y => decide (y < x)).length) (fun _ _ _ _ _ e => e) rfl (step1 ?stp2) (fRrV S5 (fun _ _ _ _ e => e) ?fin2)
    case hmf => intro q hq; rw [List.mem_singleton.mp hq]; exact ⟨rfl, rfl⟩
    case hok => rw [hE2.eq] <;> rfl
    case hnd => decide +kernel
    case hxm => intro q hq; rw [List.mem_singleton.mp hq]; show Str.ofString "worth" ≠ Str.ofString "other"; decide
    case stp2 =>
      intro j v us2 h6 tk6 C2 cenv2 Hc2 hj hv2 hcenv2 k6 hju2 hle2 S6
      obtain ⟨y, ty, hy, rfl⟩ := hvw.at hv2
      have hE3 := hcenv2
      rw [hE2.eq] at hE3
      walk_at "w"
      have hst : ((ws.take (j + 1)).filter fun y => decide (y < x)) = ((ws.take j).filter fun y => decide (y < x)) ++ (if y < x then [y] else []) := by
        rw [take_snoc hy, List.filter_append]
        congr 1
        by_cases h : y < x
        · simp [h]
        · simp [h]
      by_cases hlt : y < x
      · rw [if_pos (by simpa using hlt)]
        walk_at "w"
        refine ElP.intro S6 ?_
        rw [hst, if_pos hlt, List.length_append, List.length_append, hju2]; rfl
      · rw [if_neg (by simpa using hlt)]
        refine ElP.intro S6 ?_
        rw [hst, if_neg hlt, List.append_nil]; exact hju2
    case fin2 =>
      intro D7 h7 tk7 us2 S7 k7 hD7 hju2
      rw [hvl, List.take_length] at hju2
      walk_at "w"
      refine fLenL (plV hD7).isList (hbig _ (by rw [hju2]; exact Nat.le_trans (List.length_filter_le _ _) (by omega))) ?_
      intro u8 tk8
      refine ElP.intro S7 ⟨by rw [List.length_append, hju.1]; rfl, ?_⟩
      have hr : (ws.map (rankOf ws))[i]? = some (rankOf ws x) := by rw [List.getElem?_map, hx]; rfl
      rw [take_snoc hr]
      refine hju.2.snoc (t := u8) ?_
      show Value.int (us2.length : Int) u8 = Value.int (rankOf ws x) u8
      unfold rankOf
      rw [hju2]
  case fin =>
    intro FL h5 tk5 us S5 k5 hFL hju
    have hus : IntL us (ws.map (rankOf ws)) := by
      have := hju.2
      rwa [List.take_of_length_le (by rw [List.length_map]; omega)] at this
    subst hA4
    walk_at "w"
    exact hnext h5 tk5 FL us (k4.trans k5) (S5.lessL (m' := [(Str.ofString "firsts", .ref FL), (Str.ofString "shift", .int sh t3), (Str.ofString "size", .int (wd.length : Int) t1), (Str.ofString "word", .str (sT wd) t2), (Str.ofString "numbers", .ref N)]) ⟨rfl, rfl, rfl, rfl, rfl, trivial⟩) hFL hus
end
noncomputable def secOf (tw : List Nat) (i : Nat) : Int := (((List.range tw.length).filter fun k => decide (tw.drop k < tw.drop i)).length : Int)
noncomputable def secL (tw : List Nat) : List Int := (List.range tw.length).map (secOf tw)
section
variable {w : World} {mean : ExcName → Option Value} {mg mb : Str → Option Value} {A : Around} {E : Value → Shared → Prop} {hp g₀ h' : Heap} {Hs : List Addr} {gn : Array GenState} {dr : Drawn} {tk : Nat} {os : OsState} {env : Env} {L : Addr}
theorem secOf_bd {tw : List Nat} (h10 : tw.length ≤ 10) {i : Nat} (hi : i < tw.length) : 0 ≤ secOf tw i ∧ secOf tw i ≤ 9 := by
  unfold secOf
  have h1 : ((List.range tw.length).filter fun k => decide (tw.drop k < tw.drop i)).length < (List.range tw.length).length := by
    refine Nat.lt_of_le_of_ne (List.length_filter_le _ _) fun q => ?_
    have := List.length_filter_eq_length_iff.mp q i (List.mem_range.mpr hi)
    simp only [decide_eq_true_eq] at this
    exact absurd this (List.lt_irrefl _)
  rw [List.length_range] at h1
  omega
theorem leadOf_chars {s least most th c : Int} : ∀ x ∈ leadOf s least most th c, x = 32 ∨ x = 9 := by
  intro x hx
  unfold leadOf at hx
  have h1 : ∀ (n y : Nat) {x : Nat}, x ∈ (List.replicate n [y]).flatten → x = y := fun n y x h => by
    obtain ⟨l, hl, hx⟩ := List.mem_flatten.mp h
    rw [List.eq_of_mem_replicate hl] at hx
    exact List.mem_singleton.mp hx
  rcases List.mem_append.mp hx with hx | hx
  · rcases List.mem_append.mp hx with hx | hx
    · obtain ⟨l, hl, hx⟩ := List.mem_flatten.mp hx
      rw [List.eq_of_mem_replicate hl] at hx
      rcases List.mem_append.mp hx with hx | hx
      · exact .inl (h1 _ _ hx)
      · exact .inr (List.mem_singleton.mp hx)
    · exact .inr (h1 _ _ hx)
  · exact .inl (h1 _ _ hx)
theorem leadOf_len {s least most th c : Int} (hs : 2 ≤ s ∧ s ≤ 4) (hl : -20 ≤ least ∧ least ≤ 20) (hm : -20 ≤ most ∧ most ≤ 20) (ht : -20 ≤ th ∧ th ≤ 20) (hc : 0 ≤ c ∧ c ≤ 9) : (leadOf s least most th c).length ≤ 240 := by
  unfold leadOf
  have h1 := fdiv_bd hc.1 (show 1 ≤ s by omega)
  have h2 := Int.fmod_nonneg_of_pos c (show 0 < s by omega)
  have h3 := Int.fmod_lt_of_pos c (show 0 < s by omega)
  rw [List.length_append, List.length_append, repL_len, rep1_len, rep1_len, List.length_append, rep1_len]
  have h4 : (th - least).toNat * ((s - 1).toNat + [9].length) ≤ 40 * 4 := Nat.mul_le_mul (by omega) (by simp; omega)
  omega
theorem cwC {g₀ : Heap} {ow : List Addr} {m : List (Str × Value)} {mu : Mu} {pos : Pos} {first : List Value} {e : Expr} {rest : List Expr} {s : Shared} {Q : Value → Shared → Prop} (S : Sx w mean mg mb g₀ Hs env ow m mu s.heap)
    (h : wpAny (model pw w) A (spliced (backTo pos (starEach (e :: rest) env))) (fun vs s₁ => (K w.params).In s₁.heap ∧ wpAny (model pw w) A (call (.ref wsC) (first ++ vs)) Q E s₁) E s)
    (he : starEach (e :: rest) env = (false, eval e env) :: starEach rest env) (hplain : (backTo pos (starEach rest env)).any (·.1) = false) : wpAny (model pw w) A (callWith pos (.ref wsC) first (backTo pos (starEach (e :: rest) env)) []) Q E s :=
  callWith_K S.kin (by kernel_rfl) h he hplain
theorem ph5 {N FL : Addr} {vn vf : List Value} {wd : List Nat} {sh : Int} {rs nums : List Int} {t1 t2 t3 : Tok} {Q : Flow → Shared → Prop} (R : Rm A 8) (hE0 : LawEnv env L)
    (S : Sx w mean mg mb g₀ Hs env (ownOf env) [(Str.ofString "firsts", .ref FL), (Str.ofString "shift", .int sh t3), (Str.ofString "size", .int (wd.length : Int) t1), (Str.ofString "word", .str (sT wd) t2), (Str.ofString "numbers", .ref N)] [] hp)
    (hN : (hideAll hp Hs).IsList N vn.toArray) (hvn : IntL vn nums) (hn6 : nums.length = 6) (hFL : (hideAll hp Hs).PlainList FL vf.toArray) (hvf : IntL vf rs) (hrl : rs.length = wd.length) (hrb : ∀ r ∈ rs, 0 ≤ r ∧ r ≤ 9)
    (hw : okW wd) (hw1 : 1 ≤ wd.length) (hw10 : wd.length ≤ 10) (hsh : 0 ≤ sh ∧ sh ≤ 2)
    (hnext : ∀ h' k LL (vl : List Value) t4 least most (tw : List Nat), tw = wd.map (exch (((nums[5]?).getD 0).fdiv 3)) → Keeps (hideAll hp Hs) (hideAll h' Hs) → Sx w mean mg mb g₀ Hs env (ownOf env) [(Str.ofString "lines", .ref LL), (Str.ofString "twin", .str (sT tw) t4), (Str.ofString "size", .int (wd.length : Int) t1), (Str.ofString "word", .str (sT wd) t2)] [] h' →
      (hideAll h' Hs).PlainList LL vl.toArray → vl.length = wd.length →
      (least ∈ List.zipWith (thickOf (2 + sh)) rs (secL tw) ∧ ∀ a ∈ List.zipWith (thickOf (2 + sh)) rs (secL tw), least ≤ a) → (most ∈ List.zipWith (thickOf (2 + sh)) rs (secL tw) ∧ ∀ a ∈ List.zipWith (thickOf (2 + sh)) rs (secL tw), a ≤ most) →
      (∀ (i : Nat) v, vl[i]? = some v → ∃ x ld, v = Value.ref x ∧ (List.zipWith (leadOf (2 + sh) least most) (List.zipWith (thickOf (2 + sh)) rs (secL tw)) (secL tw))[i]? = some ld ∧ WsIs (hideAll h' Hs) x ld) →
      wpAny (model pw w) A (execs ((fbody (st 16)).drop 18) env) Q E ⟨h', gn, dr, k, os⟩) :
    wpAny (model pw w) A (execs ((fbody (st 16)).drop 14) env) Q E ⟨hp, gn, dr, tk, os⟩ := by
  obtain ⟨cdv, hE⟩ := hE0
  obtain ⟨r, hr⟩ : ∃ x, x = (fbody (st 16)).drop 18 := ⟨_, rfl⟩
  rw [← hr] at hnext
  obtain ⟨bd, hbd⟩ : ∃ x, x = (fbody (st 16)).drop 14 := ⟨_, rfl⟩
  obtain ⟨sc, hsc⟩ : ∃ x, x = fscope (st 16) := ⟨_, rfl⟩
  rw [← hsc] at hE
  rw [← hbd]
  conv at hbd => rhs; whnf
  conv at hsc => rhs; whnf
  conv at hr => rhs; whnf
  rw [← hr] at hbd
  clear hr
  subst hbd hsc
  have hbig : ∀ n : Nat, n ≤ 1000 → n ≤ sizeLine := fun n hn => by rw [sizeLine_eq]; omega
  have hn5 := List.getElem?_eq_getElem (show 5 < nums.length by omega)
  rw [hn5] at hnext
  generalize nums[5] = n5 at hn5 hnext
  obtain ⟨t5, hv5⟩ := hvn.get hn5
  dsimp only [Option.getD_some] at hnext
  walk_at "w"
  refine fItemL (hN.at fun o e => vis_self _ _ e) (by decide) (by decide) (v := .int n5 t5) hv5 ?_ rfl (fun _ => rfl)
  walk_at "w"
  refine exchanged_ (s := ⟨hp, gn, dr, _, os⟩) (R.less (by decide)) S.cx hw hw10 ?_
  intro h1 tk1 t4 k1
  have S1 := S.keeps k1
  replace hFL := plK hFL (vis_keeps k1)
  dsimp only
  obtain ⟨tw, htw⟩ : ∃ tw, tw = wd.map (exch (n5.fdiv 3)) := ⟨_, rfl⟩
  rw [← htw]
  have htl : tw.length = wd.length := by rw [htw, List.length_map]
  walk_at "w"
  rename_i h2 tk2 S2 K2
  replace hFL := plK hFL K2
  refine execComp ?hok ?hkind ?hnames ?hsw ?hs ?_
  case hok => rw [hE.eq] <;> rfl
  case hkind => rfl
  case hnames => decide +kernel
  case hsw => rw [hE.eq] <;> rfl
  case hs => intro _; rfl
  walk_at "w"
  refine fRng1 S2 ?_
  intro D3 h3 tk3 u3 u3' S3 k3 hr3
  replace hFL := plK hFL k3
  walk_at "w"
  refine compR (n := wd.length) (mf := [(Str.ofString "size", Value.int (wd.length : Int) t1), (Str.ofString "twin", .str (sT tw) t4)]) S3 hr3 (by omega) (by omega) R.hh ?hmf ?hok ?hnd rfl (.inr rfl) ?hxm (hbig _ (by omega)) (fun k us _ => us.length = k ∧ IntL us ((secL tw).take k)) (fun _ _ _ _ _ e => e) ⟨rfl, ValL.nil⟩ (step0 ?stp) (fRrA S3 (fun _ _ _ _ e => e) ?fin (by rw [hE.eq] <;> rfl) (by rw [hE.eq] <;> rfl))
  case hmf =>
    intro q hq
    simp only [List.mem_cons, List.not_mem_nil, or_false] at hq
    rcases hq with rfl | rfl
    · exact ⟨rfl, rfl⟩
    · exact ⟨rfl, rfl⟩
  case hok => rw [hE.eq] <;> rfl
  case hnd => decide +kernel
  case hxm =>
    intro q hq
    simp only [List.mem_cons, List.not_mem_nil, or_false] at hq
    rcases hq with rfl | rfl
    · show Str.ofString "size" ≠ Str.ofString "place"; decide
    · show Str.ofString "twin" ≠ Str.ofString "place"; decide
  case stp =>
    intro i v us h5 tk5 C cenv Hc hi hv hcenv k5 hju hle S5
    obtain ⟨tv, rfl⟩ := hv
    rw [Int.zero_add] at S5
    have hE2 := hcenv
    rw [hE.eq] at hE2
    walk_at "w"
    refine evalComp ?hok ?hkind ?hnames ?hs ?_
    case hok => rw [hE2.eq] <;> rfl
    case hkind => rfl
    case hnames => decide +kernel
    case hs => intro _; rfl
    walk_at "w"
    refine fRng1 S5 ?_
    intro D6 h6 tk6 u6 u6' S6 k6 hr6
    walk_at "w"
    refine compR (s := ⟨h6, gn, dr, _, os⟩) (n := wd.length) (mf := [(Str.ofString "place", Value.int (i : Int) tv), (Str.ofString "twin", .str (sT tw) t4)]) S6 hr6 (by omega) (by omega) R.hh ?hmf ?hok ?hnd rfl (.inl rfl) ?hxm (hbig _ (by omega)) (fun k us _ => us.length = ((List.range k).filter fun k => decide (tw.drop k < tw.drop i)).length) (fun _ _ _ _ _ e => e) rfl (step1 ?stp2) (fRrV S6 (fun _ _ _ _ e => e) ?fin2)
    case hmf =>
      intro q hq
      simp only [List.mem_cons, List.not_mem_nil, or_false] at hq
      rcases hq with rfl | rfl
      · exact ⟨rfl, rfl⟩
      · exact ⟨rfl, rfl⟩
    case hok => rw [hE2.eq] <;> rfl
    case hnd => decide +kernel
    case hxm =>
      intro q hq
      simp only [List.mem_cons, List.not_mem_nil, or_false] at hq
      rcases hq with rfl | rfl
      · show Str.ofString "place" ≠ Str.ofString "k"; decide
      · show Str.ofString "twin" ≠ Str.ofString "k"; decide
    case stp2 =>
      intro j v us2 h7 tk7 C2 cenv2 Hc2 hj hv2 hcenv2 k7 hju2 hle2 S7
      obtain ⟨tv2, rfl⟩ := hv2
      rw [Int.zero_add] at S7
      have hE3 := hcenv2
      rw [hE2.eq] at hE3
      walk_at "w"
      refine SlP.sn (by omega) (hbig _ (by omega)) ?_
      intro h8 u8 tk8 k8
      have S8 := S7.keeps k8
      rw [Int.toNat_natCast]
      walk_at "w"
      refine SlP.sn (by omega) (hbig _ (by omega)) ?_
      intro h9 u9 tk9 k9
      have S9 := S8.keeps k9
      rw [Int.toNat_natCast]
      walk_at "w"
      have hst : ((List.range (j + 1)).filter fun k => decide (tw.drop k < tw.drop i)) = ((List.range j).filter fun k => decide (tw.drop k < tw.drop i)) ++ (if tw.drop j < tw.drop i then [j] else []) := by
        rw [List.range_succ, List.filter_append]
        congr 1
        by_cases h : tw.drop j < tw.drop i
        · simp [h]
        · simp [h]
      by_cases hlt : tw.drop j < tw.drop i
      · rw [if_pos (by simpa using hlt)]
        walk_at "w"
        refine ElP.intro S9 ?_
        rw [hst, if_pos hlt, List.length_append, List.length_append, hju2]; rfl
      · rw [if_neg (by simpa using hlt)]
        refine ElP.intro S9 ?_
        rw [hst, if_neg hlt, List.append_nil]; exact hju2
    case fin2 =>
      intro D7 h7 tk7 us2 S7 k7 hD7 hju2
      walk_at "w"
      refine fLenL (plV hD7).isList (hbig _ (by rw [hju2]; exact Nat.le_trans (List.length_filter_le _ _) (by rw [List.length_range]; omega))) ?_
      intro u8 tk8
      refine ElP.intro S7 ⟨by rw [List.length_append, hju.1]; rfl, ?_⟩
      have hr : (secL tw)[i]? = some (secOf tw i) := by unfold secL; rw [List.getElem?_map, List.getElem?_range (by omega)]; rfl
      rw [take_snoc hr]
      refine hju.2.snoc (t := u8) ?_
      show Value.int (us2.length : Int) u8 = Value.int (secOf tw i) u8
      unfold secOf
      rw [hju2, htl]
  case fin =>
    intro SL h5 tk5 us S5 k5 hSL hju
    have hcl : (secL tw).length = wd.length := by unfold secL; rw [List.length_map, List.length_range, htl]
    have hus : IntL us (secL tw) := by
      have := hju.2
      rwa [List.take_of_length_le (by omega)] at this
    have hcb : ∀ c ∈ secL tw, 0 ≤ c ∧ c ≤ 9 := fun c hc => by
      obtain ⟨i, hi, rfl⟩ := List.mem_map.mp hc
      exact secOf_bd (by omega) (List.mem_range.mp hi)
    replace hFL := plK hFL k5
    walk_at "w"
    refine leads_ (s := ⟨h5, gn, dr, _, os⟩) (R.less (by decide)) S5.cx hFL.isList hSL.isList hvf hus (by omega) (by omega) (by omega) hrb hcb (by omega) ?_
    intro h6 tk6 LD vd least most k6 hLD hvd hlst hmst
    have S6 := S5.keeps k6
    dsimp only
    generalize hthL : List.zipWith (thickOf (2 + sh)) rs (secL tw) = th at *
    have hthl : th.length = wd.length := by rw [← hthL, List.length_zipWith]; omega
    have hthb : ∀ a ∈ th, -20 ≤ a ∧ a ≤ 20 := fun a ha => by
      rw [← hthL] at ha
      obtain ⟨i, hi, e⟩ := List.mem_iff_getElem.mp ha
      rw [List.length_zipWith] at hi
      rw [List.getElem_zipWith] at e
      rw [← e]
      exact thick_bd (by omega) (hrb _ (List.getElem_mem _)) (hcb _ (List.getElem_mem _))
    have hlb := hthb _ hlst.1
    have hmb := hthb _ hmst.1
    have hvdl := hvd.len
    rw [List.length_zipWith] at hvdl
    walk_at "w"
    rename_i h7 tk7 S7 K7
    replace hLD := plK hLD K7
    refine execComp ?hok ?hkind ?hnames ?hsw ?hs ?_
    case hok => rw [hE.eq] <;> rfl
    case hkind => rfl
    case hnames => decide +kernel
    case hsw => rw [hE.eq] <;> rfl
    case hs => intro _; rfl
    walk_at "w"
    refine fRng1 S7 ?_
    intro D8 h8 tk8 u8 u8' S8 k8 hr8
    replace hLD := plK hLD k8
    walk_at "w"
    refine compR (n := wd.length) (mf := [(Str.ofString "leads", Value.ref LD), (Str.ofString "word", .str (sT wd) t2)]) S8 hr8 (by omega) (by omega) R.hh ?hmf ?hok ?hnd rfl (.inl rfl) ?hxm (hbig _ (by omega)) (fun k us g => us.length = k ∧ ∀ (j : Nat) v, us[j]? = some v → ∃ x ld, v = Value.ref x ∧ (List.zipWith (leadOf (2 + sh) least most) th (secL tw))[j]? = some ld ∧ WsIs g x ld) (fun _ _ _ _ k e => ⟨e.1, fun j v hv => let ⟨x, ld, a, b, c⟩ := e.2 j v hv; ⟨x, ld, a, b, c.keeps k⟩⟩) ⟨rfl, fun j v hv => by cases hv⟩ (step0 ?stp) (fRrA S8 (fun _ _ _ k e => ⟨e.1, fun j v hv => let ⟨x, ld, a, b, c⟩ := e.2 j v hv; ⟨x, ld, a, b, c.keeps k⟩⟩) ?fin (by rw [hE.eq] <;> rfl) (by rw [hE.eq] <;> rfl))
    case hmf =>
      intro q hq
      simp only [List.mem_cons, List.not_mem_nil, or_false] at hq
      rcases hq with rfl | rfl
      · exact ⟨rfl, rfl⟩
      · exact ⟨rfl, rfl⟩
    case hok => rw [hE.eq] <;> rfl
    case hnd => decide +kernel
    case hxm =>
      intro q hq
      simp only [List.mem_cons, List.not_mem_nil, or_false] at hq
      rcases hq with rfl | rfl
      · show Str.ofString "leads" ≠ Str.ofString "place"; decide
      · show Str.ofString "word" ≠ Str.ofString "place"; decide
    case stp =>
      intro i v us2 h9 tk9 C cenv Hc hi hv hcenv k9 hju2 hle S9
      obtain ⟨tv, rfl⟩ := hv
      rw [Int.zero_add] at S9
      have hE2 := hcenv
      rw [hE.eq] at hE2
      have ht := List.getElem?_eq_getElem (show i < th.length by omega)
      have htm := hthb _ (List.getElem_mem (show i < th.length by omega))
      have hc := List.getElem?_eq_getElem (show i < (secL tw).length by omega)
      have hcm := hcb _ (List.getElem_mem (show i < (secL tw).length by omega))
      generalize th[i]'(by omega) = xt at ht htm
      generalize (secL tw)[i]'(by omega) = xc at hc hcm
      have hld : (List.zipWith (leadOf (2 + sh) least most) th (secL tw))[i]? = some (leadOf (2 + sh) least most xt xc) := by rw [List.getElem?_zipWith, ht, hc]
      have hlen := leadOf_len (s := 2 + sh) (by omega) hlb hmb htm hcm
      obtain ⟨td, hvd'⟩ := hvd.get hld
      walk_at "w"
      refine cwC S9 ?_ rfl rfl
      walk_at "w"
      refine fItemL (plV (plK hLD k9)).isList (by omega) (by omega) (v := .str (sT (leadOf (2 + sh) least most xt xc)) td) (by rw [Int.toNat_natCast]; exact hvd') ?_ rfl (fun _ => rfl)
      walk_at "w"
      refine SlP.sn (by omega) (hbig _ (by omega)) ?_
      intro h10 u10 tk10 k10
      have S10 := S9.keeps k10
      rw [Int.toNat_natCast]
      refine fAddS (hbig _ (by rw [List.length_drop]; omega)) ?_
      intro u11 tk11
      walk_at "w"
      have hdr : wd.drop i = wd[i] :: wd.drop (i + 1) := List.drop_eq_getElem_cons hi
      have hci := okW_bd hw (List.getElem_mem hi)
      rw [hdr]
      refine ws_ (R.less (by decide)) S10.cx leadOf_chars ⟨by omega, by omega⟩ (by rw [List.length_drop]; omega) ?_
      intro h12 tk12 x k12 hW
      refine ElP.intro (S10.keeps k12) ⟨by rw [List.length_append, hju2.1]; rfl, ?_⟩
      intro j v hv
      rcases snoc_at hju2.1 hv with h' | ⟨rfl, rfl⟩
      · obtain ⟨x, ld, a, b, c⟩ := hju2.2 j v h'
        exact ⟨x, ld, a, b, c.keeps (vis_keeps (k10.trans k12))⟩
      · exact ⟨x, _, rfl, hld, hW⟩
    case fin =>
      intro LL h9 tk9 us2 S9 k9 hLL hju2
      refine hnext h9 tk9 LL us2 t4 least most tw htw ((((((vis_keeps k1).trans K2).trans k3).trans k5).trans (vis_keeps k6)).trans ((K7.trans k8).trans k9)) (S9.lessL (m' := [(Str.ofString "lines", .ref LL), (Str.ofString "twin", .str (sT tw) t4), (Str.ofString "size", .int (wd.length : Int) t1), (Str.ofString "word", .str (sT wd) t2)]) ⟨rfl, rfl, rfl, rfl, trivial⟩) hLL hju2.1 ?_ ?_ ?_
      · rw [hthL]; exact hlst
      · rw [hthL]; exact hmst
      · rw [hthL]; exact hju2.2
end
/-- what the law asks of the lines -/
noncomputable def Asked (wd tw : List Nat) (lds : Nat → List Nat) : Prop := ∀ i e, i < wd.length → i < e → e ≤ wd.length → (∀ j, i < j → j < e → lessF (lds i) (lds j) = true) → (e = wd.length ∨ lessF (lds i) (lds e) = false) →
  (e : Int) = (if longF tw i (wd.length - i) < longF wd i (wd.length - i) then longF tw i (wd.length - i) else longF wd i (wd.length - i)) ∧ lessF (lds i) (lds i) = false ∧
  (e < wd.length → (longF wd i (wd.length - i) = longF tw i (wd.length - i) → lessF (lds e) (lds i) = true) ∧ (longF wd i (wd.length - i) ≠ longF tw i (wd.length - i) → lessF (lds e) (lds i) = false))
section
variable {w : World} {mean : ExcName → Option Value} {mg mb : Str → Option Value} {A : Around} {E : Value → Shared → Prop} {hp g₀ h' : Heap} {Hs : List Addr} {gn : Array GenState} {dr : Drawn} {tk : Nat} {os : OsState} {env : Env} {L : Addr} {m : List (Str × Value)} {mu : Mu}
theorem fWhileX {test : Expr} {body : List Stmt} {pos : Pos} {Q : Flow → Shared → Prop} (n : Nat)
    (J : Nat → List (Str × Value) → Mu → Heap → Prop) (X : List (Str × Value) → Mu → Heap → Prop)
    (S : Sx w mean mg mb g₀ Hs env (ownOf env) m mu hp) (j0 : J n m mu (hideAll hp Hs))
    (step : ∀ n m₁ mu₁ h₁ tk g₁, Keeps (hideAll hp Hs) (hideAll h₁ Hs) → J n m₁ mu₁ (hideAll h₁ Hs) → Sx w mean mg mb g₁ Hs env (ownOf env) m₁ mu₁ h₁ →
      wpAny (model pw w) A (isTrue test env (eval test env)) (fun c s₂ => if c then wpAny (model pw w) A (execs body env) (WhPost w mean mg mb g₁ Hs env J n ⟨h₁, gn, dr, tk, os⟩ Q) (fun _ _ => False) s₂
        else ∃ h' tk' m' mu', s₂ = ⟨h', gn, dr, tk', os⟩ ∧ Sx w mean mg mb g₁ Hs env (ownOf env) m' mu' h' ∧ X m' mu' (hideAll h' Hs)) (fun _ _ => False) ⟨h₁, gn, dr, tk, os⟩)
    (exit : ∀ h' tk m' mu', Sx w mean mg mb g₀ Hs env (ownOf env) m' mu' h' → Keeps (hideAll hp Hs) (hideAll h' Hs) → X m' mu' (hideAll h' Hs) → Q .next ⟨h', gn, dr, tk, os⟩) :
    wpAny (model pw w) A (exec (.While test body [] pos) env) Q E ⟨hp, gn, dr, tk, os⟩ := by
  obtain ⟨k01, S1, kv1⟩ := S.anchor
  generalize hg1 : hideAll hp (ownOf env ++ mu.map (·.1)) = g₁ at k01 S1 kv1
  refine fWhile n J S1 j0 (fun n m₁ mu₁ h₁ tk g₂ kg k1 hj S2 => wpAny_mono (step n m₁ mu₁ h₁ tk g₂ k1 hj S2) (fun c s₂ h₂ => ?_) fun _ _ e => e)
  cases c with
  | true => exact h₂
  | false =>
    rw [if_neg Bool.false_ne_true] at h₂ ⊢
    obtain ⟨h', tk', m', mu', rfl, S3, hx⟩ := h₂
    have S4 : Sx w mean mg mb g₁ Hs env (ownOf env) m' mu' h' := S3.unanchor kg
    exact exit h' tk' m' mu' (S4.unanchor k01) (fun b o e => hideAll_get _ (S4.base b o (kv1 b o e)) (not_hid e)) hx
theorem WsIs.less' {g : Heap} {x : Addr} {ld : List Nat} (W : WsIs g x ld) : ∃ fs, WsAt g x fs ∧ fs.lookup (Str.ofString "less") = none := by
  obtain ⟨fs, T, CT, vs, tb, tn, tt, h1, _, _, _, _, _, _, _, _, _, h2⟩ := W.at'
  exact ⟨fs, h1, h2⟩
theorem ph6 {LL : Addr} {vl : List Value} {wd tw : List Nat} {lds : Nat → List Nat} {t1 t2 t4 : Tok} {Q : Flow → Shared → Prop} (R : Rm A 8) (hE0 : LawEnv env L)
    (S : Sx w mean mg mb g₀ Hs env (ownOf env) [(Str.ofString "lines", .ref LL), (Str.ofString "twin", .str (sT tw) t4), (Str.ofString "size", .int (wd.length : Int) t1), (Str.ofString "word", .str (sT wd) t2)] [] hp)
    (hLL : (hideAll hp Hs).PlainList LL vl.toArray) (hvl : vl.length = wd.length) (htl : tw.length = wd.length) (hw1 : 1 ≤ wd.length) (hw10 : wd.length ≤ 10)
    (hlines : ∀ (i : Nat) v, vl[i]? = some v → ∃ x, v = Value.ref x ∧ WsIs (hideAll hp Hs) x (lds i)) (hlen : ∀ i, i < wd.length → (lds i).length ≤ 300) (asked : Asked wd tw lds)
    (hfin : ∀ h' k m', Sx w mean mg mb g₀ Hs env (ownOf env) m' [] h' → Q (.ret (.bool true)) ⟨h', gn, dr, k, os⟩) :
    wpAny (model pw w) A (execs ((fbody (st 16)).drop 18) env) Q E ⟨hp, gn, dr, tk, os⟩ := by
  obtain ⟨cdv, hE⟩ := hE0
  obtain ⟨bd, hbd⟩ : ∃ x, x = (fbody (st 16)).drop 18 := ⟨_, rfl⟩
  obtain ⟨sc, hsc⟩ : ∃ x, x = fscope (st 16) := ⟨_, rfl⟩
  rw [← hsc] at hE
  rw [← hbd]
  conv at hbd => rhs; whnf
  conv at hsc => rhs; whnf
  subst hbd hsc
  have hbig : ∀ n : Nat, n ≤ 1000 → n ≤ sizeLine := fun n hn => by rw [sizeLine_eq]; omega
  have getLn : ∀ {i : Nat}, i < wd.length → ∃ x, vl[i]? = some (Value.ref x) ∧ WsIs (hideAll hp Hs) x (lds i) := fun {i} hi => by
    have hx := List.getElem?_eq_getElem (show i < vl.length by omega)
    obtain ⟨x, e, hW⟩ := hlines i _ hx
    exact ⟨x, by rw [hx, e], hW⟩
  walk_at "w"
  refine fRng1 S ?_
  intro D1 h1 tk1 u1 u1' S1 k1 hr1
  walk_at "w"
  refine fForR (n := wd.length) (fun i m mu _ => m = [(Str.ofString "lines", Value.ref LL), (Str.ofString "twin", .str (sT tw) t4), (Str.ofString "size", .int (wd.length : Int) t1), (Str.ofString "word", .str (sT wd) t2)] ∧ mu = []) (fun _ _ _ _ _ _ e => e)
    (S1.lessL (m' := [(Str.ofString "lines", Value.ref LL), (Str.ofString "twin", .str (sT tw) t4), (Str.ofString "size", .int (wd.length : Int) t1), (Str.ofString "word", .str (sT wd) t2)]) ⟨rfl, rfl, rfl, rfl, trivial⟩)
    hr1 (by omega) (by omega) R.hh ⟨rfl, rfl⟩ ?hk ?hx ?step ?done (fun _ _ e => e)
  case hk => rw [hE.eq] <;> rfl
  case hx => rw [hE.eq] <;> rfl
  case step =>
    intro I i tv m₁ mu₁ h2 tk2 oI g₁ hi k2 hj S2
    obtain ⟨rfl, rfl⟩ := hj
    rw [Int.zero_add] at S2
    obtain ⟨xi, hvi, hWi⟩ := getLn hi
    walk_at "w"
    rename_i u3 tk3 u4 tk4 h5 tk5 S5 K5
    refine fWhileX (wd.length - (i + 1)) (fun n m mu _ => ∃ e te, m = [(Str.ofString "end", Value.int ((e : Nat) : Int) te), (Str.ofString "place", .int (i : Int) tv), (Str.ofString "lines", Value.ref LL), (Str.ofString "twin", .str (sT tw) t4), (Str.ofString "size", .int (wd.length : Int) t1), (Str.ofString "word", .str (sT wd) t2)] ∧ mu = [(I, (· = oI))] ∧ i < e ∧ e ≤ wd.length ∧ n = wd.length - e ∧ ∀ j, i < j → j < e → lessF (lds i) (lds j) = true)
      (fun m mu _ => ∃ e te, m = [(Str.ofString "end", Value.int ((e : Nat) : Int) te), (Str.ofString "place", .int (i : Int) tv), (Str.ofString "lines", Value.ref LL), (Str.ofString "twin", .str (sT tw) t4), (Str.ofString "size", .int (wd.length : Int) t1), (Str.ofString "word", .str (sT wd) t2)] ∧ mu = [(I, (· = oI))] ∧ i < e ∧ e ≤ wd.length ∧ (∀ j, i < j → j < e → lessF (lds i) (lds j) = true) ∧ (e = wd.length ∨ lessF (lds i) (lds e) = false))
      (S5.lessL (m' := [(Str.ofString "end", Value.int ((i + 1 : Nat) : Int) _), (Str.ofString "place", .int (i : Int) tv), (Str.ofString "lines", Value.ref LL), (Str.ofString "twin", .str (sT tw) t4), (Str.ofString "size", .int (wd.length : Int) t1), (Str.ofString "word", .str (sT wd) t2)]) ⟨rfl, rfl, rfl, rfl, rfl, rfl, trivial⟩)
      ⟨i + 1, _, rfl, rfl, by omega, by omega, rfl, fun j h1 h2 => by omega⟩ ?wstep ?wexit
    case wstep =>
      intro n m₁ mu₁ h6 tk6 g₂ k6 hj S6
      obtain ⟨e, te, rfl, rfl, hie, hen, rfl, hall⟩ := hj
      have Kv := ((k1.trans k2).trans K5).trans k6
      refine PyProof.Rows.isTrue_and ?_
      walk_at "w"
      by_cases hlt : e < wd.length
      · rw [if_pos (by simpa using hlt)]
        obtain ⟨xe, hve, hWe⟩ := getLn hlt
        refine PyProof.Rows.isTrue_and ?_
        walk_at "w"
        refine fItemL (plV (plK hLL Kv)).isList (by omega) (by omega) (v := .ref xi) (by rw [Int.toNat_natCast]; exact hvi) ?_ rfl (fun _ => rfl)
        obtain ⟨fs7, A7, l7⟩ := (hWi.keeps Kv).less'
        refine fMeth (f := 73) S6.kin (A7.keeps vis_self) l7 (by kernel_rfl) (by kernel_rfl) ?_
        dsimp only
        walk_at "w"
        refine fItemL (plV (plK hLL Kv)).isList (by omega) (by omega) (v := .ref xe) (by rw [Int.toNat_natCast]; exact hve) ?_ rfl (fun _ => rfl)
        walk_at "w"
        refine less_ (R.less (by decide)) S6.cx (hWi.keeps Kv) (hWe.keeps Kv) (hlen _ hi) (hlen _ hlt) ?_
        intro h7 tk7 k7
        have S7 := S6.keeps k7
        walk_at "w"
        cases hle : lessF (lds i) (lds e) with
        | false =>
          rw [if_neg (by decide), if_neg Bool.false_ne_true]
          exact ⟨_, _, _, _, rfl, S7, e, te, rfl, rfl, hie, hen, hall, .inr hle⟩
        | true =>
          rw [if_pos (by decide)]
          refine PyProof.Rows.isTrue_and_nil ?_
          rw [if_pos rfl]
          walk_at "w"
          rename_i u8 tk8 u9 tk9 h10 tk10 S10 K10
          refine ⟨wd.length - (e + 1), _, _, _, _, by omega, rfl, S10.lessL (m' := [(Str.ofString "end", Value.int ((e : Int) + 1) _), (Str.ofString "place", .int (i : Int) tv), (Str.ofString "lines", Value.ref LL), (Str.ofString "twin", .str (sT tw) t4), (Str.ofString "size", .int (wd.length : Int) t1), (Str.ofString "word", .str (sT wd) t2)]) ⟨rfl, rfl, rfl, rfl, rfl, rfl, trivial⟩, e + 1, _, rfl, rfl, by omega, by omega, rfl, fun j h1 h2 => ?_⟩
          rcases Nat.lt_succ_iff_lt_or_eq.mp h2 with h | rfl
          · exact hall j h1 h
          · exact hle
      · rw [if_neg (by simpa using hlt)]
        rw [if_neg Bool.false_ne_true]
        exact ⟨_, _, _, _, rfl, S6, e, te, rfl, rfl, hie, hen, hall, .inl (by omega)⟩
    case wexit =>
      intro h6 tk6 m' mu' S6 k6 hx
      obtain ⟨e, te, rfl, rfl, hie, hen, hall, hstop⟩ := hx
      obtain ⟨a1, a2, a3⟩ := asked i e hi hie hen hall hstop
      have Kv := ((k1.trans k2).trans K5).trans k6
      walk_at "w"
      refine longest_ (s := ⟨h6, gn, dr, _, os⟩) (R.less (by decide)) S6.cx hi hw10 ?_
      intro h7 tk7 u7 k7
      have S7 := S6.keeps k7
      dsimp only
      walk_at "w"
      rename_i h8 tk8 S8 K8
      refine longest_ (s := ⟨h8, gn, dr, _, os⟩) (R.less (by decide)) S8.cx (by rw [htl]; exact hi) (by rw [htl]; exact hw10) ?_
      intro h9 tk9 u9 k9
      have S9 := S8.keeps k9
      dsimp only
      rw [htl]
      walk_at "w"
      rename_i h10 tk10 S10 K10
      refine fMin2 R.hh ?_
      intro h11 u11 tk11 k11
      have S11 := S10.keeps k11
      have Kw := (((Kv.trans (vis_keeps k7)).trans K8).trans (vis_keeps k9)).trans (K10.trans (vis_keeps k11))
      walk_at "w"
      rw [← a1]
      rw [if_neg (by simp)]
      walk_at "w"
      refine fItemL (plV (plK hLL Kw)).isList (by omega) (by omega) (v := .ref xi) (by rw [Int.toNat_natCast]; exact hvi) ?_ rfl (fun _ => rfl)
      obtain ⟨fs12, A12, l12⟩ := (hWi.keeps Kw).less'
      refine fMeth (f := 73) S11.kin (A12.keeps vis_self) l12 (by kernel_rfl) (by kernel_rfl) ?_
      dsimp only
      walk_at "w"
      refine fItemL (plV (plK hLL Kw)).isList (by omega) (by omega) (v := .ref xi) (by rw [Int.toNat_natCast]; exact hvi) ?_ rfl (fun _ => rfl)
      walk_at "w"
      refine less_ (R.less (by decide)) S11.cx (hWi.keeps Kw) (hWi.keeps Kw) (hlen _ hi) (hlen _ hi) ?_
      intro h12 tk12 k12
      have S12 := S11.keeps k12
      walk_at "w"
      rw [a2, if_neg (by decide)]
      walk_at "w"
      by_cases hlt : e < wd.length
      · rw [if_pos (by simpa using hlt)]
        obtain ⟨xe, hve, hWe⟩ := getLn hlt
        have hle : lessF (lds i) (lds e) = false := hstop.resolve_left (by omega)
        obtain ⟨b1, b2⟩ := a3 hlt
        have Kx := Kw.trans (vis_keeps k12)
        walk_at "w"
        refine fItemL (plV (plK hLL Kx)).isList (by omega) (by omega) (v := .ref xi) (by rw [Int.toNat_natCast]; exact hvi) ?_ rfl (fun _ => rfl)
        obtain ⟨fs13, A13, l13⟩ := (hWi.keeps Kx).less'
        refine fMeth (f := 73) S12.kin (A13.keeps vis_self) l13 (by kernel_rfl) (by kernel_rfl) ?_
        dsimp only
        walk_at "w"
        refine fItemL (plV (plK hLL Kx)).isList (by omega) (by omega) (v := .ref xe) (by rw [Int.toNat_natCast]; exact hve) ?_ rfl (fun _ => rfl)
        walk_at "w"
        refine less_ (R.less (by decide)) S12.cx (hWi.keeps Kx) (hWe.keeps Kx) (hlen _ hi) (hlen _ hlt) ?_
        intro h13 tk13 k13
        have S13 := S12.keeps k13
        walk_at "w"
        rw [hle, if_neg (by decide)]
        have Ky := Kx.trans (vis_keeps k13)
        walk_at "w"
        refine fItemL (plV (plK hLL Ky)).isList (by omega) (by omega) (v := .ref xe) (by rw [Int.toNat_natCast]; exact hve) ?_ rfl (fun _ => rfl)
        obtain ⟨fs14, A14, l14⟩ := (hWe.keeps Ky).less'
        refine fMeth (f := 73) S13.kin (A14.keeps vis_self) l14 (by kernel_rfl) (by kernel_rfl) ?_
        dsimp only
        walk_at "w"
        refine fItemL (plV (plK hLL Ky)).isList (by omega) (by omega) (v := .ref xi) (by rw [Int.toNat_natCast]; exact hvi) ?_ rfl (fun _ => rfl)
        walk_at "w"
        refine less_ (R.less (by decide)) S13.cx (hWe.keeps Ky) (hWi.keeps Ky) (hlen _ hlt) (hlen _ hi) ?_
        intro h14 tk14 k14
        have S14 := S13.keeps k14
        walk_at "w"
        rename_i h15 tk15 S15 K15
        refine and2_ (b1 := (longF wd i (wd.length - i) == longF tw i (wd.length - i))) (b2 := (lessF (lds e) (lds i) != true)) ?hx ?hy ?_
        case hx =>
          intro Q' tq hq
          walk_at "w"
          exact hq _
        case hy =>
          intro Q' tq hq
          walk_at "w"
          exact hq _
        intro tk16
        rw [if_neg (by
          simp only [Bool.and_eq_true, beq_iff_eq, bne_iff_ne, ne_eq, not_and]
          exact fun q1 q2 => q2 (b1 q1))]
        walk_at "w"
        refine and2_ (b1 := (longF wd i (wd.length - i) != longF tw i (wd.length - i))) (b2 := (lessF (lds e) (lds i) != false)) ?hx ?hy ?_
        case hx =>
          intro Q' tq hq
          walk_at "w"
          exact hq _
        case hy =>
          intro Q' tq hq
          walk_at "w"
          exact hq _
        intro tk17
        rw [if_neg (by
          simp only [Bool.and_eq_true, bne_iff_ne, ne_eq, not_and]
          exact fun q1 q2 => q2 (b2 q1))]
        walk_at "w"
        exact ⟨_, _, _, _, rfl, S15.lessL (m' := [(Str.ofString "lines", Value.ref LL), (Str.ofString "twin", .str (sT tw) t4), (Str.ofString "size", .int (wd.length : Int) t1), (Str.ofString "word", .str (sT wd) t2)]) ⟨rfl, rfl, rfl, rfl, trivial⟩, rfl, rfl⟩
      · rw [if_neg (by simpa using hlt)]
        walk_at "w"
        exact ⟨_, _, _, _, rfl, S12.lessL (m' := [(Str.ofString "lines", Value.ref LL), (Str.ofString "twin", .str (sT tw) t4), (Str.ofString "size", .int (wd.length : Int) t1), (Str.ofString "word", .str (sT wd) t2)]) ⟨rfl, rfl, rfl, rfl, trivial⟩, rfl, rfl⟩
  case done =>
    intro h2 tk2 m' mu' S2 k2 hj
    obtain ⟨rfl, rfl⟩ := hj
    walk_at "w"
    exact hfin _ _ _ S2
end
noncomputable def worthsL (wd : List Nat) : List Int := (List.range wd.length).map (worthOf wd)
noncomputable def firstL (wd : List Nat) : List Int := (worthsL wd).map (rankOf (worthsL wd))
noncomputable def thickL (wd tw : List Nat) (sh : Int) : List Int := List.zipWith (thickOf (2 + sh)) (firstL wd) (secL tw)
noncomputable def leadL (wd tw : List Nat) (sh least most : Int) : List (List Nat) := List.zipWith (leadOf (2 + sh) least most) (thickL wd tw sh) (secL tw)
noncomputable def AskedLaw : Prop := ∀ (wd : List Nat) (n sh least most : Int), okW wd → 1 ≤ wd.length → wd.length ≤ 10 → 0 ≤ sh ∧ sh ≤ 2 →
  (least ∈ thickL wd (wd.map (exch n)) sh ∧ ∀ a ∈ thickL wd (wd.map (exch n)) sh, least ≤ a) → (most ∈ thickL wd (wd.map (exch n)) sh ∧ ∀ a ∈ thickL wd (wd.map (exch n)) sh, a ≤ most) →
  Asked wd (wd.map (exch n)) (fun i => ((leadL wd (wd.map (exch n)) sh least most)[i]?).getD [])
theorem sgAt_zero (nums : List Int) : sgAt nums 0 ∈ shownL := by
  unfold sgAt
  rw [if_pos rfl]
  generalize (nums[0]?).getD 0 = x
  have h1 := Int.fmod_nonneg_of_pos x (show (0 : Int) < 15 by decide)
  have h2 := Int.fmod_lt_of_pos x (show (0 : Int) < 15 by decide)
  unfold signOf
  rw [if_neg (by omega)]
  have h5 : (x.fmod 15).toNat < shownL.length := by show _ < 15; omega
  rw [List.getElem?_eq_getElem h5]
  exact List.getElem_mem h5
theorem word_ok (nums : List Int) : okW (wordOf nums) := by
  intro c hc
  obtain ⟨p, hp, hc⟩ := List.mem_flatMap.mp (List.mem_of_mem_take hc)
  rcases sgOf_ok nums p hp with h | ⟨h, _⟩
  · have := List.all_eq_true.mp (show shownL.all (fun p => (txt p).all fun c => [97, 107, 109, 112].contains c) = true by decide +kernel) p h
    have := List.all_eq_true.mp this c hc
    simpa using this
  · have e : txt p = [] := by show p.2.cps.toList = []; rw [h]; rfl
    rw [e] at hc; cases hc
theorem word_len (nums : List Int) : 1 ≤ (wordOf nums).length ∧ (wordOf nums).length ≤ 10 := by
  have h1 : 1 ≤ (wordAll nums).length := by
    have h0 := sgAt_zero nums
    have hm : sgAt nums 0 ∈ sgOf nums := List.mem_of_getElem? (sgOf_get nums (show 0 < 5 by decide))
    have hl := List.all_eq_true.mp (show shownL.all (fun p => decide (1 ≤ (txt p).length)) = true by decide +kernel) _ h0
    simp only [decide_eq_true_eq] at hl
    have hsub : (txt (sgAt nums 0)).length ≤ (wordAll nums).length := by
      unfold wordAll
      obtain ⟨l1, l2, e⟩ := List.append_of_mem hm
      rw [e, List.flatMap_append, List.flatMap_cons, List.length_append, List.length_append]; omega
    omega
  unfold wordOf
  rw [List.length_take]; omega
theorem rank_bd {ws : List Int} (h10 : ws.length ≤ 10) {x : Int} (hx : x ∈ ws) : 0 ≤ rankOf ws x ∧ rankOf ws x ≤ 9 := by
  unfold rankOf
  have h1 : (ws.filter fun y => decide (y < x)).length < ws.length := by
    refine Nat.lt_of_le_of_ne (List.length_filter_le _ _) fun q => ?_
    have := List.length_filter_eq_length_iff.mp q x hx
    simp only [decide_eq_true_eq] at this
    omega
  omega
theorem thickL_bd {wd tw : List Nat} {sh : Int} (htl : tw.length = wd.length) (h10 : wd.length ≤ 10) (hsh : 0 ≤ sh ∧ sh ≤ 2) : ∀ a ∈ thickL wd tw sh, -20 ≤ a ∧ a ≤ 20 := by
  intro a ha
  obtain ⟨j, hj, e⟩ := List.mem_iff_getElem.mp ha
  unfold thickL at hj e
  rw [List.length_zipWith] at hj
  rw [List.getElem_zipWith] at e
  have hw : (worthsL wd).length = wd.length := by unfold worthsL; rw [List.length_map, List.length_range]
  have h1 : ∀ x ∈ firstL wd, 0 ≤ x ∧ x ≤ 9 := fun x hx => by
    obtain ⟨y, hy, q⟩ := List.mem_map.mp hx
    rw [← q]; exact rank_bd (by omega) hy
  have h2 : ∀ x ∈ secL tw, 0 ≤ x ∧ x ≤ 9 := fun x hx => by
    obtain ⟨y, hy, q⟩ := List.mem_map.mp hx
    rw [← q]; exact secOf_bd (by omega) (List.mem_range.mp hy)
  rw [← e]
  exact thick_bd (by omega) (h1 _ (List.getElem_mem _)) (h2 _ (List.getElem_mem _))
theorem leads_len {wd tw : List Nat} {sh least most : Int} (htl : tw.length = wd.length) (h10 : wd.length ≤ 10) (hsh : 0 ≤ sh ∧ sh ≤ 2) (hl : least ∈ thickL wd tw sh) (hm : most ∈ thickL wd tw sh) (i : Nat) : (((leadL wd tw sh least most)[i]?).getD []).length ≤ 300 := by
  cases e : (leadL wd tw sh least most)[i]? with
  | none => simp
  | some ld =>
    show ld.length ≤ 300
    have h2 : ∀ x ∈ secL tw, 0 ≤ x ∧ x ≤ 9 := fun x hx => by
      obtain ⟨y, hy, q⟩ := List.mem_map.mp hx
      rw [← q]; exact secOf_bd (by omega) (List.mem_range.mp hy)
    have hm' := List.mem_of_getElem? e
    obtain ⟨j, hj, e2⟩ := List.mem_iff_getElem.mp hm'
    unfold leadL at hj e2
    rw [List.length_zipWith] at hj
    rw [List.getElem_zipWith] at e2
    rw [← e2]
    have := leadOf_len (s := 2 + sh) (by omega) (thickL_bd htl h10 hsh _ hl) (thickL_bd htl h10 hsh _ hm) (thickL_bd htl h10 hsh _ (List.getElem_mem (l := thickL wd tw sh) (n := j) (by omega))) (h2 _ (List.getElem_mem (l := secL tw) (n := j) (by omega)))
    omega
section
variable {w : World} {mean : ExcName → Option Value} {mg mb : Str → Option Value} {A : Around} {E : Value → Shared → Prop} {s : Shared} {Hs : List Addr}
theorem law_ (AL : AskedLaw) {a : Addr} {vs : List Value} {ns : List Int} {Q : Value → Shared → Prop} (R : Rm A 9) (hfr : A.frames = some []) (C : Cx w mean mg mb Hs s.heap) (hl : (hideAll s.heap Hs).IsList a vs.toArray) (hvs : IntL vs ns) (hlen : vs.length ≤ 1000)
    (h : ∀ h' tk', Keeps s.heap h' → Q (.bool true) { s with heap := h', toks := tk' }) : wpAny (model pw w) A (call (.ref 194) [.ref a]) Q E s := by
  refine' codeS (f := 194) (binds := [(Str.ofString "script", .ref a)]) C R.at0 ?ho ?hcd ?hb ?hl ?hc ?c1 ?c2 ?c3 ?h
  case ho => rfl
  case hcd => kernel_rfl
  case hb => exact BindsTo.of_eq rfl
  case hl => exact locs rfl
  case hc => decide +kernel
  case c1 => rfl
  case c2 => rfl
  case c3 => rfl
  intro L h₁ tk env hE S k0 A' hA'
  have R' := R.deeper hA'
  have hfr' : A'.frames = some [env] := by rw [hA']; exact Around.frames_deeper hfr
  have hE0 : LawEnv env L := ⟨_, hE⟩
  refine ph1 (R'.less (by decide)) hE0 S (hl.at fun o e => k0 _ _ e) hvs hlen ?_
  intro h1 tk1 N vn t1 t2 S1 hN hvn
  have hn6 : (numsOf ns).length = 6 := by
    unfold numsOf
    rw [List.length_append, List.length_drop, List.length_take]
    have : fillL.length = 6 := rfl
    omega
  have hw := word_ok (numsOf ns)
  obtain ⟨hw1, hw10⟩ := word_len (numsOf ns)
  generalize wordOf (numsOf ns) = wd at *
  generalize numsOf ns = nums at *
  refine ph2 (R'.less (by decide)) hE0 S1 hN hvn hn6 hw1 hw10 ?_
  intro h2 tk2 LT vl I t3 S2 hN2 hLT hvl
  have hsh1 := Int.fmod_nonneg_of_pos ((nums[5]?).getD 0) (show (0 : Int) < 3 by decide)
  have hsh2 := Int.fmod_lt_of_pos ((nums[5]?).getD 0) (show (0 : Int) < 3 by decide)
  generalize ((nums[5]?).getD 0).fmod 3 = sh at *
  refine ph3 (R'.less (by decide)) hE0 S2 hLT hvl hw hw1 hw10 ?_
  intro h3 tk3 WL vw K3 S3 hWL hvw
  have htm : vl.length = wd.length * wd.length := by
    rw [hvl.len]; unfold tapeM; rw [List.length_map, List.length_range, tapeU_len wd hw1 (Nat.le_refl _)]
  have hwsl : (worthsL wd).length = wd.length := by unfold worthsL; rw [List.length_map, List.length_range]
  refine ph4 (ws := worthsL wd) (R'.less (by decide)) hE0 hfr' S3 (hLT.at fun o e => K3 _ _ e) (Nat.le_of_eq htm) hWL hvw (by omega) ?_
  intro h4 tk4 FL vf K4 S4 hFL hvf
  have hrl : (firstL wd).length = wd.length := by unfold firstL; rw [List.length_map, hwsl]
  refine ph5 (rs := firstL wd) (R'.less (by decide)) hE0 S4 ((hN2.at fun o e => K3 _ _ e).at fun o e => K4 _ _ e) hvn hn6 hFL hvf hrl (fun r hr => ?_) hw hw1 hw10 ⟨hsh1, by omega⟩ ?_
  · obtain ⟨x, hx, rfl⟩ := List.mem_map.mp hr
    exact rank_bd (by omega) hx
  intro h5 tk5 LL vl2 t4 least most tw htw K5 S5 hLL hll hlst hmst hlines
  have htl : tw.length = wd.length := by rw [htw, List.length_map]
  have hsh3 : 0 ≤ sh ∧ sh ≤ 2 := ⟨hsh1, by omega⟩
  have asked : Asked wd tw (fun i => ((leadL wd tw sh least most)[i]?).getD []) := by
    rw [htw] at hlst hmst ⊢
    exact AL wd _ sh least most hw hw1 hw10 hsh3 hlst hmst
  have hlen2 := leads_len (wd := wd) (tw := tw) (sh := sh) (least := least) (most := most) htl hw10 hsh3 hlst.1 hmst.1
  clear htw
  refine ph6 (lds := fun i => ((leadL wd tw sh least most)[i]?).getD []) (R'.less (by decide)) hE0 S5 hLL hll htl hw1 hw10 (fun i v hv => ?_) (fun i hi => hlen2 i) asked ?_
  · obtain ⟨x, ld, e1, e2, hW⟩ := hlines i v hv
    refine ⟨x, e1, ?_⟩
    have e3 : (leadL wd tw sh least most)[i]? = some ld := e2
    rw [e3]; exact hW
  · intro h6 tk6 m6 S6
    exact h h6 tk6 S6.back.1
end
theorem intL_of {vs : List Value} {xs : List Int} (h : IntsAre vs xs) : IntL vs xs := by
  induction h with
  | nil => exact ⟨[], rfl, rfl⟩
  | cons i t _ ih =>
    obtain ⟨ts, e1, e2⟩ := ih
    exact ⟨(i, t) :: ts, by rw [e1]; rfl, by rw [List.map_cons, e2]⟩
theorem walk_ (AL : AskedLaw) : Walk := by
  intro w s₀ s₁ mg mb G Y a o pm cd doc dV kV ho hd hcd hD hmg hg args vals as hpre hlay hrd hwl hlo
  have KX : (K w.params).In s₁.heap := kIn_of Y
  have T := G.T
  clear G Y
  have hmg' : mg (Str.ofString "law") = some (.ref a) := hmg
  have ea : a = 194 := by
    have := mg_of (K := K w.params) KX (topRead_of T).g (show nsIn (K w.params) mainGlobals (Str.ofString "law") = some (some (.ref 194)) by kernel_rfl)
    rw [hmg'] at this; cases this; rfl
  subst ea
  clear hmg hmg' ho hd hcd hD
  have T' : Top qv loose8 (ExcName.means s₀.heap) mg mb s₁.heap := by
    have e : looseW qv loose8 = loose8 := by kernel_rfl
    rw [e] at T; exact T
  clear T
  wrow_args hpre hlay hrd hwl hlo
  rename_i xs _ _ _ _ _ _ _ L vs _ hL _ _ _ hI _ hlen _
  have hlen' : vs.length ≤ 1000 := by have := hI.length; omega
  refine law_ (Hs := []) AL (mean := ExcName.means s₀.heap) (mg := mg) (mb := mb) (ns := xs) ⟨rfl, by decide +kernel, by decide +kernel⟩ rfl ⟨⟨KX, T'⟩, nofun, List.nodup_nil⟩ hL (intL_of hI) hlen' ?_
  intro h' tk' k
  refine ⟨.inl ⟨.bool true, .bool true, [], rfl, fun _ => rfl, .bool true, ?_, unshared_nil⟩, .of_keep k, rfl, .of_eq hg⟩
  exact postW_of (by wrow_shape) (by wtm_val) (by w_fin)
end Mine
end
section
open PySem PySem.W PyProof.Rows PySem.Calls
set_option Elab.async false
set_option linter.unusedVariables false
namespace Mine
/-! the plain law, 1: the order of lists, suffixes and Lyndon words -/
theorem ll_cons {a b : Nat} {l m : List Nat} : a :: l < b :: m ↔ a < b ∨ (a = b ∧ l < m) := List.cons_lt_cons_iff
theorem ll_irr : ∀ l : List Nat, ¬ l < l
  | [] => fun h => by simp at h
  | a :: l => fun h => by
    rcases ll_cons.mp h with q | ⟨_, q⟩
    · omega
    · exact ll_irr l q
theorem ll_trans : ∀ {a b c : List Nat}, a < b → b < c → a < c
  | [], _, [], _, h => by simp at h
  | [], _, x :: c, _, _ => by simp
  | x :: a, [], _, h, _ => by simp at h
  | x :: a, y :: b, [], _, h => by simp at h
  | x :: a, y :: b, z :: c, h1, h2 => by
    rw [ll_cons] at *
    rcases h1 with q | ⟨e, q⟩ <;> rcases h2 with q' | ⟨e', q'⟩
    · exact .inl (by omega)
    · exact .inl (by omega)
    · exact .inl (by omega)
    · exact .inr ⟨by omega, ll_trans q q'⟩
theorem ll_tot : ∀ {a b : List Nat}, a ≠ b → a < b ∨ b < a
  | [], [], h => absurd rfl h
  | [], x :: b, _ => .inl (by simp)
  | x :: a, [], _ => .inr (by simp)
  | x :: a, y :: b, h => by
    rw [ll_cons, ll_cons]
    rcases Nat.lt_trichotomy x y with q | q | q
    · exact .inl (.inl q)
    · have : a ≠ b := fun e => h (by rw [q, e])
      rcases ll_tot this with r | r
      · exact .inl (.inr ⟨q, r⟩)
      · exact .inr (.inr ⟨q.symm, r⟩)
    · exact .inr (.inl q)
theorem ll_asymm {a b : List Nat} (h : a < b) : ¬ b < a := fun q => ll_irr _ (ll_trans h q)
theorem ll_app (u : List Nat) {x y : List Nat} : u ++ x < u ++ y ↔ x < y := by
  induction u with
  | nil => exact Iff.rfl
  | cons a u ih =>
    rw [List.cons_append, List.cons_append, ll_cons, ih]
    exact ⟨fun h => h.elim (fun q => absurd q (Nat.lt_irrefl a)) (·.2), fun h => .inr ⟨rfl, h⟩⟩
/-- a smaller list is a prefix, or is smaller whatever follows -/
theorem ll_cases : ∀ {a b : List Nat}, a < b → (∃ v, b = a ++ v) ∨ ∀ X Y, a ++ X < b ++ Y
  | [], b, _ => .inl ⟨b, rfl⟩
  | x :: a, [], h => by simp at h
  | x :: a, y :: b, h => by
    rcases ll_cons.mp h with q | ⟨e, q⟩
    · exact .inr fun X Y => ll_cons.mpr (.inl q)
    · rcases ll_cases q with ⟨v, ev⟩ | r
      · exact .inl ⟨v, by rw [e, ev]; rfl⟩
      · exact .inr fun X Y => ll_cons.mpr (.inr ⟨e, r X Y⟩)
theorem drop_ne {l : List Nat} {i j : Nat} (hi : i ≤ l.length) (hj : j ≤ l.length) (h : i ≠ j) : l.drop i ≠ l.drop j := fun e => by
  have := congrArg List.length e
  rw [List.length_drop, List.length_drop] at this
  omega
theorem lyn_iff {p : List Nat} : lynF p = true ↔ ∀ k, 1 ≤ k → k < p.length → p < p.drop k := by
  unfold lynF
  rw [List.all_eq_true]
  constructor
  · intro h k h1 h2
    have := h (k - 1) (List.mem_range.mpr (by omega))
    rw [show 1 + (k - 1) = k by omega] at this
    exact of_decide_eq_true this
  · intro h j hj
    have := List.mem_range.mp hj
    exact decide_eq_true (h (1 + j) (by omega) (by omega))
/-- the next smaller suffix -/
noncomputable def Next (l : List Nat) (i e : Nat) : Prop := i < e ∧ e ≤ l.length ∧ (∀ j, i < j → j < e → l.drop i < l.drop j) ∧ (e = l.length ∨ l.drop e < l.drop i)
theorem sub_eq (l : List Nat) {i e : Nat} (h : i ≤ e) : l.drop i = (l.take e).drop i ++ l.drop e := by
  have h1 := (List.take_append_drop (e - i) (l.drop i)).symm
  rw [List.drop_drop, show i + (e - i) = e by omega, ← List.drop_take] at h1
  exact h1
theorem sub_len (l : List Nat) {i e : Nat} (h : e ≤ l.length) : ((l.take e).drop i).length = e - i := by rw [List.length_drop, List.length_take, Nat.min_eq_left h]
theorem next_lyn {l : List Nat} {i e : Nat} (N : Next l i e) : lynF ((l.take e).drop i) = true := by
  obtain ⟨h1, h2, h3, h4⟩ := N
  rw [lyn_iff]
  intro k hk1 hk2
  have hlen := sub_len l (i := i) h2
  rw [hlen] at hk2
  rw [List.drop_drop]
  have hS := sub_eq l (Nat.le_of_lt h1)
  have hU := sub_eq l (show i + k ≤ e from Nat.le_of_lt (Nat.add_lt_of_lt_sub' hk2))
  have hlu := sub_len l (i := i + k) h2
  have hki : i + k < e := Nat.add_lt_of_lt_sub' hk2
  have hik : i < i + k := Nat.lt_add_of_pos_right hk1
  generalize hp : (l.take e).drop i = p at *
  generalize hu : (l.take e).drop (i + k) = u at *
  have hlt := h3 (i + k) hik hki
  rcases ll_tot (a := p) (b := u) (fun q => by
      rw [q, hlu] at hlen
      exact Nat.ne_of_lt (Nat.sub_lt_sub_left h1 hik) hlen) with q | q
  · exact q
  · exfalso
    rcases ll_cases q with ⟨v, ev⟩ | r
    · have hv : l.drop (e - k) = v ++ l.drop e := by
        have h7 : e - k - i = u.length := by rw [hlu, Nat.sub_sub, Nat.add_comm k i]
        have h6 : i ≤ e - k := Nat.le_sub_of_add_le (Nat.le_of_lt hki)
        have h5 : l.drop (e - k) = (l.drop i).drop (e - k - i) := by rw [List.drop_drop, Nat.add_sub_cancel' h6]
        rw [h5, hS, ev, List.append_assoc, h7, List.drop_left]
      rw [hS, hU, ev, List.append_assoc, ll_app, ← hv] at hlt
      have h6 := h3 (e - k) (Nat.lt_sub_of_add_lt hki) (Nat.sub_lt (Nat.lt_of_le_of_lt (Nat.zero_le _) h1) hk1)
      rcases h4 with h4 | h4
      · rw [h4, List.drop_of_length_le (Nat.le_refl _)] at hlt
        simp at hlt
      · exact ll_asymm (ll_trans hlt h4) h6
    · have := r (l.drop e) (l.drop e)
      rw [← hS, ← hU] at this
      exact ll_asymm this hlt
theorem next_not {l : List Nat} {i e st : Nat} (N : Next l i e) (h5 : e < st) (h6 : st ≤ l.length) : lynF ((l.take st).drop i) = false := by
  obtain ⟨h1, h2, h3, h4⟩ := N
  rcases h4 with h4 | h4
  · exact absurd (h4 ▸ h5) (Nat.not_lt.mpr h6)
  rw [Bool.eq_false_iff]
  intro h
  have hlen := sub_len l (i := i) h6
  have hlt : st - e < st - i := Nat.sub_lt_sub_left (Nat.lt_trans h1 h5) h1
  have := lyn_iff.mp h (e - i) (Nat.sub_pos_of_lt h1) (by rw [hlen]; exact Nat.sub_lt_sub_right (Nat.le_of_lt h1) h5)
  rw [List.drop_drop, Nat.add_sub_cancel' (Nat.le_of_lt h1)] at this
  rcases ll_cases this with ⟨v, ev⟩ | r
  · have := congrArg List.length ev
    rw [List.length_append, hlen, sub_len l h6] at this
    exact Nat.lt_irrefl _ (Nat.lt_of_lt_of_le hlt (this ▸ Nat.le_add_right _ _))
  · have := r (l.drop st) (l.drop st)
    rw [← sub_eq l (Nat.le_of_lt (Nat.lt_trans h1 h5)), ← sub_eq l (Nat.le_of_lt h5)] at this
    exact ll_asymm this h4
theorem longF_of {l : List Nat} {f e : Nat} (he : f < e) (hl : lynF ((l.take e).drop f) = true) : ∀ k, e ≤ f + k → (∀ st, e < st → st ≤ f + k → lynF ((l.take st).drop f) = false) → longF l f k = e
  | 0, h, _ => by omega
  | k + 1, h, hn => by
    unfold longF
    by_cases q : e = f + 1 + k
    · rw [← q, if_pos hl]
    · rw [if_neg (by rw [hn (f + 1 + k) (by omega) (by omega)]; exact Bool.false_ne_true)]
      exact longF_of he hl k (by omega) fun st h1 h2 => hn st h1 (by omega)
theorem next_long {l : List Nat} {i e : Nat} (N : Next l i e) : longF l i (l.length - i) = e :=
  longF_of N.1 (next_lyn N) _ (by have := N.1; have := N.2.1; omega) fun st h1 h2 => next_not N h1 (by have := N.1; have := N.2.1; omega)
/-- there is a next smaller suffix -/
theorem next_ex {l : List Nat} {i : Nat} (hi : i < l.length) : ∃ e, Next l i e := by
  have key : ∀ n e, l.length - e = n → i < e → e ≤ l.length → (∀ j, i < j → j < e → l.drop i < l.drop j) → ∃ e, Next l i e := by
    intro n
    induction n with
    | zero => intro e h1 h2 h3 h4; exact ⟨e, h2, h3, h4, .inl (by omega)⟩
    | succ n ih =>
      intro e h1 h2 h3 h4
      rcases ll_tot (drop_ne (l := l) (i := i) (j := e) (by omega) h3 (by omega)) with q | q
      · refine ih (e + 1) (by omega) (by omega) (by omega) fun j h5 h6 => ?_
        by_cases r : j = e
        · rw [r]; exact q
        · exact h4 j h5 (by omega)
      · exact ⟨e, h2, h3, h4, .inr q⟩
  exact key _ (i + 1) rfl (by omega) (by omega) fun j h1 h2 => by omega
theorem next_le {l : List Nat} {i e j : Nat} (N : Next l i e) (hj : i < j) (h : j = l.length ∨ l.drop j < l.drop i) : e ≤ j := by
  rcases Nat.lt_or_ge j e with q | q
  · exfalso
    rcases h with h | h
    · have := N.2.1; omega
    · exact ll_asymm (N.2.2.1 j hj q) h
  · exact q
/-- what the law asks, of lines that are ordered as both the suffixes are -/
theorem asked_of {wd tw : List Nat} {lds : Nat → List Nat} (htl : tw.length = wd.length)
    (H : ∀ i j, i < wd.length → j < wd.length → (lessF (lds i) (lds j) = true ↔ wd.drop i < wd.drop j ∧ tw.drop i < tw.drop j)) : Asked wd tw lds := by
  intro i e hi hie he hall hend
  obtain ⟨e1, N1⟩ := next_ex hi
  obtain ⟨e2, N2⟩ := next_ex (l := tw) (i := i) (by omega)
  have L1 := next_long N1
  have L2 := next_long N2
  rw [htl] at L2
  rw [L1, L2]
  have hb1 := N1.2.1
  have hb2 := N2.2.1
  have hself : lessF (lds i) (lds i) = false := by
    rw [Bool.eq_false_iff]; intro h
    exact ll_irr _ ((H i i hi hi).mp h).1
  have g1 : e ≤ e1 := by
    rcases Nat.lt_or_ge e1 e with q | q
    · exfalso
      rcases N1.2.2.2 with r | r
      · omega
      · exact ll_asymm ((H i e1 hi (by omega)).mp (hall e1 N1.1 q)).1 r
    · exact q
  have g2 : e ≤ e2 := by
    rcases Nat.lt_or_ge e2 e with q | q
    · exfalso
      rcases N2.2.2.2 with r | r
      · omega
      · exact ll_asymm ((H i e2 hi (by omega)).mp (hall e2 N2.1 q)).2 r
    · exact q
  have hmin : e = e1 ∨ e = e2 := by
    rcases hend with h | h
    · omega
    · by_cases hen : e = wd.length
      · omega
      · have hel : e < wd.length := by omega
        rcases ll_tot (drop_ne (l := wd) (i := i) (j := e) (by omega) he (by omega)) with q | q
        · rcases ll_tot (drop_ne (l := tw) (i := i) (j := e) (by omega) (by omega) (by omega)) with q' | q'
          · rw [(H i e hi hel).mpr ⟨q, q'⟩] at h; cases h
          · exact .inr (Nat.le_antisymm g2 (next_le N2 hie (.inr q')))
        · exact .inl (Nat.le_antisymm g1 (next_le N1 hie (.inr q)))
  refine ⟨?_, hself, fun hel => ⟨fun q => ?_, fun q => ?_⟩⟩
  · split <;> omega
  · have q' : e1 = e2 := by omega
    rcases N1.2.2.2 with r | r
    · omega
    · rcases N2.2.2.2 with r' | r'
      · omega
      · have h1 : e = e1 := by omega
        have h2 : e = e2 := by omega
        exact (H e i hel hi).mpr ⟨by rw [h1]; exact r, by rw [h2]; exact r'⟩
  · rw [Bool.eq_false_iff]; intro h
    obtain ⟨r, r'⟩ := (H e i hel hi).mp h
    have h1 := next_le N1 hie (.inr r)
    have h2 := next_le N2 hie (.inr r')
    omega
end Mine
end
section
open PySem PySem.W PyProof.Rows PySem.Calls
set_option Elab.async false
set_option linter.unusedVariables false
namespace Mine
/-! the plain law, 2: worths order as suffixes do, ranks order as worths do -/
noncomputable def padV (a : List Nat) (i : Nat) : Int := b64 (a.map (fun c => Int.ofNat c - 64) ++ List.replicate i 0)
theorem padV_cons (c : Nat) (a : List Nat) (i : Nat) : padV (c :: a) i = (Int.ofNat c - 64) * 64 ^ (a.length + i) + padV a i := by
  unfold padV
  have : ∀ (d : List Int) (x : Int), b64 (x :: d) = x * 64 ^ d.length + b64 d := by
    intro d
    induction hn : d.length generalizing d with
    | zero => intro x; have : d = [] := List.eq_nil_of_length_eq_zero hn; subst this; simp [b64]
    | succ n ih =>
      intro x
      have hne : d ≠ [] := fun e => by rw [e] at hn; cases hn
      have ed := List.dropLast_concat_getLast hne
      generalize d.dropLast = d', d.getLast hne = z at ed
      subst ed
      rw [List.length_append] at hn
      have hn' : d'.length = n := by simpa using hn
      rw [← List.cons_append, b64_snoc, b64_snoc, ih d' hn' x, Int.add_mul, Int.mul_assoc, ← Int.pow_succ, Int.add_assoc]
  rw [List.map_cons, List.cons_append, this]
  simp
theorem padV_bd {a : List Nat} {i : Nat} (h : okW a) : 0 ≤ padV a i ∧ padV a i < 64 ^ (a.length + i) := by
  refine b64_bd (a.length + i) _ (by simp) fun x hx => ?_
  rcases List.mem_append.mp hx with hx | hx
  · obtain ⟨c, hc, rfl⟩ := List.mem_map.mp hx
    have := okW_bd h hc
    simp only [Int.ofNat_eq_natCast]
    omega
  · have := (List.mem_replicate.mp hx).2; omega
theorem okW_tail {c : Nat} {a : List Nat} (h : okW (c :: a)) : okW a := fun x hx => h x (List.mem_cons_of_mem _ hx)
theorem padV_lt : ∀ {a b : List Nat} {i j : Nat}, okW a → okW b → a.length + i = b.length + j → a < b → padV a i < padV b j
  | [], [], _, _, _, _, _, h => absurd h (ll_irr _)
  | [], c :: b, i, j, _, hb, e, _ => by
    have h1 : padV [] i = 0 := by
      have := b64_zeros [] i
      unfold padV; rw [List.map_nil, this]; simp [b64]
    rw [h1, padV_cons]
    have h2 := (padV_bd (i := j) (okW_tail hb)).1
    have h3 := okW_bd hb List.mem_cons_self
    have h4 : (0 : Int) < 64 ^ (b.length + j) := Int.pow_pos (by decide)
    have h5 : (0 : Int) < (Int.ofNat c - 64) * 64 ^ (b.length + j) := Int.mul_pos (by simp only [Int.ofNat_eq_natCast]; omega) h4
    omega
  | c :: a, [], _, _, _, _, _, h => by simp at h
  | c :: a, c' :: b, i, j, ha, hb, e, h => by
    have e' : a.length + i = b.length + j := by simp only [List.length_cons] at e; omega
    rw [padV_cons, padV_cons, ← e']
    rcases ll_cons.mp h with q | ⟨q, r⟩
    · have h1 := (padV_bd (i := i) (okW_tail ha)).2
      have h2 := (padV_bd (i := j) (okW_tail hb)).1
      have h4 : (0 : Int) < 64 ^ (a.length + i) := Int.pow_pos (by decide)
      generalize (64 : Int) ^ (a.length + i) = M at *
      have h5 : (Int.ofNat c - 64) * M + M ≤ (Int.ofNat c' - 64) * M := by
        have : (Int.ofNat c - 64 + 1) * M ≤ (Int.ofNat c' - 64) * M := Int.mul_le_mul_of_nonneg_right (by simp only [Int.ofNat_eq_natCast]; omega) (by omega)
        rw [Int.add_mul, Int.one_mul] at this
        exact this
      omega
    · rw [q]
      have := padV_lt (okW_tail ha) (okW_tail hb) e' r
      omega
theorem okW_drop {l : List Nat} (h : okW l) (i : Nat) : okW (l.drop i) := fun x hx => h x (List.mem_of_mem_drop hx)
theorem worth_lt {wd : List Nat} (h : okW wd) {i j : Nat} (hi : i < wd.length) (hj : j < wd.length) (q : wd.drop i < wd.drop j) : worthOf wd i < worthOf wd j :=
  padV_lt (okW_drop h i) (okW_drop h j) (by rw [List.length_drop, List.length_drop]; omega) q
theorem worth_iff {wd : List Nat} (h : okW wd) {i j : Nat} (hi : i < wd.length) (hj : j < wd.length) : worthOf wd i < worthOf wd j ↔ wd.drop i < wd.drop j := by
  refine ⟨fun q => ?_, worth_lt h hi hj⟩
  by_cases e : i = j
  · rw [e] at q; omega
  · rcases ll_tot (drop_ne (l := wd) (i := i) (j := j) (by omega) (by omega) e) with r | r
    · exact r
    · have := worth_lt h hj hi r; omega
theorem filter_lt {α : Type} {p q : α → Bool} : ∀ {l : List α}, (∀ y ∈ l, p y = true → q y = true) → (∃ z ∈ l, q z = true ∧ p z = false) → (l.filter p).length < (l.filter q).length
  | [], _, h => by obtain ⟨z, hz, _⟩ := h; cases hz
  | a :: l, hpq, h => by
    have hl : ∀ y ∈ l, p y = true → q y = true := fun y hy => hpq y (List.mem_cons_of_mem _ hy)
    have hle : (l.filter p).length ≤ (l.filter q).length := by
      clear h
      have key : ∀ m : List α, (∀ y ∈ m, p y = true → q y = true) → (m.filter p).length ≤ (m.filter q).length := by
        intro m
        induction m with
        | nil => intro _; exact Nat.le_refl _
        | cons b m ih =>
          intro hm
          have := ih fun y hy => hm y (List.mem_cons_of_mem _ hy)
          have hb := hm b List.mem_cons_self
          rw [List.filter_cons, List.filter_cons]
          cases hp : p b with
          | true => rw [hb hp]; simpa using this
          | false => cases hq : q b <;> simp <;> omega
      exact key l hl
    have ha := hpq a List.mem_cons_self
    rw [List.filter_cons, List.filter_cons]
    obtain ⟨z, hz, z1, z2⟩ := h
    rcases List.mem_cons.mp hz with rfl | hz
    · rw [z1, z2]; simp; omega
    · have := filter_lt hl ⟨z, hz, z1, z2⟩
      cases hp : p a with
      | true => rw [ha hp]; simpa using this
      | false => cases hq : q a <;> simp <;> omega
theorem rank_lt {ws : List Int} {x y : Int} (hx : x ∈ ws) (h : x < y) : rankOf ws x < rankOf ws y := by
  unfold rankOf
  have := filter_lt (p := fun z => decide (z < x)) (q := fun z => decide (z < y)) (l := ws) (fun z _ q => by simp only [decide_eq_true_eq] at *; omega) ⟨x, hx, by simpa using h, by simp⟩
  omega
theorem rank_iff {ws : List Int} {x y : Int} (hx : x ∈ ws) (hy : y ∈ ws) : rankOf ws x < rankOf ws y ↔ x < y := by
  refine ⟨fun q => ?_, rank_lt hx⟩
  rcases Int.lt_trichotomy x y with r | r | r
  · exact r
  · rw [r] at q; omega
  · have := rank_lt hy r; omega
theorem sec_lt {tw : List Nat} {i j : Nat} (hi : i < tw.length) (h : tw.drop i < tw.drop j) : secOf tw i < secOf tw j := by
  unfold secOf
  have := filter_lt (p := fun k => decide (tw.drop k < tw.drop i)) (q := fun k => decide (tw.drop k < tw.drop j)) (l := List.range tw.length) (fun z _ q => by
    simp only [decide_eq_true_eq] at *; exact ll_trans q h) ⟨i, List.mem_range.mpr hi, by simpa using h, by simp [ll_irr]⟩
  omega
theorem sec_iff {tw : List Nat} {i j : Nat} (hi : i < tw.length) (hj : j < tw.length) : secOf tw i < secOf tw j ↔ tw.drop i < tw.drop j := by
  refine ⟨fun q => ?_, sec_lt hi⟩
  by_cases e : i = j
  · rw [e] at q; omega
  · rcases ll_tot (drop_ne (l := tw) (i := i) (j := j) (by omega) (by omega) e) with r | r
    · exact r
    · have := sec_lt hj r; omega
theorem first_get {wd : List Nat} {i : Nat} (hi : i < wd.length) : (firstL wd)[i]? = some (rankOf (worthsL wd) (worthOf wd i)) := by
  unfold firstL worthsL
  rw [List.getElem?_map, List.getElem?_map, List.getElem?_range hi]; rfl
theorem worth_mem {wd : List Nat} {i : Nat} (hi : i < wd.length) : worthOf wd i ∈ worthsL wd := List.mem_map.mpr ⟨i, List.mem_range.mpr hi, rfl⟩
theorem first_iff {wd : List Nat} (h : okW wd) {i j : Nat} (hi : i < wd.length) (hj : j < wd.length) : rankOf (worthsL wd) (worthOf wd i) < rankOf (worthsL wd) (worthOf wd j) ↔ wd.drop i < wd.drop j :=
  (rank_iff (worth_mem hi) (worth_mem hj)).trans (worth_iff h hi hj)
theorem sec_get {tw : List Nat} {i : Nat} (hi : i < tw.length) : (secL tw)[i]? = some (secOf tw i) := by
  unfold secL
  rw [List.getElem?_map, List.getElem?_range hi]; rfl
end Mine
end
section
open PySem PySem.W PyProof.Rows PySem.Calls
set_option Elab.async false
set_option linter.unusedVariables false
namespace Mine
/-! the plain law, 3: what Whitespace keeps of a lead, and what less says of two -/
noncomputable def leadN (k t n e : Nat) : List Nat := (List.replicate t ((List.replicate k [32]).flatten ++ [9])).flatten ++ (List.replicate n [9]).flatten ++ (List.replicate e [32]).flatten
noncomputable def cN (k t n : Nat) : List Int := if t = 0 then (if n = 0 then [] else [(n : Int)]) else (n : Int) :: (List.replicate (k - 1) 0 ++ [(t : Int)])
theorem fold32 : ∀ (n b nt : Nat) (cnt : List Int), ((List.replicate n [32]).flatten).foldl wsOne (b, nt, cnt) = (b + n, nt, cnt)
  | 0, b, nt, cnt => rfl
  | n + 1, b, nt, cnt => by
    rw [List.replicate_succ, List.flatten_cons, List.foldl_append]
    show ((List.replicate n [32]).flatten).foldl wsOne (b + 1, nt, cnt) = _
    rw [fold32 n, show b + 1 + n = b + (n + 1) by omega]
theorem bump_t {k t : Nat} (hk : 1 ≤ k ∧ k ≤ 3) : bumpC (cN k t 0) k = cN k (t + 1) 0 := by
  unfold cN
  rw [if_neg (show ¬ t + 1 = 0 by omega)]
  obtain rfl | rfl | rfl : k = 1 ∨ k = 2 ∨ k = 3 := by omega
  all_goals
    by_cases h : t = 0
    · subst h; rfl
    · rw [if_neg h]; simp [bumpC, List.replicate]
theorem bump_n {k t n : Nat} : bumpC (cN k t n) 0 = cN k t (n + 1) := by
  unfold cN
  by_cases h : t = 0
  · rw [if_pos h, if_pos h, if_neg (show ¬ n + 1 = 0 by omega)]
    by_cases h' : n = 0
    · rw [if_pos h', h']; rfl
    · rw [if_neg h']; simp [bumpC]
  · rw [if_neg h, if_neg h]; simp [bumpC]
theorem fold_t {k : Nat} (hk : 1 ≤ k ∧ k ≤ 3) : ∀ (t a : Nat), ((List.replicate t ((List.replicate k [32]).flatten ++ [9])).flatten).foldl wsOne (0, a, cN k a 0) = (0, a + t, cN k (a + t) 0)
  | 0, a => rfl
  | t + 1, a => by
    rw [List.replicate_succ, List.flatten_cons, List.foldl_append, List.foldl_append, fold32]
    show List.foldl wsOne (0, a + 1, bumpC (cN k a 0) (0 + k)) _ = _
    rw [Nat.zero_add, bump_t hk, fold_t hk t (a + 1), show a + 1 + t = a + (t + 1) by omega]
theorem fold_n {k t : Nat} : ∀ (n a : Nat), ((List.replicate n [9]).flatten).foldl wsOne (0, t + a, cN k t a) = (0, t + (a + n), cN k t (a + n))
  | 0, a => rfl
  | n + 1, a => by
    rw [List.replicate_succ, List.flatten_cons, List.foldl_append]
    show List.foldl wsOne (0, t + a + 1, bumpC (cN k t a) 0) _ = _
    rw [bump_n, show t + a + 1 = t + (a + 1) by omega, fold_n n (a + 1), show a + 1 + n = a + (n + 1) by omega]
theorem run_ld {k t n e : Nat} (hk : 1 ≤ k ∧ k ≤ 3) : wsRun (leadN k t n e) = (e, t + n, cN k t n) := by
  unfold leadN wsRun
  rw [List.foldl_append, List.foldl_append]
  have h1 := fold_t hk t 0
  rw [show cN k 0 0 = [] from rfl, Nat.zero_add] at h1
  have h2 := fold_n (k := k) (t := t) n 0
  rw [Nat.add_zero, Nat.zero_add] at h2
  rw [h1, h2, fold32, Nat.zero_add]
theorem len_ld {k t n e : Nat} : (leadN k t n e).length = t * (k + 1) + n + e := by
  unfold leadN
  rw [List.length_append, List.length_append, rep1_len, rep1_len, repL_len, List.length_append, rep1_len]; rfl
theorem cN_len {k t n : Nat} (hk : 1 ≤ k) : (t = 0 → (cN k t n).length ≤ 1) ∧ (t ≠ 0 → (cN k t n).length = k + 1) := by
  unfold cN
  refine ⟨fun h => ?_, fun h => ?_⟩
  · rw [if_pos h]; split <;> simp
  · rw [if_neg h]; simp; omega
theorem longR_ld {k t n e : Nat} (hk : 1 ≤ k ∧ k ≤ 3) (he : e ≤ k) : longR (e, t + n, cN k t n) = if t = 0 then (e : Int) else (k : Int) := by
  have h := cN_len (k := k) (t := t) (n := n) hk.1
  unfold longR
  by_cases q : t = 0
  · rw [if_pos q]
    have := h.1 q
    simp only
    split <;> omega
  · rw [if_neg q]
    have := h.2 q
    simp only
    split <;> omega
theorem level_ld {k t n e ts : Nat} (hk : 1 ≤ k ∧ k ≤ 3) (h1 : 2 ≤ ts) (h2 : ts ≤ k + 1) : levelF (e, t + n, cN k t n) ts = (e : Int) + (ts : Int) * ((if ts ≤ k then (t : Int) else 0) + (t + n : Nat)) := by
  unfold levelF
  have key : ilF (cN k t n) ts ((cN k t n).length - ts) = if ts ≤ k then (t : Int) else 0 := by
    by_cases q : t = 0
    · have := (cN_len (k := k) (t := t) (n := n) hk.1).1 q
      rw [show (cN k t n).length - ts = 0 by omega, q]; simp [ilF]
    · have hl := (cN_len (k := k) (t := t) (n := n) hk.1).2 q
      rw [hl]
      unfold cN
      rw [if_neg q]
      obtain rfl | rfl | rfl : k = 1 ∨ k = 2 ∨ k = 3 := by omega
      · obtain rfl : ts = 2 := by omega
        rfl
      · obtain rfl | rfl : ts = 2 ∨ ts = 3 := by omega
        · simp [ilF]
        · rfl
      · obtain rfl | rfl | rfl : ts = 2 ∨ ts = 3 ∨ ts = 4 := by omega
        · simp [ilF, List.replicate, show Int.fdiv 3 2 = 1 from rfl]
        · simp [ilF, List.replicate]
        · rfl
  simp only
  rw [key]
theorem less_ld {k t1 n1 e1 t2 n2 e2 : Nat} (hk : 1 ≤ k ∧ k ≤ 3) (he1 : e1 ≤ k) (he2 : e2 ≤ k) : lessF (leadN k t1 n1 e1) (leadN k t2 n2 e2) = true ↔ t1 * (k + 1) + n1 + e1 < t2 * (k + 1) + n2 + e2 ∧
    (t1 = 0 ∧ t2 = 0 → t1 + n1 ≤ t2 + n2) ∧ (¬ (t1 = 0 ∧ t2 = 0) → ∀ ts : Nat, 2 ≤ ts → ts ≤ k + 1 → (e1 : Int) + (ts : Int) * ((if ts ≤ k then (t1 : Int) else 0) + (t1 + n1 : Nat)) < (e2 : Int) + (ts : Int) * ((if ts ≤ k then (t2 : Int) else 0) + (t2 + n2 : Nat))) := by
  unfold lessF levN
  rw [len_ld, len_ld, run_ld hk, run_ld hk, longR_ld hk he1, longR_ld hk he2]
  have c1 := cN_len (k := k) (t := t1) (n := n1) hk.1
  have c2 := cN_len (k := k) (t := t2) (n := n2) hk.1
  by_cases hl : t2 * (k + 1) + n2 + e2 ≤ t1 * (k + 1) + n1 + e1
  · rw [if_pos hl]
    exact ⟨fun q => (by cases q), fun q => absurd hl (Nat.not_le.mpr q.1)⟩
  · rw [if_neg hl]
    by_cases h0 : t1 = 0 ∧ t2 = 0
    · rw [if_pos ⟨c1.1 h0.1, c2.1 h0.2⟩]
      simp only [decide_eq_true_eq]
      exact ⟨fun q => ⟨by omega, fun _ => q, fun r => absurd h0 r⟩, fun q => q.2.1 h0⟩
    · rw [if_neg (fun q => h0 ⟨Classical.byContradiction fun r => by have := c1.2 r; have := q.1; simp only at this; omega, Classical.byContradiction fun r => by have := c2.2 r; have := q.2; simp only at this; omega⟩)]
      have hlev : ((if (if t2 = 0 then (e2 : Int) else (k : Int)) > (if t1 = 0 then (e1 : Int) else (k : Int)) then (if t2 = 0 then (e2 : Int) else (k : Int)) else (if t1 = 0 then (e1 : Int) else (k : Int))) + 1 + 1 - 2).toNat = k := by
        by_cases q1 : t1 = 0 <;> by_cases q2 : t2 = 0
        · exact absurd ⟨q1, q2⟩ h0
        · rw [if_pos q1, if_neg q2]; split <;> omega
        · rw [if_neg q1, if_pos q2]; split <;> omega
        · rw [if_neg q1, if_neg q2]; split <;> omega
      rw [hlev, List.all_eq_true]
      constructor
      · intro q
        refine ⟨by omega, fun r => absurd r h0, fun _ ts a b => ?_⟩
        have := of_decide_eq_true (q (ts - 2) (List.mem_range.mpr (by omega)))
        rw [show 2 + (ts - 2) = ts by omega, level_ld hk a b, level_ld hk a b] at this
        exact this
      · intro q j hj
        have hj' := List.mem_range.mp hj
        have := q.2.2 h0 (2 + j) (by omega) (by omega)
        rw [← level_ld hk (by omega) (by omega), ← level_ld hk (by omega) (by omega)] at this
        exact decide_eq_true this
end Mine
end
section
open PySem PySem.W PyProof.Rows PySem.Calls
set_option Elab.async false
set_option linter.unusedVariables false
namespace Mine
/-! the plain law, 4: less of two leads is both ranks' order; the law -/
theorem fdiv_nn {a b : Int} (hb : 0 ≤ b) : a.fdiv b = a / b := Int.fdiv_eq_ediv_of_nonneg _ hb
theorem fmod_nn {a b : Int} (hb : 0 ≤ b) : a.fmod b = a % b := Int.fmod_eq_emod_of_nonneg _ hb
/-- quotients and remainders of one line -/
theorem thick_parts {s r c : Int} (hs : 2 ≤ s) (hc : 0 ≤ c) : ∃ q e z m : Int, c = s * q + e ∧ 0 ≤ q ∧ 0 ≤ e ∧ e < s ∧ q + e = (s - 1) * z + m ∧ 0 ≤ m ∧ m < s - 1 ∧ thickOf s r c = r - z ∧ c.fdiv s = q ∧ c.fmod s = e := by
  have h0 : 0 ≤ s := by omega
  have h1 : 0 < s := by omega
  have h2 : 0 ≤ s - 1 := by omega
  have h3 : 0 < s - 1 := by omega
  refine ⟨c / s, c % s, (c / s + c % s) / (s - 1), (c / s + c % s) % (s - 1), (Int.mul_ediv_add_emod c s).symm, Int.ediv_nonneg hc h0, Int.emod_nonneg _ (Int.ne_of_gt h1), Int.emod_lt_of_pos _ h1,
    (Int.mul_ediv_add_emod _ _).symm, Int.emod_nonneg _ (Int.ne_of_gt h3), Int.emod_lt_of_pos _ h3, ?_, fdiv_nn h0, fmod_nn h0⟩
  unfold thickOf
  rw [fdiv_nn h0, fmod_nn h0, fdiv_nn h2]
theorem ln1 {r q z m least most : Int} {t n e : Nat} (hz : q + e = 1 * z + m) (a : (t : Int) = r - z - least) (b : (n : Int) = most - (r - z) + q) : ((t * (1 + 1) + n + e : Nat) : Int) = 1 * r + m + (most - 2 * least) := by omega
theorem lv12 {r q z least most : Int} {t n e : Nat} (a : (t : Int) = r - z - least) (b : (n : Int) = most - (r - z) + q) : (e : Int) + (2 : Nat) * (0 + (t + n : Nat)) = 2 * q + e + 2 * (most - least) := by omega
theorem ar1 {r1 q1 z1 m1 r2 q2 z2 m2 least most : Int} {t1 n1 e1 t2 n2 e2 : Nat} (hq1 : 0 ≤ q1) (he1 : e1 ≤ 1) (hz1 : q1 + e1 = 1 * z1 + m1) (hm1 : 0 ≤ m1) (hM1 : m1 < 1) (hq2 : 0 ≤ q2) (he2 : e2 ≤ 1) (hz2 : q2 + e2 = 1 * z2 + m2) (hm2 : 0 ≤ m2) (hM2 : m2 < 1)
    (a1 : (t1 : Int) = r1 - z1 - least) (b1 : (n1 : Int) = most - (r1 - z1) + q1) (a2 : (t2 : Int) = r2 - z2 - least) (b2 : (n2 : Int) = most - (r2 - z2) + q2) (hrc : r1 = r2 → 2 * q1 + e1 = 2 * q2 + e2) :
    lessF (leadN 1 t1 n1 e1) (leadN 1 t2 n2 e2) = true ↔ r1 < r2 ∧ 2 * q1 + e1 < 2 * q2 + e2 := by
  rw [less_ld (by decide) he1 he2, ← Int.ofNat_lt, ln1 hz1 a1 b1, ln1 hz2 a2 b2]
  constructor
  · intro ⟨h1, h2, h3⟩
    have hr : r1 < r2 := by
      rcases Int.lt_trichotomy r1 r2 with h | h | h
      · exact h
      · have := hrc h; clear hrc h2 h3 a1 a2 b1 b2; omega
      · clear hrc h2 h3 a1 a2 b1 b2; omega
    refine ⟨hr, ?_⟩
    by_cases q : t1 = 0 ∧ t2 = 0
    · have := h2 q
      clear h1 h2 h3 hrc; omega
    · have := h3 q 2 (by decide) (by decide)
      rw [if_neg (by decide), if_neg (by decide), lv12 a1 b1, lv12 a2 b2] at this
      exact Int.lt_of_add_lt_add_right this
  · intro ⟨h1, h2⟩
    clear hrc
    refine ⟨by clear a1 a2 b1 b2; omega, fun q => by omega, fun q ts h3 h4 => ?_⟩
    obtain rfl : ts = 2 := Nat.le_antisymm h4 h3
    rw [if_neg (by decide), if_neg (by decide), lv12 a1 b1, lv12 a2 b2]
    exact Int.add_lt_add_right h2 _
theorem ln2 {r q z m least most : Int} {t n e : Nat} (hz : q + e = 2 * z + m) (a : (t : Int) = r - z - least) (b : (n : Int) = most - (r - z) + q) : ((t * (2 + 1) + n + e : Nat) : Int) = 2 * r + m + (most - 3 * least) := by omega
theorem lv22 {r q z least most : Int} {t n e : Nat} (a : (t : Int) = r - z - least) (b : (n : Int) = most - (r - z) + q) : (e : Int) + (2 : Nat) * (t + (t + n : Nat)) = 2 * (r - z + q) + e + 2 * (most - 2 * least) := by omega
theorem lv23 {r q z least most : Int} {t n e : Nat} (a : (t : Int) = r - z - least) (b : (n : Int) = most - (r - z) + q) : (e : Int) + (3 : Nat) * (0 + (t + n : Nat)) = 3 * q + e + 3 * (most - least) := by omega
theorem ar2 {r1 q1 z1 m1 r2 q2 z2 m2 least most : Int} {t1 n1 e1 t2 n2 e2 : Nat} (hq1 : 0 ≤ q1) (he1 : e1 ≤ 2) (hz1 : q1 + e1 = 2 * z1 + m1) (hm1 : 0 ≤ m1) (hM1 : m1 < 2) (hq2 : 0 ≤ q2) (he2 : e2 ≤ 2) (hz2 : q2 + e2 = 2 * z2 + m2) (hm2 : 0 ≤ m2) (hM2 : m2 < 2)
    (a1 : (t1 : Int) = r1 - z1 - least) (b1 : (n1 : Int) = most - (r1 - z1) + q1) (a2 : (t2 : Int) = r2 - z2 - least) (b2 : (n2 : Int) = most - (r2 - z2) + q2) (hrc : r1 = r2 → 3 * q1 + e1 = 3 * q2 + e2) :
    lessF (leadN 2 t1 n1 e1) (leadN 2 t2 n2 e2) = true ↔ r1 < r2 ∧ 3 * q1 + e1 < 3 * q2 + e2 := by
  rw [less_ld (by decide) he1 he2, ← Int.ofNat_lt, ln2 hz1 a1 b1, ln2 hz2 a2 b2]
  constructor
  · intro ⟨h1, h2, h3⟩
    have hr : r1 < r2 := by
      rcases Int.lt_trichotomy r1 r2 with h | h | h
      · exact h
      · have := hrc h; clear hrc h2 h3 a1 a2 b1 b2; omega
      · clear hrc h2 h3 a1 a2 b1 b2; omega
    refine ⟨hr, ?_⟩
    by_cases q : t1 = 0 ∧ t2 = 0
    · have := h2 q
      clear h1 h2 h3 hrc; omega
    · have := h3 q 3 (by decide) (by decide)
      rw [if_neg (by decide), if_neg (by decide), lv23 a1 b1, lv23 a2 b2] at this
      exact Int.lt_of_add_lt_add_right this
  · intro ⟨h1, h2⟩
    clear hrc
    refine ⟨by clear a1 a2 b1 b2; omega, fun q => by omega, fun q ts h3 h4 => ?_⟩
    obtain rfl | rfl : ts = 2 ∨ ts = 3 := by clear q a1 a2 b1 b2 hz1 hz2 hm1 hm2 hM1 hM2 hq1 hq2 he1 he2 h1 h2; omega
    · rw [if_pos (by decide), if_pos (by decide), lv22 a1 b1, lv22 a2 b2]
      refine Int.add_lt_add_right ?_ _
      clear q a1 a2 b1 b2; omega
    · rw [if_neg (by decide), if_neg (by decide), lv23 a1 b1, lv23 a2 b2]
      exact Int.add_lt_add_right h2 _
theorem ln3 {r q z m least most : Int} {t n e : Nat} (hz : q + e = 3 * z + m) (a : (t : Int) = r - z - least) (b : (n : Int) = most - (r - z) + q) : ((t * (3 + 1) + n + e : Nat) : Int) = 3 * r + m + (most - 4 * least) := by omega
theorem lv32 {r q z least most : Int} {t n e : Nat} (a : (t : Int) = r - z - least) (b : (n : Int) = most - (r - z) + q) : (e : Int) + (2 : Nat) * (t + (t + n : Nat)) = 2 * (r - z + q) + e + 2 * (most - 2 * least) := by omega
theorem lv33 {r q z least most : Int} {t n e : Nat} (a : (t : Int) = r - z - least) (b : (n : Int) = most - (r - z) + q) : (e : Int) + (3 : Nat) * (t + (t + n : Nat)) = 3 * (r - z + q) + e + 3 * (most - 2 * least) := by omega
theorem lv34 {r q z least most : Int} {t n e : Nat} (a : (t : Int) = r - z - least) (b : (n : Int) = most - (r - z) + q) : (e : Int) + (4 : Nat) * (0 + (t + n : Nat)) = 4 * q + e + 4 * (most - least) := by omega
theorem ar3 {r1 q1 z1 m1 r2 q2 z2 m2 least most : Int} {t1 n1 e1 t2 n2 e2 : Nat} (hq1 : 0 ≤ q1) (he1 : e1 ≤ 3) (hz1 : q1 + e1 = 3 * z1 + m1) (hm1 : 0 ≤ m1) (hM1 : m1 < 3) (hq2 : 0 ≤ q2) (he2 : e2 ≤ 3) (hz2 : q2 + e2 = 3 * z2 + m2) (hm2 : 0 ≤ m2) (hM2 : m2 < 3)
    (a1 : (t1 : Int) = r1 - z1 - least) (b1 : (n1 : Int) = most - (r1 - z1) + q1) (a2 : (t2 : Int) = r2 - z2 - least) (b2 : (n2 : Int) = most - (r2 - z2) + q2) (hrc : r1 = r2 → 4 * q1 + e1 = 4 * q2 + e2) :
    lessF (leadN 3 t1 n1 e1) (leadN 3 t2 n2 e2) = true ↔ r1 < r2 ∧ 4 * q1 + e1 < 4 * q2 + e2 := by
  rw [less_ld (by decide) he1 he2, ← Int.ofNat_lt, ln3 hz1 a1 b1, ln3 hz2 a2 b2]
  constructor
  · intro ⟨h1, h2, h3⟩
    have hr : r1 < r2 := by
      rcases Int.lt_trichotomy r1 r2 with h | h | h
      · exact h
      · have := hrc h; clear hrc h2 h3 a1 a2 b1 b2; omega
      · clear hrc h2 h3 a1 a2 b1 b2; omega
    refine ⟨hr, ?_⟩
    by_cases q : t1 = 0 ∧ t2 = 0
    · have := h2 q
      clear h1 h2 h3 hrc; omega
    · have := h3 q 4 (by decide) (by decide)
      rw [if_neg (by decide), if_neg (by decide), lv34 a1 b1, lv34 a2 b2] at this
      exact Int.lt_of_add_lt_add_right this
  · intro ⟨h1, h2⟩
    clear hrc
    refine ⟨by clear a1 a2 b1 b2; omega, fun q => by omega, fun q ts h3 h4 => ?_⟩
    obtain rfl | rfl | rfl : ts = 2 ∨ ts = 3 ∨ ts = 4 := by clear q a1 a2 b1 b2 hz1 hz2 hm1 hm2 hM1 hM2 hq1 hq2 he1 he2 h1 h2; omega
    · rw [if_pos (by decide), if_pos (by decide), lv32 a1 b1, lv32 a2 b2]
      refine Int.add_lt_add_right ?_ _
      clear q a1 a2 b1 b2 h3 h4
      have hX : q1 + z1 ≤ q2 + z2 := by omega
      rcases Int.lt_or_eq_of_le hX with h | h <;> omega
    · rw [if_pos (by decide), if_pos (by decide), lv33 a1 b1, lv33 a2 b2]
      refine Int.add_lt_add_right ?_ _
      clear q a1 a2 b1 b2 h3 h4
      have hX : q1 ≤ q2 := by clear hz1 hz2 hm1 hm2 hM1 hM2 h1; omega
      clear h2; omega
    · rw [if_neg (by decide), if_neg (by decide), lv34 a1 b1, lv34 a2 b2]
      exact Int.add_lt_add_right h2 _
theorem lead_eq {s least most th c : Int} : leadOf s least most th c = leadN (s - 1).toNat (th - least).toNat (most - th + c.fdiv s).toNat (c.fmod s).toNat := rfl
theorem lead_less {sh least most r1 c1 r2 c2 : Int} (hs : 0 ≤ sh ∧ sh ≤ 2) (hc1 : 0 ≤ c1) (hc2 : 0 ≤ c2) (hrc : r1 = r2 → c1 = c2)
    (l1 : least ≤ thickOf (2 + sh) r1 c1) (m1 : thickOf (2 + sh) r1 c1 ≤ most) (l2 : least ≤ thickOf (2 + sh) r2 c2) (m2 : thickOf (2 + sh) r2 c2 ≤ most) :
    lessF (leadOf (2 + sh) least most (thickOf (2 + sh) r1 c1) c1) (leadOf (2 + sh) least most (thickOf (2 + sh) r2 c2) c2) = true ↔ r1 < r2 ∧ c1 < c2 := by
  have h2s : (2 : Int) ≤ 2 + sh := by omega
  obtain ⟨q1, e1, z1, k1, a1, a2, a3, a4, a5, a6, a7, a8, a9, a10⟩ := thick_parts (r := r1) h2s hc1
  obtain ⟨q2, e2, z2, k2, b1, b2, b3, b4, b5, b6, b7, b8, b9, b10⟩ := thick_parts (r := r2) h2s hc2
  rw [lead_eq, lead_eq, a8, b8, a9, a10, b9, b10]
  rw [a8] at l1 m1
  rw [b8] at l2 m2
  clear a8 a9 a10 b8 b9 b10
  obtain ⟨E1, rfl⟩ := Int.eq_ofNat_of_zero_le a3
  obtain ⟨E2, rfl⟩ := Int.eq_ofNat_of_zero_le b3
  have t1 := Int.toNat_of_nonneg (Int.sub_nonneg.mpr l1)
  have t2 := Int.toNat_of_nonneg (Int.sub_nonneg.mpr l2)
  have n1 := Int.toNat_of_nonneg (Int.add_nonneg (Int.sub_nonneg.mpr m1) a2)
  have n2 := Int.toNat_of_nonneg (Int.add_nonneg (Int.sub_nonneg.mpr m2) b2)
  rw [a1, b1] at hrc ⊢
  rw [Int.toNat_natCast, Int.toNat_natCast]
  clear a1 b1 hc1 hc2 l1 l2 m1 m2
  obtain rfl | rfl | rfl : sh = 0 ∨ sh = 1 ∨ sh = 2 := by omega
  · exact ar1 a2 (Int.ofNat_le.mp (Int.le_of_lt_add_one a4)) a5 a6 a7 b2 (Int.ofNat_le.mp (Int.le_of_lt_add_one b4)) b5 b6 b7 t1 n1 t2 n2 hrc
  · exact ar2 a2 (Int.ofNat_le.mp (Int.le_of_lt_add_one a4)) a5 a6 a7 b2 (Int.ofNat_le.mp (Int.le_of_lt_add_one b4)) b5 b6 b7 t1 n1 t2 n2 hrc
  · exact ar3 a2 (Int.ofNat_le.mp (Int.le_of_lt_add_one a4)) a5 a6 a7 b2 (Int.ofNat_le.mp (Int.le_of_lt_add_one b4)) b5 b6 b7 t1 n1 t2 n2 hrc
theorem asked_law : AskedLaw := by
  intro wd n sh least most hw hw1 hw10 hsh hl hm
  generalize htw : wd.map (exch n) = tw at *
  have htl : tw.length = wd.length := by rw [← htw, List.length_map]
  refine asked_of htl fun i j hi hj => ?_
  have thick : ∀ i, i < wd.length → (thickL wd tw sh)[i]? = some (thickOf (2 + sh) (rankOf (worthsL wd) (worthOf wd i)) (secOf tw i)) := fun i hi => by
    unfold thickL
    rw [List.getElem?_zipWith, first_get hi, sec_get (by omega)]
  have lead : ∀ i, i < wd.length → (leadL wd tw sh least most)[i]? = some (leadOf (2 + sh) least most (thickOf (2 + sh) (rankOf (worthsL wd) (worthOf wd i)) (secOf tw i)) (secOf tw i)) := fun i hi => by
    unfold leadL
    rw [List.getElem?_zipWith, thick i hi, sec_get (by omega)]
  rw [lead i hi, lead j hj, ← first_iff hw hi hj, ← sec_iff (by omega) (by omega)]
  have mi := List.mem_of_getElem? (thick i hi)
  have mj := List.mem_of_getElem? (thick j hj)
  refine lead_less hsh (secOf_bd (by omega) (by omega)).1 (secOf_bd (by omega) (by omega)).1 (fun e => ?_) (hl.2 _ mi) (hm.2 _ mi) (hl.2 _ mj) (hm.2 _ mj)
  have h1 := first_iff hw hi hj
  have h2 := first_iff hw hj hi
  rw [e] at h1 h2
  by_cases q : i = j
  · rw [q]
  · rcases ll_tot (drop_ne (l := wd) (i := i) (j := j) (by omega) (by omega) q) with r | r
    · have := h1.mpr r; omega
    · have := h2.mpr r; omega
end Mine
end
theorem PySem.Challenge.cw_kl0265_01_holds : PySem.Challenge.rw_kl0265_01.Holds :=
  Mine.head_ (Mine.walk_ Mine.asked_law)
