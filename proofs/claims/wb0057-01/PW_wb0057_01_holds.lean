import PyProof.Rows.All
import Wide.All
import OpenK.AllK
import Wide.FinOn
import PySem.Challenge.RW_wb0057_01
open PySem PySem.W PySem.Calls PyProof.Rows
set_option Elab.async false
section
namespace Mine
def b1vals : List (Int × Nat) := [(65024, 226), (65025, 227), (65026, 228), (65027, 229), (65028, 230), (65029, 231), (6150, 212), (65030, 232), (65031, 233), (65032, 234), (65033, 235), (6155, 213), (6156, 214), (6157, 215), (8203, 216), (8204, 217), (8205, 218), (65034, 236), (65035, 237), (65036, 238), (65037, 239), (65038, 240), (65039, 241), (173, 210), (847, 211), (8288, 219), (65279, 220)]
def b1tab (led : Bool) : SetTable := { mask := 127, place := #[0, 1, 2, 3, 4, 5, 6, 7, 8, 9, 10, 11, 12, 13, 14, 15, 16, 17, 18, 19, 20, 21, 22, 45, 79, 96, 127], dummies := #[], finger := 0, led := led, moves := 2, plain := true }
def b1obj (led : Bool) : Obj := { cls := .type "set", data := .set (b1vals.map fun p => (p.1, Value.int p.1 p.2)).toArray 29 (b1tab led) }
def b3keys : List Int := match (PySem.Challenge.pw_wb0057_01.main.body[7]? : Option PySem.Stmt) with
  | some (PySem.Stmt.Assign _ (PySem.Expr.Dict ks _ _) _) => ks.filterMap fun k => match k with | some (PySem.Expr.Constant (.int n) _ _) => some n | _ => none
  | _ => []
def b3vals : List Str := match (PySem.Challenge.pw_wb0057_01.main.body[7]? : Option PySem.Stmt) with
  | some (PySem.Stmt.Assign _ (PySem.Expr.Dict _ vs _) _) => vs.filterMap fun v => match v with | PySem.Expr.Constant (.str x) _ _ => some x | _ => none
  | _ => []
def b3pairs : List (Int × Str) := b3keys.zip b3vals
def b3tok (i : Nat) : Nat := if i < 646 then 277 + 3 * i else 2215 + 2 * (i - 646)
def b3from : Nat → List (Int × Str) → List DictEntry
  | _, [] => []
  | i, (k, v) :: r => ⟨k, .int k (b3tok i), .str v (b3tok i + 1)⟩ :: b3from (i + 1) r
def b3obj : Obj := { cls := .type "dict", data := .dict (b3from 0 b3pairs).toArray 650 }
theorem b3len : b3pairs.length = 650 := by decide +kernel
end Mine
end
section
namespace Mine
noncomputable section
def fnC (i : Nat) : Obj := match PySem.Challenge.pw_wb0057_01.main.body[i]? with
  | some (.FunctionDef name args body _ _ _ scope _ _ _) => { cls := .none, data := .func { name := name, qualname := name, params := args, body := .stmts body, scope := scope, globals := 0, closure := [], defaults := .none, kwdefaults := .none } }
  | _ => { cls := .none }
def fnO (i : Nat) (m : Str) (t k : Nat) : Obj := match PySem.Challenge.pw_wb0057_01.main.body[i]? with
  | some (.FunctionDef name args body _ _ _ scope _ _ _) => { cls := .type "function", data := .func { name := name, qualname := name, params := args, body := .stmts body, scope := scope, globals := 3, closure := [], defaults := .none, kwdefaults := .none, pyModule := .str m t, code := .ref k } }
  | _ => { cls := .none }
def subO (i : Nat) : Obj := { cls := .type "dict", data := .dict (b3from (17 * (i - 47)) ((b3pairs.drop (17 * (i - 47))).take 17)).toArray (if i < 85 then 17 else 4) }
def hO0a (P : Params) : Obj := boot_o_0 P
def hO1a (P : Params) : Obj := boot_o_1 P
def hO2a (P : Params) : Obj := boot_o_2 P
def hO3a (P : Params) : Obj := boot_o_3 P
def hO4a (P : Params) : Obj := boot_o_4 P
def hO5a (P : Params) : Obj := boot_o_5 P
def hO6a (P : Params) : Obj := boot_o_6 P
def hO7a (P : Params) : Obj := boot_o_7 P
def hO8a (P : Params) : Obj := boot_o_8 P
def hO9a (P : Params) : Obj := boot_o_9 P
def hO10a (P : Params) : Obj := boot_o_10 P
def hO11a (_P : Params) : Obj := { cls := Value.type "tuple", data := Data.seq #[] }
def hO12a (_P : Params) : Obj := { cls := Value.none, data := Data.fields #[] }
def hO13a (_P : Params) : Obj := { cls := Value.type "code", data := Data.fields #[Value.str (Str.ofString "<module>") 182, Value.str (Str.ofString "<module>") 183, Value.str (Str.ofString "/claim/cut.py") 184, Value.int 1 0, Value.int 0 0, Value.int 0 0, Value.int 0 0, Value.int 0 0, Value.ref 11, Value.bool false, Value.int 181 0, Value.ref 12, Value.none, Value.none, Value.none, Value.none, Value.int 185 0, Value.int 1 0, Value.str (Str.ofString "/claim/cut.py") 186] }
def hO14a (_P : Params) : Obj := { cls := Value.type "frame", slots := #[some (Value.ref 13), some (Value.ref 3), some (Value.ref 3), none, some (Value.str (Str.ofString "__main__") 164), none, some (Value.ref 0)] }
def hO3e (P : Params) : Obj := { cls := Value.type "dict", data := Data.dict #[{ hash := PyData.keyHash P (Str.ofString "__name__"), key := Value.str (Str.ofString "__name__") 165, val := Value.str (Str.ofString "cpy313.stringprep") 208 }, { hash := PyData.keyHash P (Str.ofString "__doc__"), key := Value.str (Str.ofString "__doc__") 166, val := Value.none }, { hash := PyData.keyHash P (Str.ofString "__package__"), key := Value.str (Str.ofString "__package__") 167, val := Value.none }, { hash := PyData.keyHash P (Str.ofString "__loader__"), key := Value.str (Str.ofString "__loader__") 168, val := Value.builtin "__main__.__loader__#opaque" }, { hash := PyData.keyHash P (Str.ofString "__spec__"), key := Value.str (Str.ofString "__spec__") 169, val := Value.none }, { hash := PyData.keyHash P (Str.ofString "__annotations__"), key := Value.str (Str.ofString "__annotations__") 170, val := Value.ref 6 }, { hash := PyData.keyHash P (Str.ofString "__builtins__"), key := Value.str (Str.ofString "__builtins__") 171, val := Value.ref 4 }, { hash := PyData.keyHash P (Str.ofString "__file__"), key := Value.str (Str.ofString "__file__") 173, val := Value.str (Str.ofString "/claim/cut.py") 172 }, { hash := PyData.keyHash P (Str.ofString "__cached__"), key := Value.str (Str.ofString "__cached__") 174, val := Value.none }, { hash := PyData.keyHash P (Str.ofString "_strcoll"), key := Value.str (Str.ofString "_strcoll") 196, val := Value.ref 21 }, { hash := PyData.keyHash P (Str.ofString "_parse_varint"), key := Value.str (Str.ofString "_parse_varint") 207, val := Value.ref 28 }] 11 }
def hO12e (_P : Params) : Obj := { cls := Value.none, data := Data.fields #[Value.int 2 0, Value.int 0 0, Value.ref 20, Value.int 5 0, Value.int 0 0, Value.ref 27] }
def hO15e (_P : Params) : Obj := { cls := Value.type "tuple", data := Data.seq #[] }
def hO16e (_P : Params) : Obj := { cls := Value.none, data := Data.fields #[] }
def hO17e (_P : Params) : Obj := { cls := Value.type "tuple", data := Data.seq #[Value.str (Str.ofString "a") 192, Value.str (Str.ofString "b") 193] }
def hO18e (_P : Params) : Obj := { cls := Value.type "tuple", data := Data.seq #[] }
def hO19e (_P : Params) : Obj := fnC 1
def hO20e (_P : Params) : Obj := { cls := Value.type "code", data := Data.fields #[Value.str (Str.ofString "_strcoll") 189, Value.str (Str.ofString "_strcoll") 190, Value.str (Str.ofString "/claim/cut.py") 191, Value.int 2 0, Value.int 2 0, Value.int 0 0, Value.int 0 0, Value.int 3 0, Value.ref 15, Value.bool true, Value.int 181 0, Value.ref 16, Value.none, Value.ref 17, Value.ref 18, Value.ref 19, Value.int 194 0, Value.int 2 0, Value.str (Str.ofString "/claim/cut.py") 195] }
def hO21e (_P : Params) : Obj := fnO 1 (Str.ofString "cpy313.locale") 187 20
def hO22e (_P : Params) : Obj := { cls := Value.type "tuple", data := Data.seq #[] }
def hO23e (_P : Params) : Obj := { cls := Value.none, data := Data.fields #[] }
def hO24e (_P : Params) : Obj := { cls := Value.type "tuple", data := Data.seq #[Value.str (Str.ofString "iterator") 202, Value.str (Str.ofString "b") 203, Value.str (Str.ofString "val") 204] }
def hO25e (_P : Params) : Obj := { cls := Value.type "tuple", data := Data.seq #[] }
def hO26e (_P : Params) : Obj := fnC 3
def hO27e (_P : Params) : Obj := { cls := Value.type "code", data := Data.fields #[Value.str (Str.ofString "_parse_varint") 199, Value.str (Str.ofString "_parse_varint") 200, Value.str (Str.ofString "/claim/cut.py") 201, Value.int 5 0, Value.int 1 0, Value.int 0 0, Value.int 0 0, Value.int 3 0, Value.ref 22, Value.bool true, Value.int 181 0, Value.ref 23, Value.none, Value.ref 24, Value.ref 25, Value.ref 26, Value.int 205 0, Value.int 5 0, Value.str (Str.ofString "/claim/cut.py") 206] }
def hO28e (_P : Params) : Obj := fnO 3 (Str.ofString "cpy313.dis") 197 27
def hO3f (P : Params) : Obj := { cls := Value.type "dict", data := Data.dict #[{ hash := PyData.keyHash P (Str.ofString "__name__"), key := Value.str (Str.ofString "__name__") 165, val := Value.str (Str.ofString "cpy313.stringprep") 208 }, { hash := PyData.keyHash P (Str.ofString "__doc__"), key := Value.str (Str.ofString "__doc__") 166, val := Value.none }, { hash := PyData.keyHash P (Str.ofString "__package__"), key := Value.str (Str.ofString "__package__") 167, val := Value.none }, { hash := PyData.keyHash P (Str.ofString "__loader__"), key := Value.str (Str.ofString "__loader__") 168, val := Value.builtin "__main__.__loader__#opaque" }, { hash := PyData.keyHash P (Str.ofString "__spec__"), key := Value.str (Str.ofString "__spec__") 169, val := Value.none }, { hash := PyData.keyHash P (Str.ofString "__annotations__"), key := Value.str (Str.ofString "__annotations__") 170, val := Value.ref 6 }, { hash := PyData.keyHash P (Str.ofString "__builtins__"), key := Value.str (Str.ofString "__builtins__") 171, val := Value.ref 4 }, { hash := PyData.keyHash P (Str.ofString "__file__"), key := Value.str (Str.ofString "__file__") 173, val := Value.str (Str.ofString "/claim/cut.py") 172 }, { hash := PyData.keyHash P (Str.ofString "__cached__"), key := Value.str (Str.ofString "__cached__") 174, val := Value.none }, { hash := PyData.keyHash P (Str.ofString "_strcoll"), key := Value.str (Str.ofString "_strcoll") 196, val := Value.ref 21 }, { hash := PyData.keyHash P (Str.ofString "_parse_varint"), key := Value.str (Str.ofString "_parse_varint") 207, val := Value.ref 28 }, { hash := PyData.keyHash P (Str.ofString "b1_set"), key := Value.str (Str.ofString "b1_set") 269, val := Value.ref 36 }] 12 }
def hO29f (_P : Params) : Obj := { cls := Value.type "list", data := Data.seq #[Value.int 173 210, Value.int 847 211, Value.int 6150 212, Value.int 6155 213, Value.int 6156 214, Value.int 6157 215, Value.int 8203 216, Value.int 8204 217, Value.int 8205 218, Value.int 8288 219, Value.int 65279 220] }
def hO30f (_P : Params) : Obj := { cls := Value.type "range", data := Data.fields #[Value.int 65024 221, Value.int 65040 222, Value.int 1 223] }
def hO31f (_P : Params) : Obj := { cls := Value.type "list", data := Data.seq #[Value.int 65024 226, Value.int 65025 227, Value.int 65026 228, Value.int 65027 229, Value.int 65028 230, Value.int 65029 231, Value.int 65030 232, Value.int 65031 233, Value.int 65032 234, Value.int 65033 235, Value.int 65034 236, Value.int 65035 237, Value.int 65036 238, Value.int 65037 239, Value.int 65038 240, Value.int 65039 241] 18 }
def hO32f (_P : Params) : Obj := { cls := Value.type "range_iterator", data := Data.fields #[Value.int 65040 0, Value.int 0 0, Value.int 1 0] }
def hO33f (_P : Params) : Obj := { cls := Value.type "tuple", data := Data.seq #[] }
def hO34f (_P : Params) : Obj := { cls := Value.type "StopIteration", data := Data.fields #[Value.ref 33, Value.none, Value.none, Value.none, Value.bool false, Value.none] }
def hO35f (_P : Params) : Obj := { cls := Value.type "list", data := Data.seq #[Value.int 173 210, Value.int 847 211, Value.int 6150 212, Value.int 6155 213, Value.int 6156 214, Value.int 6157 215, Value.int 8203 216, Value.int 8204 217, Value.int 8205 218, Value.int 8288 219, Value.int 65279 220, Value.int 65024 226, Value.int 65025 227, Value.int 65026 228, Value.int 65027 229, Value.int 65028 230, Value.int 65029 231, Value.int 65030 232, Value.int 65031 233, Value.int 65032 234, Value.int 65033 235, Value.int 65034 236, Value.int 65035 237, Value.int 65036 238, Value.int 65037 239, Value.int 65038 240, Value.int 65039 241] }
def hO36f (P : Params) : Obj := b1obj (!P.followText "set-order")
def hO37f (_P : Params) : Obj := { cls := Value.type "list_iterator", data := Data.fields #[Value.none, Value.int 27 0] }
def hO38f (_P : Params) : Obj := { cls := Value.type "tuple", data := Data.seq #[] }
def hO39f (_P : Params) : Obj := { cls := Value.type "StopIteration", data := Data.fields #[Value.ref 38, Value.none, Value.none, Value.none, Value.bool false, Value.none] }
def hO3b (P : Params) : Obj := { cls := Value.type "dict", data := Data.dict #[{ hash := PyData.keyHash P (Str.ofString "__name__"), key := Value.str (Str.ofString "__name__") 165, val := Value.str (Str.ofString "cpy313.stringprep") 208 }, { hash := PyData.keyHash P (Str.ofString "__doc__"), key := Value.str (Str.ofString "__doc__") 166, val := Value.none }, { hash := PyData.keyHash P (Str.ofString "__package__"), key := Value.str (Str.ofString "__package__") 167, val := Value.none }, { hash := PyData.keyHash P (Str.ofString "__loader__"), key := Value.str (Str.ofString "__loader__") 168, val := Value.builtin "__main__.__loader__#opaque" }, { hash := PyData.keyHash P (Str.ofString "__spec__"), key := Value.str (Str.ofString "__spec__") 169, val := Value.none }, { hash := PyData.keyHash P (Str.ofString "__annotations__"), key := Value.str (Str.ofString "__annotations__") 170, val := Value.ref 6 }, { hash := PyData.keyHash P (Str.ofString "__builtins__"), key := Value.str (Str.ofString "__builtins__") 171, val := Value.ref 4 }, { hash := PyData.keyHash P (Str.ofString "__file__"), key := Value.str (Str.ofString "__file__") 173, val := Value.str (Str.ofString "/claim/cut.py") 172 }, { hash := PyData.keyHash P (Str.ofString "__cached__"), key := Value.str (Str.ofString "__cached__") 174, val := Value.none }, { hash := PyData.keyHash P (Str.ofString "_strcoll"), key := Value.str (Str.ofString "_strcoll") 196, val := Value.ref 21 }, { hash := PyData.keyHash P (Str.ofString "_parse_varint"), key := Value.str (Str.ofString "_parse_varint") 207, val := Value.ref 28 }, { hash := PyData.keyHash P (Str.ofString "b1_set"), key := Value.str (Str.ofString "b1_set") 269, val := Value.ref 36 }, { hash := PyData.keyHash P (Str.ofString "in_table_b1"), key := Value.str (Str.ofString "in_table_b1") 276, val := Value.ref 46 }] 13 }
def hO12b (_P : Params) : Obj := { cls := Value.none, data := Data.fields #[Value.int 2 0, Value.int 0 0, Value.ref 20, Value.int 5 0, Value.int 0 0, Value.ref 27, Value.int 15 0, Value.int 0 0, Value.ref 45] }
def hO40b (_P : Params) : Obj := { cls := Value.type "tuple", data := Data.seq #[] }
def hO41b (_P : Params) : Obj := { cls := Value.none, data := Data.fields #[] }
def hO42b (_P : Params) : Obj := { cls := Value.type "tuple", data := Data.seq #[Value.str (Str.ofString "code") 273] }
def hO43b (_P : Params) : Obj := { cls := Value.type "tuple", data := Data.seq #[] }
def hO44b (_P : Params) : Obj := fnC 6
def hO45b (_P : Params) : Obj := { cls := Value.type "code", data := Data.fields #[Value.str (Str.ofString "in_table_b1") 270, Value.str (Str.ofString "in_table_b1") 271, Value.str (Str.ofString "/claim/cut.py") 272, Value.int 15 0, Value.int 1 0, Value.int 0 0, Value.int 0 0, Value.int 3 0, Value.ref 40, Value.bool true, Value.int 181 0, Value.ref 41, Value.none, Value.ref 42, Value.ref 43, Value.ref 44, Value.int 274 0, Value.int 15 0, Value.str (Str.ofString "/claim/cut.py") 275] }
def hO46b (_P : Params) : Obj := fnO 6 (Str.ofString "cpy313.stringprep") 208 45
def hO3c (P : Params) : Obj := { cls := Value.type "dict", data := Data.dict #[{ hash := PyData.keyHash P (Str.ofString "__name__"), key := Value.str (Str.ofString "__name__") 165, val := Value.str (Str.ofString "cpy313.stringprep") 208 }, { hash := PyData.keyHash P (Str.ofString "__doc__"), key := Value.str (Str.ofString "__doc__") 166, val := Value.none }, { hash := PyData.keyHash P (Str.ofString "__package__"), key := Value.str (Str.ofString "__package__") 167, val := Value.none }, { hash := PyData.keyHash P (Str.ofString "__loader__"), key := Value.str (Str.ofString "__loader__") 168, val := Value.builtin "__main__.__loader__#opaque" }, { hash := PyData.keyHash P (Str.ofString "__spec__"), key := Value.str (Str.ofString "__spec__") 169, val := Value.none }, { hash := PyData.keyHash P (Str.ofString "__annotations__"), key := Value.str (Str.ofString "__annotations__") 170, val := Value.ref 6 }, { hash := PyData.keyHash P (Str.ofString "__builtins__"), key := Value.str (Str.ofString "__builtins__") 171, val := Value.ref 4 }, { hash := PyData.keyHash P (Str.ofString "__file__"), key := Value.str (Str.ofString "__file__") 173, val := Value.str (Str.ofString "/claim/cut.py") 172 }, { hash := PyData.keyHash P (Str.ofString "__cached__"), key := Value.str (Str.ofString "__cached__") 174, val := Value.none }, { hash := PyData.keyHash P (Str.ofString "_strcoll"), key := Value.str (Str.ofString "_strcoll") 196, val := Value.ref 21 }, { hash := PyData.keyHash P (Str.ofString "_parse_varint"), key := Value.str (Str.ofString "_parse_varint") 207, val := Value.ref 28 }, { hash := PyData.keyHash P (Str.ofString "b1_set"), key := Value.str (Str.ofString "b1_set") 269, val := Value.ref 36 }, { hash := PyData.keyHash P (Str.ofString "in_table_b1"), key := Value.str (Str.ofString "in_table_b1") 276, val := Value.ref 46 }, { hash := PyData.keyHash P (Str.ofString "b3_exceptions"), key := Value.str (Str.ofString "b3_exceptions") 2227, val := Value.ref 47 }] 14 }
def hO47c (_P : Params) : Obj := b3obj
def hO48c (_P : Params) : Obj := subO 48
def hO49c (_P : Params) : Obj := subO 49
def hO50c (_P : Params) : Obj := subO 50
def hO51c (_P : Params) : Obj := subO 51
def hO52c (_P : Params) : Obj := subO 52
def hO53c (_P : Params) : Obj := subO 53
def hO54c (_P : Params) : Obj := subO 54
def hO55c (_P : Params) : Obj := subO 55
def hO56c (_P : Params) : Obj := subO 56
def hO57c (_P : Params) : Obj := subO 57
def hO58c (_P : Params) : Obj := subO 58
def hO59c (_P : Params) : Obj := subO 59
def hO60c (_P : Params) : Obj := subO 60
def hO61c (_P : Params) : Obj := subO 61
def hO62c (_P : Params) : Obj := subO 62
def hO63c (_P : Params) : Obj := subO 63
def hO64c (_P : Params) : Obj := subO 64
def hO65c (_P : Params) : Obj := subO 65
def hO66c (_P : Params) : Obj := subO 66
def hO67c (_P : Params) : Obj := subO 67
def hO68c (_P : Params) : Obj := subO 68
def hO69c (_P : Params) : Obj := subO 69
def hO70c (_P : Params) : Obj := subO 70
def hO71c (_P : Params) : Obj := subO 71
def hO72c (_P : Params) : Obj := subO 72
def hO73c (_P : Params) : Obj := subO 73
def hO74c (_P : Params) : Obj := subO 74
def hO75c (_P : Params) : Obj := subO 75
def hO76c (_P : Params) : Obj := subO 76
def hO77c (_P : Params) : Obj := subO 77
def hO78c (_P : Params) : Obj := subO 78
def hO79c (_P : Params) : Obj := subO 79
def hO80c (_P : Params) : Obj := subO 80
def hO81c (_P : Params) : Obj := subO 81
def hO82c (_P : Params) : Obj := subO 82
def hO83c (_P : Params) : Obj := subO 83
def hO84c (_P : Params) : Obj := subO 84
def hO85c (_P : Params) : Obj := subO 85
def hO3d (P : Params) : Obj := { cls := Value.type "dict", data := Data.dict #[{ hash := PyData.keyHash P (Str.ofString "__name__"), key := Value.str (Str.ofString "__name__") 165, val := Value.str (Str.ofString "law_wb0057_01") 2236 }, { hash := PyData.keyHash P (Str.ofString "__doc__"), key := Value.str (Str.ofString "__doc__") 166, val := Value.none }, { hash := PyData.keyHash P (Str.ofString "__package__"), key := Value.str (Str.ofString "__package__") 167, val := Value.none }, { hash := PyData.keyHash P (Str.ofString "__loader__"), key := Value.str (Str.ofString "__loader__") 168, val := Value.builtin "__main__.__loader__#opaque" }, { hash := PyData.keyHash P (Str.ofString "__spec__"), key := Value.str (Str.ofString "__spec__") 169, val := Value.none }, { hash := PyData.keyHash P (Str.ofString "__annotations__"), key := Value.str (Str.ofString "__annotations__") 170, val := Value.ref 6 }, { hash := PyData.keyHash P (Str.ofString "__builtins__"), key := Value.str (Str.ofString "__builtins__") 171, val := Value.ref 4 }, { hash := PyData.keyHash P (Str.ofString "__file__"), key := Value.str (Str.ofString "__file__") 173, val := Value.str (Str.ofString "/claim/cut.py") 172 }, { hash := PyData.keyHash P (Str.ofString "__cached__"), key := Value.str (Str.ofString "__cached__") 174, val := Value.none }, { hash := PyData.keyHash P (Str.ofString "_strcoll"), key := Value.str (Str.ofString "_strcoll") 196, val := Value.ref 21 }, { hash := PyData.keyHash P (Str.ofString "_parse_varint"), key := Value.str (Str.ofString "_parse_varint") 207, val := Value.ref 28 }, { hash := PyData.keyHash P (Str.ofString "b1_set"), key := Value.str (Str.ofString "b1_set") 269, val := Value.ref 36 }, { hash := PyData.keyHash P (Str.ofString "in_table_b1"), key := Value.str (Str.ofString "in_table_b1") 276, val := Value.ref 46 }, { hash := PyData.keyHash P (Str.ofString "b3_exceptions"), key := Value.str (Str.ofString "b3_exceptions") 2227, val := Value.ref 47 }, { hash := PyData.keyHash P (Str.ofString "map_table_b3"), key := Value.str (Str.ofString "map_table_b3") 2235, val := Value.ref 92 }, { hash := PyData.keyHash P (Str.ofString "_law_octets"), key := Value.str (Str.ofString "_law_octets") 2245, val := Value.ref 99 }, { hash := PyData.keyHash P (Str.ofString "_law_cards"), key := Value.str (Str.ofString "_law_cards") 2251, val := Value.ref 104 }, { hash := PyData.keyHash P (Str.ofString "_law_fourth"), key := Value.str (Str.ofString "_law_fourth") 2257, val := Value.ref 109 }, { hash := PyData.keyHash P (Str.ofString "law"), key := Value.str (Str.ofString "law") 2263, val := Value.ref 114 }] 19 }
def hO12d (_P : Params) : Obj := { cls := Value.none, data := Data.fields #[Value.int 2 0, Value.int 0 0, Value.ref 20, Value.int 5 0, Value.int 0 0, Value.ref 27, Value.int 15 0, Value.int 0 0, Value.ref 45, Value.int 18 0, Value.int 0 0, Value.ref 91, Value.int 24 0, Value.int 0 0, Value.ref 98, Value.int 30 0, Value.int 0 0, Value.ref 103, Value.int 39 0, Value.int 0 0, Value.ref 108, Value.int 49 0, Value.int 0 0, Value.ref 113] }
def hO86d (_P : Params) : Obj := { cls := Value.type "tuple", data := Data.seq #[] }
def hO87d (_P : Params) : Obj := { cls := Value.none, data := Data.fields #[] }
def hO88d (_P : Params) : Obj := { cls := Value.type "tuple", data := Data.seq #[Value.str (Str.ofString "code") 2231, Value.str (Str.ofString "r") 2232] }
def hO89d (_P : Params) : Obj := { cls := Value.type "tuple", data := Data.seq #[] }
def hO90d (_P : Params) : Obj := fnC 8
def hO91d (_P : Params) : Obj := { cls := Value.type "code", data := Data.fields #[Value.str (Str.ofString "map_table_b3") 2228, Value.str (Str.ofString "map_table_b3") 2229, Value.str (Str.ofString "/claim/cut.py") 2230, Value.int 18 0, Value.int 1 0, Value.int 0 0, Value.int 0 0, Value.int 3 0, Value.ref 86, Value.bool true, Value.int 181 0, Value.ref 87, Value.none, Value.ref 88, Value.ref 89, Value.ref 90, Value.int 2233 0, Value.int 18 0, Value.str (Str.ofString "/claim/cut.py") 2234] }
def hO92d (_P : Params) : Obj := fnO 8 (Str.ofString "cpy313.stringprep") 208 91
def hO93d (_P : Params) : Obj := { cls := Value.type "tuple", data := Data.seq #[] }
def hO94d (_P : Params) : Obj := { cls := Value.none, data := Data.fields #[] }
def hO95d (_P : Params) : Obj := { cls := Value.type "tuple", data := Data.seq #[Value.str (Str.ofString "number") 2241, Value.str (Str.ofString "digits") 2242] }
def hO96d (_P : Params) : Obj := { cls := Value.type "tuple", data := Data.seq #[] }
def hO97d (_P : Params) : Obj := fnC 10
def hO98d (_P : Params) : Obj := { cls := Value.type "code", data := Data.fields #[Value.str (Str.ofString "_law_octets") 2238, Value.str (Str.ofString "_law_octets") 2239, Value.str (Str.ofString "/claim/cut.py") 2240, Value.int 24 0, Value.int 1 0, Value.int 0 0, Value.int 0 0, Value.int 3 0, Value.ref 93, Value.bool true, Value.int 181 0, Value.ref 94, Value.none, Value.ref 95, Value.ref 96, Value.ref 97, Value.int 2243 0, Value.int 24 0, Value.str (Str.ofString "/claim/cut.py") 2244] }
def hO99d (_P : Params) : Obj := fnO 10 (Str.ofString "law_wb0057_01") 2236 98
def hO100d (_P : Params) : Obj := { cls := Value.type "tuple", data := Data.seq #[] }
def hO101d (_P : Params) : Obj := { cls := Value.none, data := Data.fields #[] }
def hO102d (_P : Params) : Obj := fnC 11
def hO103d (_P : Params) : Obj := { cls := Value.type "code", data := Data.fields #[Value.str (Str.ofString "_law_cards") 2246, Value.str (Str.ofString "_law_cards") 2247, Value.str (Str.ofString "/claim/cut.py") 2248, Value.int 30 0, Value.int 1 0, Value.int 0 0, Value.int 0 0, Value.int 3 0, Value.ref 100, Value.bool true, Value.int 181 0, Value.ref 101, Value.none, Value.none, Value.none, Value.ref 102, Value.int 2249 0, Value.int 30 0, Value.str (Str.ofString "/claim/cut.py") 2250] }
def hO104d (_P : Params) : Obj := fnO 11 (Str.ofString "law_wb0057_01") 2236 103
def hO105d (_P : Params) : Obj := { cls := Value.type "tuple", data := Data.seq #[] }
def hO106d (_P : Params) : Obj := { cls := Value.none, data := Data.fields #[] }
def hO107d (_P : Params) : Obj := fnC 12
def hO108d (_P : Params) : Obj := { cls := Value.type "code", data := Data.fields #[Value.str (Str.ofString "_law_fourth") 2252, Value.str (Str.ofString "_law_fourth") 2253, Value.str (Str.ofString "/claim/cut.py") 2254, Value.int 39 0, Value.int 2 0, Value.int 0 0, Value.int 0 0, Value.int 3 0, Value.ref 105, Value.bool true, Value.int 181 0, Value.ref 106, Value.none, Value.none, Value.none, Value.ref 107, Value.int 2255 0, Value.int 39 0, Value.str (Str.ofString "/claim/cut.py") 2256] }
def hO109d (_P : Params) : Obj := fnO 12 (Str.ofString "law_wb0057_01") 2236 108
def hO110d (_P : Params) : Obj := { cls := Value.type "tuple", data := Data.seq #[] }
def hO111d (_P : Params) : Obj := { cls := Value.none, data := Data.fields #[] }
def hO112d (_P : Params) : Obj := fnC 13
def hO113d (_P : Params) : Obj := { cls := Value.type "code", data := Data.fields #[Value.str (Str.ofString "law") 2258, Value.str (Str.ofString "law") 2259, Value.str (Str.ofString "/claim/cut.py") 2260, Value.int 49 0, Value.int 1 0, Value.int 0 0, Value.int 0 0, Value.int 3 0, Value.ref 110, Value.bool true, Value.int 181 0, Value.ref 111, Value.none, Value.none, Value.none, Value.ref 112, Value.int 2261 0, Value.int 49 0, Value.str (Str.ofString "/claim/cut.py") 2262] }
def hO114d (_P : Params) : Obj := fnO 13 (Str.ofString "law_wb0057_01") 2236 113
def hTa (P : Params) : BT := (.node (hO0a P) (.node (hO1a P) (.node (hO3a P) (.node (hO7a P) .nil .nil) (.node (hO11a P) .nil .nil)) (.node (hO5a P) (.node (hO9a P) .nil .nil) (.node (hO13a P) .nil .nil))) (.node (hO2a P) (.node (hO4a P) (.node (hO8a P) .nil .nil) (.node (hO12a P) .nil .nil)) (.node (hO6a P) (.node (hO10a P) .nil .nil) (.node (hO14a P) .nil .nil))))
def hTe (P : Params) : BT := (.node (hO0a P) (.node (hO1a P) (.node (hO3e P) (.node (hO7a P) (.node (hO15e P) .nil .nil) (.node (hO23e P) .nil .nil)) (.node (hO11a P) (.node (hO19e P) .nil .nil) (.node (hO27e P) .nil .nil))) (.node (hO5a P) (.node (hO9a P) (.node (hO17e P) .nil .nil) (.node (hO25e P) .nil .nil)) (.node (hO13a P) (.node (hO21e P) .nil .nil) .nil))) (.node (hO2a P) (.node (hO4a P) (.node (hO8a P) (.node (hO16e P) .nil .nil) (.node (hO24e P) .nil .nil)) (.node (hO12e P) (.node (hO20e P) .nil .nil) (.node (hO28e P) .nil .nil))) (.node (hO6a P) (.node (hO10a P) (.node (hO18e P) .nil .nil) (.node (hO26e P) .nil .nil)) (.node (hO14a P) (.node (hO22e P) .nil .nil) .nil))))
def hTf (P : Params) : BT := (.node (hO0a P) (.node (hO1a P) (.node (hO3f P) (.node (hO7a P) (.node (hO15e P) (.node (hO31f P) .nil .nil) .nil) (.node (hO23e P) (.node (hO39f P) .nil .nil) .nil)) (.node (hO11a P) (.node (hO19e P) (.node (hO35f P) .nil .nil) .nil) (.node (hO27e P) .nil .nil))) (.node (hO5a P) (.node (hO9a P) (.node (hO17e P) (.node (hO33f P) .nil .nil) .nil) (.node (hO25e P) .nil .nil)) (.node (hO13a P) (.node (hO21e P) (.node (hO37f P) .nil .nil) .nil) (.node (hO29f P) .nil .nil)))) (.node (hO2a P) (.node (hO4a P) (.node (hO8a P) (.node (hO16e P) (.node (hO32f P) .nil .nil) .nil) (.node (hO24e P) .nil .nil)) (.node (hO12e P) (.node (hO20e P) (.node (hO36f P) .nil .nil) .nil) (.node (hO28e P) .nil .nil))) (.node (hO6a P) (.node (hO10a P) (.node (hO18e P) (.node (hO34f P) .nil .nil) .nil) (.node (hO26e P) .nil .nil)) (.node (hO14a P) (.node (hO22e P) (.node (hO38f P) .nil .nil) .nil) (.node (hO30f P) .nil .nil)))))
def hTb (P : Params) : BT := (.node (hO0a P) (.node (hO1a P) (.node (hO3b P) (.node (hO7a P) (.node (hO15e P) (.node (hO31f P) .nil .nil) .nil) (.node (hO23e P) (.node (hO39f P) .nil .nil) .nil)) (.node (hO11a P) (.node (hO19e P) (.node (hO35f P) .nil .nil) .nil) (.node (hO27e P) (.node (hO43b P) .nil .nil) .nil))) (.node (hO5a P) (.node (hO9a P) (.node (hO17e P) (.node (hO33f P) .nil .nil) .nil) (.node (hO25e P) (.node (hO41b P) .nil .nil) .nil)) (.node (hO13a P) (.node (hO21e P) (.node (hO37f P) .nil .nil) .nil) (.node (hO29f P) (.node (hO45b P) .nil .nil) .nil)))) (.node (hO2a P) (.node (hO4a P) (.node (hO8a P) (.node (hO16e P) (.node (hO32f P) .nil .nil) .nil) (.node (hO24e P) (.node (hO40b P) .nil .nil) .nil)) (.node (hO12b P) (.node (hO20e P) (.node (hO36f P) .nil .nil) .nil) (.node (hO28e P) (.node (hO44b P) .nil .nil) .nil))) (.node (hO6a P) (.node (hO10a P) (.node (hO18e P) (.node (hO34f P) .nil .nil) .nil) (.node (hO26e P) (.node (hO42b P) .nil .nil) .nil)) (.node (hO14a P) (.node (hO22e P) (.node (hO38f P) .nil .nil) .nil) (.node (hO30f P) (.node (hO46b P) .nil .nil) .nil)))))
def hTp (P : Params) : BT := (.node (hO0a P) (.node (hO1a P) (.node (hO3b P) (.node (hO7a P) (.node (hO15e P) (.node (hO31f P) (.node (hO63c P) .nil .nil) .nil) (.node (hO47c P) (.node (hO79c P) .nil .nil) .nil)) (.node (hO23e P) (.node (hO39f P) (.node (hO71c P) .nil .nil) .nil) (.node (hO55c P) .nil .nil))) (.node (hO11a P) (.node (hO19e P) (.node (hO35f P) (.node (hO67c P) .nil .nil) .nil) (.node (hO51c P) (.node (hO83c P) .nil .nil) .nil)) (.node (hO27e P) (.node (hO43b P) (.node (hO75c P) .nil .nil) .nil) (.node (hO59c P) .nil .nil)))) (.node (hO5a P) (.node (hO9a P) (.node (hO17e P) (.node (hO33f P) (.node (hO65c P) .nil .nil) .nil) (.node (hO49c P) (.node (hO81c P) .nil .nil) .nil)) (.node (hO25e P) (.node (hO41b P) (.node (hO73c P) .nil .nil) .nil) (.node (hO57c P) .nil .nil))) (.node (hO13a P) (.node (hO21e P) (.node (hO37f P) (.node (hO69c P) .nil .nil) .nil) (.node (hO53c P) (.node (hO85c P) .nil .nil) .nil)) (.node (hO29f P) (.node (hO45b P) (.node (hO77c P) .nil .nil) .nil) (.node (hO61c P) .nil .nil))))) (.node (hO2a P) (.node (hO4a P) (.node (hO8a P) (.node (hO16e P) (.node (hO32f P) (.node (hO64c P) .nil .nil) .nil) (.node (hO48c P) (.node (hO80c P) .nil .nil) .nil)) (.node (hO24e P) (.node (hO40b P) (.node (hO72c P) .nil .nil) .nil) (.node (hO56c P) .nil .nil))) (.node (hO12b P) (.node (hO20e P) (.node (hO36f P) (.node (hO68c P) .nil .nil) .nil) (.node (hO52c P) (.node (hO84c P) .nil .nil) .nil)) (.node (hO28e P) (.node (hO44b P) (.node (hO76c P) .nil .nil) .nil) (.node (hO60c P) .nil .nil)))) (.node (hO6a P) (.node (hO10a P) (.node (hO18e P) (.node (hO34f P) (.node (hO66c P) .nil .nil) .nil) (.node (hO50c P) (.node (hO82c P) .nil .nil) .nil)) (.node (hO26e P) (.node (hO42b P) (.node (hO74c P) .nil .nil) .nil) (.node (hO58c P) .nil .nil))) (.node (hO14a P) (.node (hO22e P) (.node (hO38f P) (.node (hO70c P) .nil .nil) .nil) (.node (hO54c P) .nil .nil)) (.node (hO30f P) (.node (hO46b P) (.node (hO78c P) .nil .nil) .nil) (.node (hO62c P) .nil .nil))))))
def hTc (P : Params) : BT := (.node (hO0a P) (.node (hO1a P) (.node (hO3c P) (.node (hO7a P) (.node (hO15e P) (.node (hO31f P) (.node (hO63c P) .nil .nil) .nil) (.node (hO47c P) (.node (hO79c P) .nil .nil) .nil)) (.node (hO23e P) (.node (hO39f P) (.node (hO71c P) .nil .nil) .nil) (.node (hO55c P) .nil .nil))) (.node (hO11a P) (.node (hO19e P) (.node (hO35f P) (.node (hO67c P) .nil .nil) .nil) (.node (hO51c P) (.node (hO83c P) .nil .nil) .nil)) (.node (hO27e P) (.node (hO43b P) (.node (hO75c P) .nil .nil) .nil) (.node (hO59c P) .nil .nil)))) (.node (hO5a P) (.node (hO9a P) (.node (hO17e P) (.node (hO33f P) (.node (hO65c P) .nil .nil) .nil) (.node (hO49c P) (.node (hO81c P) .nil .nil) .nil)) (.node (hO25e P) (.node (hO41b P) (.node (hO73c P) .nil .nil) .nil) (.node (hO57c P) .nil .nil))) (.node (hO13a P) (.node (hO21e P) (.node (hO37f P) (.node (hO69c P) .nil .nil) .nil) (.node (hO53c P) (.node (hO85c P) .nil .nil) .nil)) (.node (hO29f P) (.node (hO45b P) (.node (hO77c P) .nil .nil) .nil) (.node (hO61c P) .nil .nil))))) (.node (hO2a P) (.node (hO4a P) (.node (hO8a P) (.node (hO16e P) (.node (hO32f P) (.node (hO64c P) .nil .nil) .nil) (.node (hO48c P) (.node (hO80c P) .nil .nil) .nil)) (.node (hO24e P) (.node (hO40b P) (.node (hO72c P) .nil .nil) .nil) (.node (hO56c P) .nil .nil))) (.node (hO12b P) (.node (hO20e P) (.node (hO36f P) (.node (hO68c P) .nil .nil) .nil) (.node (hO52c P) (.node (hO84c P) .nil .nil) .nil)) (.node (hO28e P) (.node (hO44b P) (.node (hO76c P) .nil .nil) .nil) (.node (hO60c P) .nil .nil)))) (.node (hO6a P) (.node (hO10a P) (.node (hO18e P) (.node (hO34f P) (.node (hO66c P) .nil .nil) .nil) (.node (hO50c P) (.node (hO82c P) .nil .nil) .nil)) (.node (hO26e P) (.node (hO42b P) (.node (hO74c P) .nil .nil) .nil) (.node (hO58c P) .nil .nil))) (.node (hO14a P) (.node (hO22e P) (.node (hO38f P) (.node (hO70c P) .nil .nil) .nil) (.node (hO54c P) .nil .nil)) (.node (hO30f P) (.node (hO46b P) (.node (hO78c P) .nil .nil) .nil) (.node (hO62c P) .nil .nil))))))
def hTd (P : Params) : BT := (.node (hO0a P) (.node (hO1a P) (.node (hO3d P) (.node (hO7a P) (.node (hO15e P) (.node (hO31f P) (.node (hO63c P) .nil .nil) (.node (hO95d P) .nil .nil)) (.node (hO47c P) (.node (hO79c P) .nil .nil) (.node (hO111d P) .nil .nil))) (.node (hO23e P) (.node (hO39f P) (.node (hO71c P) .nil .nil) (.node (hO103d P) .nil .nil)) (.node (hO55c P) (.node (hO87d P) .nil .nil) .nil))) (.node (hO11a P) (.node (hO19e P) (.node (hO35f P) (.node (hO67c P) .nil .nil) (.node (hO99d P) .nil .nil)) (.node (hO51c P) (.node (hO83c P) .nil .nil) .nil)) (.node (hO27e P) (.node (hO43b P) (.node (hO75c P) .nil .nil) (.node (hO107d P) .nil .nil)) (.node (hO59c P) (.node (hO91d P) .nil .nil) .nil)))) (.node (hO5a P) (.node (hO9a P) (.node (hO17e P) (.node (hO33f P) (.node (hO65c P) .nil .nil) (.node (hO97d P) .nil .nil)) (.node (hO49c P) (.node (hO81c P) .nil .nil) (.node (hO113d P) .nil .nil))) (.node (hO25e P) (.node (hO41b P) (.node (hO73c P) .nil .nil) (.node (hO105d P) .nil .nil)) (.node (hO57c P) (.node (hO89d P) .nil .nil) .nil))) (.node (hO13a P) (.node (hO21e P) (.node (hO37f P) (.node (hO69c P) .nil .nil) (.node (hO101d P) .nil .nil)) (.node (hO53c P) (.node (hO85c P) .nil .nil) .nil)) (.node (hO29f P) (.node (hO45b P) (.node (hO77c P) .nil .nil) (.node (hO109d P) .nil .nil)) (.node (hO61c P) (.node (hO93d P) .nil .nil) .nil))))) (.node (hO2a P) (.node (hO4a P) (.node (hO8a P) (.node (hO16e P) (.node (hO32f P) (.node (hO64c P) .nil .nil) (.node (hO96d P) .nil .nil)) (.node (hO48c P) (.node (hO80c P) .nil .nil) (.node (hO112d P) .nil .nil))) (.node (hO24e P) (.node (hO40b P) (.node (hO72c P) .nil .nil) (.node (hO104d P) .nil .nil)) (.node (hO56c P) (.node (hO88d P) .nil .nil) .nil))) (.node (hO12d P) (.node (hO20e P) (.node (hO36f P) (.node (hO68c P) .nil .nil) (.node (hO100d P) .nil .nil)) (.node (hO52c P) (.node (hO84c P) .nil .nil) .nil)) (.node (hO28e P) (.node (hO44b P) (.node (hO76c P) .nil .nil) (.node (hO108d P) .nil .nil)) (.node (hO60c P) (.node (hO92d P) .nil .nil) .nil)))) (.node (hO6a P) (.node (hO10a P) (.node (hO18e P) (.node (hO34f P) (.node (hO66c P) .nil .nil) (.node (hO98d P) .nil .nil)) (.node (hO50c P) (.node (hO82c P) .nil .nil) (.node (hO114d P) .nil .nil))) (.node (hO26e P) (.node (hO42b P) (.node (hO74c P) .nil .nil) (.node (hO106d P) .nil .nil)) (.node (hO58c P) (.node (hO90d P) .nil .nil) .nil))) (.node (hO14a P) (.node (hO22e P) (.node (hO38f P) (.node (hO70c P) .nil .nil) (.node (hO102d P) .nil .nil)) (.node (hO54c P) (.node (hO86d P) .nil .nil) .nil)) (.node (hO30f P) (.node (hO46b P) (.node (hO78c P) .nil .nil) (.node (hO110d P) .nil .nil)) (.node (hO62c P) (.node (hO94d P) .nil .nil) .nil))))))
end
end Mine
end
section
namespace Mine
noncomputable section
abbrev pw : Program := PySem.Challenge.pw_wb0057_01
def stN (i : Nat) : PySem.Stmt := match (pw.main.body[i]? : Option PySem.Stmt) with
  | some s => s
  | none => .Pass ⟨0, 0, 0, 0⟩
def view : Program := { pw with main := { pw.main with body := [stN 1, stN 3, stN 5, stN 6, stN 8, stN 10, stN 11, stN 12, stN 13] } }
def K : Params → Frag := fun P => (nat_lit 2, hO2a P) :: (nat_lit 3, hO3d P) :: (nat_lit 6, hO6a P) :: (nat_lit 15, hO15e P) :: (nat_lit 17, hO17e P) :: (nat_lit 18, hO18e P) :: (nat_lit 20, hO20e P) :: (nat_lit 21, hO21e P) :: (nat_lit 22, hO22e P) :: (nat_lit 24, hO24e P) :: (nat_lit 25, hO25e P) :: (nat_lit 27, hO27e P) :: (nat_lit 28, hO28e P) :: (nat_lit 40, hO40b P) :: (nat_lit 42, hO42b P) :: (nat_lit 43, hO43b P) :: (nat_lit 45, hO45b P) :: (nat_lit 46, hO46b P) :: (nat_lit 86, hO86d P) :: (nat_lit 88, hO88d P) :: (nat_lit 89, hO89d P) :: (nat_lit 91, hO91d P) :: (nat_lit 92, hO92d P) :: (nat_lit 93, hO93d P) :: (nat_lit 95, hO95d P) :: (nat_lit 96, hO96d P) :: (nat_lit 98, hO98d P) :: (nat_lit 99, hO99d P) :: (nat_lit 100, hO100d P) :: (nat_lit 103, hO103d P) :: (nat_lit 104, hO104d P) :: (nat_lit 105, hO105d P) :: (nat_lit 108, hO108d P) :: (nat_lit 109, hO109d P) :: (nat_lit 110, hO110d P) :: (nat_lit 113, hO113d P) :: (nat_lit 114, hO114d P) :: []
def KH : Params → Frag := fun P => (nat_lit 2, hO2a P) :: (nat_lit 3, hO3d P) :: (nat_lit 6, hO6a P) :: (nat_lit 15, hO15e P) :: (nat_lit 17, hO17e P) :: (nat_lit 18, hO18e P) :: (nat_lit 20, hO20e P) :: (nat_lit 21, hO21e P) :: (nat_lit 22, hO22e P) :: (nat_lit 24, hO24e P) :: (nat_lit 25, hO25e P) :: (nat_lit 27, hO27e P) :: (nat_lit 28, hO28e P) :: (nat_lit 40, hO40b P) :: (nat_lit 42, hO42b P) :: (nat_lit 43, hO43b P) :: (nat_lit 45, hO45b P) :: (nat_lit 46, hO46b P) :: (nat_lit 86, hO86d P) :: (nat_lit 88, hO88d P) :: (nat_lit 89, hO89d P) :: (nat_lit 91, hO91d P) :: (nat_lit 92, hO92d P) :: (nat_lit 93, hO93d P) :: (nat_lit 95, hO95d P) :: (nat_lit 96, hO96d P) :: (nat_lit 98, hO98d P) :: (nat_lit 99, hO99d P) :: (nat_lit 100, hO100d P) :: (nat_lit 103, hO103d P) :: (nat_lit 104, hO104d P) :: (nat_lit 105, hO105d P) :: (nat_lit 108, hO108d P) :: (nat_lit 109, hO109d P) :: (nat_lit 110, hO110d P) :: (nat_lit 113, hO113d P) :: (nat_lit 114, hO114d P) :: (nat_lit 36, hO36f P) :: (nat_lit 47, hO47c P) :: []
def Kas : List Nat := nat_lit 2 :: nat_lit 3 :: nat_lit 6 :: nat_lit 15 :: nat_lit 17 :: nat_lit 18 :: nat_lit 20 :: nat_lit 21 :: nat_lit 22 :: nat_lit 24 :: nat_lit 25 :: nat_lit 27 :: nat_lit 28 :: nat_lit 40 :: nat_lit 42 :: nat_lit 43 :: nat_lit 45 :: nat_lit 46 :: nat_lit 86 :: nat_lit 88 :: nat_lit 89 :: nat_lit 91 :: nat_lit 92 :: nat_lit 93 :: nat_lit 95 :: nat_lit 96 :: nat_lit 98 :: nat_lit 99 :: nat_lit 100 :: nat_lit 103 :: nat_lit 104 :: nat_lit 105 :: nat_lit 108 :: nat_lit 109 :: nat_lit 110 :: nat_lit 113 :: nat_lit 114 :: []
def KHas : List Nat := nat_lit 2 :: nat_lit 3 :: nat_lit 6 :: nat_lit 15 :: nat_lit 17 :: nat_lit 18 :: nat_lit 20 :: nat_lit 21 :: nat_lit 22 :: nat_lit 24 :: nat_lit 25 :: nat_lit 27 :: nat_lit 28 :: nat_lit 40 :: nat_lit 42 :: nat_lit 43 :: nat_lit 45 :: nat_lit 46 :: nat_lit 86 :: nat_lit 88 :: nat_lit 89 :: nat_lit 91 :: nat_lit 92 :: nat_lit 93 :: nat_lit 95 :: nat_lit 96 :: nat_lit 98 :: nat_lit 99 :: nat_lit 100 :: nat_lit 103 :: nat_lit 104 :: nat_lit 105 :: nat_lit 108 :: nat_lit 109 :: nat_lit 110 :: nat_lit 113 :: nat_lit 114 :: nat_lit 36 :: nat_lit 47 :: []
theorem Kkeys : ∀ P, Kas = (K P).map (·.1) := fun _ => by kernel_rfl
theorem KHkeys : ∀ P, KHas = (KH P).map (·.1) := fun _ => by kernel_rfl
theorem KH_K (P : Params) : KH P = K P ++ [(36, hO36f P), (47, hO47c P)] := rfl
end
end Mine
end
section
namespace Mine
abbrev LS : List Str := [PySem.Str.ofString "b1_set", PySem.Str.ofString "b3_exceptions"]
structure Wd (w : World) (mean : ExcName → Option Value) (mg mb : Str → Option Value) (h : Heap) : Prop where
  X : (K w.params).In h
  T : Top view (looseW view LS) mean mg mb h
  B1 : ∃ led, h.get? 36 = some (b1obj led)
  B3 : h.get? 47 = some b3obj
theorem Wd.keeps {w : World} {mean} {mg mb : Str → Option Value} {h h' : Heap} (W : Wd w mean mg mb h) (k : ∀ b o, h.get? b = some o → h'.get? b = some o) : Wd w mean mg mb h' := ⟨W.X.keeps k, W.T.keeps k, W.B1.imp fun _ e => k _ _ e, k _ _ W.B3⟩
theorem kfill : (PySem.Challenge.rw_wb0057_01, K) = (PySem.Challenge.rw_wb0057_01, K) := by k_fill; rfl

-- the set
def inB1 (c : Int) : Bool := b1vals.any fun p => p.1 == c
theorem b1_elems (prog : Program) (w : World) : ElemsOf (intKind prog w) (b1vals.map fun p => (p.1, Value.int p.1 p.2)) := by
  intro e he
  obtain ⟨p, hp, rfl⟩ := List.mem_map.mp he
  have q : (b1vals.all fun p => hashInt p.1 == p.1) = true := by decide +kernel
  exact ⟨⟨p.1, intKind_is prog w p.1 p.2, (beq_iff_eq.mp (List.all_eq_true.mp q p hp)).symm⟩, rfl⟩
theorem b1_setOf (prog : Program) (w : World) {h : Heap} {led : Bool} (e : h.get? 36 = some (b1obj led)) : h.SetOf (intKind prog w) 36 inB1 27 := by
  refine ⟨_, _, _, _, e, ⟨rfl, rfl, rfl⟩, rfl, b1_elems prog w, fun k => ?_, by decide +kernel, by cases led <;> decide +kernel, by decide +kernel⟩
  unfold inB1
  rw [List.any_eq_true]
  constructor
  · rintro ⟨p, hp, hk⟩
    exact ⟨(p.1, .int p.1 p.2), List.mem_map.mpr ⟨p, hp, rfl⟩, by rw [← beq_iff_eq.mp hk]; exact intKind_is prog w _ _⟩
  · rintro ⟨e, he, hk⟩
    obtain ⟨p, hp, rfl⟩ := List.mem_map.mp he
    exact ⟨p, hp, beq_iff_eq.mpr ((intKind prog w).inj _ _ _ (intKind_is prog w _ _) hk)⟩
-- the dict
theorem b3_mem (l : List (Int × Str)) : ∀ (i : Nat) (e : DictEntry), e ∈ b3from i l → ∃ k v t u, (k, v) ∈ l ∧ e = ⟨k, .int k t, .str v u⟩ := by
  induction l with
  | nil => intro i e h; exact absurd h List.not_mem_nil
  | cons p r ih =>
    intro i e h
    rcases List.mem_cons.mp h with rfl | h
    · exact ⟨p.1, p.2, _, _, .head _, rfl⟩
    · obtain ⟨k', v', t, u, a, b⟩ := ih (i + 1) e h; exact ⟨k', v', t, u, .tail _ a, b⟩
theorem b3_find (prog : Program) (w : World) (c : Int) : ∀ (l : List (Int × Str)) (i : Nat), match l.lookup c with
    | some v => ∃ u, ((b3from i l).find? fun e => (intKind prog w).is c e.key).map (·.val) = some (.str v u)
    | none => ((b3from i l).find? fun e => (intKind prog w).is c e.key) = none
  | [], _ => rfl
  | (k, v) :: r, i => by
    have ih := b3_find prog w c r (i + 1)
    have e : (intKind prog w).is c (.int k (b3tok i)) = (c == k) := by show (k == c) = (c == k); rw [Bool.eq_iff_iff, beq_iff_eq, beq_iff_eq]; exact ⟨Eq.symm, Eq.symm⟩
    simp only [List.lookup, b3from, List.find?, e]
    cases q : c == k with
    | true => exact ⟨_, rfl⟩
    | false => simpa only using ih
theorem b3_mapOf (prog : Program) (w : World) {h : Heap} (e : h.get? 47 = some b3obj) : h.MapOf (intKind prog w) 47 (fun k => findBy (intKind prog w).is (b3from 0 b3pairs).toArray k) := by
  refine ⟨b3obj, (b3from 0 b3pairs).toArray, 650, e, ⟨rfl, rfl, rfl⟩, rfl, fun x hx => ?_, fun _ => rfl⟩
  obtain ⟨k, v, t, u, a, rfl⟩ := b3_mem b3pairs 0 x (List.mem_toArray.mp hx)
  have q : (b3pairs.all fun p => hashInt p.1 == p.1) = true := by decide +kernel
  exact ⟨k, intKind_is prog w k t, (beq_iff_eq.mp (List.all_eq_true.mp q _ a)).symm⟩
theorem b3_some (prog : Program) (w : World) {c : Int} {v : Str} (e : b3pairs.lookup c = some v) : ∃ u, findBy (intKind prog w).is (b3from 0 b3pairs).toArray c = some (.str v u) := by
  have := b3_find prog w c b3pairs 0
  rw [e] at this
  unfold findBy
  rw [List.find?_toArray]
  exact this
theorem b3_none (prog : Program) (w : World) {c : Int} (e : b3pairs.lookup c = none) : findBy (intKind prog w).is (b3from 0 b3pairs).toArray c = none := by
  have := b3_find prog w c b3pairs 0
  rw [e] at this
  unfold findBy
  rw [List.find?_toArray, this]
  rfl
end Mine
end
section
namespace Mine
theorem kfill1 : (PySem.Challenge.rw_wb0057_01, K) = (PySem.Challenge.rw_wb0057_01, K) := by k_fill; rfl
set_option maxRecDepth 100000 in
set_option maxHeartbeats 4000000 in
theorem c_strcoll {prog : Program} {w : World} {mean} {mg mb : Str → Option Value} {A : Around} {s : Shared} {Q : Value → Shared → Prop} {E : Value → Shared → Prop} {x y : Str} {t u : Tok}
    (W : Wd w mean mg mb s.heap) (hA : A.depth < recursionLimit)
    (h : ∀ h' tk t', s.heap.StaysIn h' → Q (.int ((if y.cps.toList < x.cps.toList then 1 else 0) - (if x.cps.toList < y.cps.toList then 1 else 0)) t') { s with heap := h', toks := tk }) :
    wpAny (model prog w) A (call (.ref 21) [.str x t, .str y u]) Q E s := by
  have KX := W.X
  have T := W.T
  refine wpAny_call ?_
  refine codeAny_call_def (binds := [(Str.ofString "a", .str x t), (Str.ofString "b", .str y u)]) hA (KX 21 _ (by k_is)) rfl T.nolimit (codeRec_of KX (by k_is)) rfl (BindsTo.of_eq rfl) ?hc ?hl (fun h₁ hns hk => ?_) rfl rfl rfl
  case hc => decide
  case hl => exact locs rfl
  have F : Fr s.heap s.heap.objs.size h₁ (fun x' => (List.reverse [(Str.ofString "a", Value.str x t), (Str.ofString "b", Value.str y u)]).lookup x') := ⟨hns, hk, Nat.le_refl _⟩
  have N : News s.heap s.heap.objs.size h₁ [] := News.nil
  k_steps
  refine (fun q => q) (?_ : Q (Value.int (b2i _ - b2i _) _) _)
  have e : ∀ p : Prop, [Decidable p] → b2i (decide p) = if p then 1 else 0 := fun p _ => by by_cases q : p <;> simp [b2i, q]
  rw [e, e]
  exact h h₁ _ _ hk
end Mine
end
section
namespace Mine
theorem fd64 (n : Int) : n.fdiv 64 = n / 64 := Int.fdiv_eq_ediv_of_nonneg n (by decide)
theorem fm64 (n : Int) : n.fmod 64 = n % 64 := Int.fmod_eq_emod_of_nonneg n (by decide)
local macro_rules | `(tactic| walk_at "WhlIf") => `(tactic| ((try simp only [fd64, fm64]); first | (refine WhlIf.yes (decide_eq_true (by omega)) ?_) | (refine WhlIf.no (decide_eq_false (by omega)) ?_)))
def dig (n : Int) : List Int := if n < 64 then [n % 64] else if n < 4096 then [n / 64 % 64 + 64, n % 64] else [n / 64 / 64 % 64 + 64, n / 64 % 64 + 64, n % 64]
theorem dig_def (n : Int) : dig n = if n < 64 then [n % 64] else if n < 4096 then [n / 64 % 64 + 64, n % 64] else [n / 64 / 64 % 64 + 64, n / 64 % 64 + 64, n % 64] := rfl
theorem kfill2 : (PySem.Challenge.rw_wb0057_01, K) = (PySem.Challenge.rw_wb0057_01, K) := by k_fill; rfl
set_option maxRecDepth 100000 in
set_option maxHeartbeats 4000000 in
theorem c_octets2 {prog : Program} {w : World} {mean} {mg mb : Str → Option Value} {A : Around} {s : Shared} {Q : Value → Shared → Prop} {E : Value → Shared → Prop} {n : Int} {t : Tok}
    (W : Wd w mean mg mb s.heap) (hA : A.depth < recursionLimit) (h0 : 64 ≤ n) (h1 : n < 4096)
    (h : ∀ h' tk a vs ep, s.heap.StaysIn h' → s.heap.get? a = none → h'.get? a = some (PySem.W.listOf vs.toArray ep) → IntsAre vs (dig n) → Q (.ref a) { s with heap := h', toks := tk }) :
    wpAny (model prog w) A (call (.ref 99) [.int n t]) Q E s := by
  have KX := W.X
  have T := W.T
  refine wpAny_call ?_
  refine codeAny_call_def (binds := [(Str.ofString "number", .int n t)]) hA (KX 99 _ (by k_is)) rfl T.nolimit (codeRec_of KX (by k_is)) rfl (BindsTo.of_eq rfl) ?hc ?hl (fun h₁ hns hk => ?_) rfl rfl rfl
  case hc => decide
  case hl => exact locs rfl
  have F : Fr s.heap s.heap.objs.size h₁ (fun x' => (List.reverse [(Str.ofString "number", Value.int n t)]).lookup x') := ⟨hns, hk, Nat.le_refl _⟩
  have N : News s.heap s.heap.objs.size h₁ [] := News.nil
  k_steps
  all_goals (
    (rename Fr _ _ _ _ => FF)
    (rename News _ _ _ _ => NN)
    refine h _ _ _ _ _ FF.keep (NN.fresh (.head _)) (NN.get (.head _)) ?_
    have e : dig n = _ := dig_def n
    rw [e]
    simp only [fd64, fm64]
    first | rw [if_neg (by omega), if_pos (by omega)] | rw [if_neg (by omega), if_neg (by omega)]
    first | exact .cons _ _ (.cons _ _ .nil) | exact .cons _ _ (.cons _ _ (.cons _ _ .nil)))
set_option maxRecDepth 100000 in
set_option maxHeartbeats 4000000 in
theorem c_octets3 {prog : Program} {w : World} {mean} {mg mb : Str → Option Value} {A : Around} {s : Shared} {Q : Value → Shared → Prop} {E : Value → Shared → Prop} {n : Int} {t : Tok}
    (W : Wd w mean mg mb s.heap) (hA : A.depth < recursionLimit) (h0 : 4096 ≤ n) (h1 : n < 262144)
    (h : ∀ h' tk a vs ep, s.heap.StaysIn h' → s.heap.get? a = none → h'.get? a = some (PySem.W.listOf vs.toArray ep) → IntsAre vs (dig n) → Q (.ref a) { s with heap := h', toks := tk }) :
    wpAny (model prog w) A (call (.ref 99) [.int n t]) Q E s := by
  have KX := W.X
  have T := W.T
  refine wpAny_call ?_
  refine codeAny_call_def (binds := [(Str.ofString "number", .int n t)]) hA (KX 99 _ (by k_is)) rfl T.nolimit (codeRec_of KX (by k_is)) rfl (BindsTo.of_eq rfl) ?hc ?hl (fun h₁ hns hk => ?_) rfl rfl rfl
  case hc => decide
  case hl => exact locs rfl
  have F : Fr s.heap s.heap.objs.size h₁ (fun x' => (List.reverse [(Str.ofString "number", Value.int n t)]).lookup x') := ⟨hns, hk, Nat.le_refl _⟩
  have N : News s.heap s.heap.objs.size h₁ [] := News.nil
  k_steps
  all_goals (
    (rename Fr _ _ _ _ => FF)
    (rename News _ _ _ _ => NN)
    refine h _ _ _ _ _ FF.keep (NN.fresh (.head _)) (NN.get (.head _)) ?_
    have e : dig n = _ := dig_def n
    rw [e]
    simp only [fd64, fm64]
    first | rw [if_neg (by omega), if_pos (by omega)] | rw [if_neg (by omega), if_neg (by omega)]
    first | exact .cons _ _ (.cons _ _ .nil) | exact .cons _ _ (.cons _ _ (.cons _ _ .nil)))
end Mine
end
section
namespace Mine
theorem kfill3 : (PySem.Challenge.rw_wb0057_01, K) = (PySem.Challenge.rw_wb0057_01, K) := by k_fill; rfl
abbrev itObj (l : Addr) (i : Nat) : Obj := { cls := .type "list_iterator", data := .fields #[.ref l, .int i 0] }
abbrev itEnd (i : Nat) : Obj := { cls := .type "list_iterator", data := .fields #[.none, .int i 0] }
theorem stays_hide {b h : Heap} {it : Addr} (k : b.StaysIn h) (n : b.get? it = none) : b.StaysIn (h.hide it) := fun a o e => by
  have q : a ≠ it := fun z => by rw [z, n] at e; cases e
  exact (Heap.hide_ne h q).trans (k a o e)
section
variable {prog : Program} {w : World} {A : Around} {s : Shared} {E : Value → Shared → Prop} {h₀ : Heap} {L it l : Addr} {m : Str → Option Value} {news news' : List (Addr × Obj)} {i : Nat} {items : Array Value}
theorem next_special {x : Value} {Q : Option Value → Shared → Prop} (hit : s.heap.get? it = some (itObj l i)) (hl : s.heap.IsList l items) (hx : items[i]? = some x)
    (hQ : ∀ h', h'.get? it = some (itObj l (i + 1)) → Heap.SameBut it s.heap h' → Q (some x) { s with heap := h' }) :
    wpAny (model prog w) A (callSpecial? (.ref it) (Str.ofString "__next__")) Q E s := by
  obtain ⟨ol, hol, _, nl, hdl⟩ := hl
  have hty : s.TypeIs (.ref it) "list_iterator" := ⟨_, hit, rfl⟩
  refine wpAny_callSpecial?_slot (name := Str.ofString "__next__") hty slot_listiter_next
    (wpAny_call_entry slot_listiter_next hty entry_listiter_next ?_ (args_listiter_next _))
  show wpAny _ _ (field (.ref it) 0 >>= _) _ _ s
  refine wpAny_bind (wpAny_field hit rfl (x := .ref l) rfl ?_)
  show wpAny _ _ (if (Value.ref l == Value.none) = true then _ else _) _ _ s
  rw [if_neg (show ¬ ((Value.ref l == Value.none) = true) from Bool.false_ne_true)]
  show wpAny _ _ (field (.ref it) 1 >>= _) _ _ s
  refine wpAny_bind (wpAny_field hit rfl (x := .int i 0) rfl ?_)
  show wpAny _ _ (seqItems? (.ref l) >>= _) _ _ s
  refine wpAny_bind (wpAny_seqItems hol hdl ?_)
  simp only [Int.toNat_natCast, hx]
  refine wpAny_bind (wpAny_setField hit rfl (by simp) (wpAny_pure ⟨x, rfl, hQ _ ?_ (Heap.SameBut.update ..)⟩))
  exact Heap.get?_update_self _ hit (Obj.isFreed_of_fields (Obj.data_mapFields rfl _))
theorem next_item {x : Value} {Q : Value → Shared → Prop} (F : Fr h₀ L s.heap m) (N : News h₀ L s.heap news) (U : Upd it (itObj l i) (itObj l (i + 1)) news news') (hl : h₀.IsList l items) (hx : items[i]? = some x)
    (h : ∀ h', Fr h₀ L h' m → News h₀ L h' news' → Q x { s with heap := h' }) : wpAny (model prog w) A (call (.builtin "next") [.ref it]) Q E s := by
  obtain ⟨pre, post, e1, e2, a, b⟩ := U.split
  have hm := N (it, itObj l i) (by rw [e1]; exact List.mem_append_right _ (.head _))
  have hty : s.TypeIs (.ref it) "list_iterator" := ⟨_, hm.1, rfl⟩
  refine call_function_entry (by decide +kernel) (by decide +kernel) kdk_entry_next (kdk_args_next _) ?_
  unfold Builtin.«next»
  refine wpAny_bind (m := someArgs "next" 1 2 _) (wpAny_of_eq (a := [Value.ref it]) (by first | rfl | kernel_rfl!) ?_)
  dsimp only
  refine wpAny_bind (wpAny_specialOf (name := Str.ofString "__next__") hty slot_listiter_next.lookup ?_)
  refine wpAny_ite_split (fun hab => absurd hab (by decide)) (fun _ => ?_)
  refine wpAny_bind (next_special hm.1 (hl.at fun o e => F.keep l o e) hx fun h' hit' hs => ?_)
  exact wpAny_pure ⟨_, rfl, h h' (F.change hs hm.2.1 hm.2.2) (e2 ▸ (show News h₀ L s.heap (pre ++ (it, itObj l i) :: post) from e1 ▸ N).setIn a b hs hit')⟩
theorem stop_entry {Q : Option Value → Shared → Prop} (hh : A.handled = none) (hit : s.heap.get? it = some (itObj l i)) (hl : s.heap.IsList l items) (hx : items[i]? = none)
    (hE : ∀ h₁ h' e, h₁.get? it = some (itEnd i) → Heap.SameBut it s.heap h₁ → Heap.MadeExc h₁ h' e "StopIteration" [] → E (.ref e) { s with heap := h' }) :
    wpAny (model prog w) A (callSpecial? (.ref it) (Str.ofString "__next__")) Q E s := by
  obtain ⟨ol, hol, _, nl, hdl⟩ := hl
  have hty : s.TypeIs (.ref it) "list_iterator" := ⟨_, hit, rfl⟩
  refine wpAny_callSpecial?_slot (name := Str.ofString "__next__") hty slot_listiter_next
    (wpAny_call_entry slot_listiter_next hty entry_listiter_next ?_ (args_listiter_next _))
  show wpAny _ _ (field (.ref it) 0 >>= _) _ _ s
  refine wpAny_bind (wpAny_field hit rfl (x := .ref l) rfl ?_)
  show wpAny _ _ (if (Value.ref l == Value.none) = true then _ else _) _ _ s
  rw [if_neg (show ¬ ((Value.ref l == Value.none) = true) from Bool.false_ne_true)]
  show wpAny _ _ (field (.ref it) 1 >>= _) _ _ s
  refine wpAny_bind (wpAny_field hit rfl (x := .int i 0) rfl ?_)
  show wpAny _ _ (seqItems? (.ref l) >>= _) _ _ s
  refine wpAny_bind (wpAny_seqItems hol hdl ?_)
  simp only [Int.toNat_natCast, hx]
  refine wpAny_bind (wpAny_rule (wpAny_bind (wpAny_setField hit rfl (by simp) ?_)))
  show wpAny _ _ (newExc (.type "StopIteration") [] >>= _) _ _ _
  refine wpAny_bind ?_
  simp only [newExc, newTuple]
  refine wpAny_bind (wpAny_newObj_type ?_ (by size_fits))
  refine wpAny_bind (m := firstArgMember _ _) (wpAny_of_eq (a := Value.none) (by first | rfl | (simp only [firstArgMember]; rfl)) ?_)
  refine wpAny_newObj_type ?_ (by size_fits)
  simp only [raiseNew]
  refine wpAny_bind (wpAny_handled ?_)
  first | rw [show A.in1.handled = none from hh] | rw [hh]
  refine wpAny_bind (wpAny_pure (wpAny_throw ?_))
  refine hE _ _ _ (Heap.get?_update_self _ hit (Obj.isFreed_of_fields (Obj.data_mapFields rfl _))) (Heap.SameBut.update ..) ⟨fun b o hb => Heap.get?_push_of_some _ (Heap.get?_push_of_some _ hb), Heap.get?_none_of_le (by simp), ?_⟩
  refine ⟨_, Heap.get?_push_size _ rfl, Heap.get?_none_of_le (by simp), ?_⟩
  exact Heap.get?_push_of_some _ (Heap.get?_push_size _ rfl)
theorem next_stop {Q : Value → Shared → Prop} (hh : A.handled = none) (F : Fr h₀ L s.heap m) (N : News h₀ L s.heap news) (U : Upd it (itObj l i) (itEnd i) news news') (hl : h₀.IsList l items) (hx : items[i]? = none)
    (h : ∀ h₁ h' e, Fr h₀ L h₁ m → News h₀ L h₁ news' → Heap.MadeExcOf h₁ h' e (.type "StopIteration") [] → E (.ref e) { s with heap := h' }) : wpAny (model prog w) A (call (.builtin "next") [.ref it]) Q E s := by
  obtain ⟨pre, post, e1, e2, a, b⟩ := U.split
  have hm := N (it, itObj l i) (by rw [e1]; exact List.mem_append_right _ (.head _))
  have hty : s.TypeIs (.ref it) "list_iterator" := ⟨_, hm.1, rfl⟩
  refine call_function_entry (by decide +kernel) (by decide +kernel) kdk_entry_next (kdk_args_next _) ?_
  unfold Builtin.«next»
  refine wpAny_bind (m := someArgs "next" 1 2 _) (wpAny_of_eq (a := [Value.ref it]) (by first | rfl | kernel_rfl!) ?_)
  dsimp only
  refine wpAny_bind (wpAny_specialOf (name := Str.ofString "__next__") hty slot_listiter_next.lookup ?_)
  refine wpAny_ite_split (fun hab => absurd hab (by decide)) (fun _ => ?_)
  refine wpAny_bind (stop_entry hh hm.1 (hl.at fun o e => F.keep l o e) hx fun h₁ h' e hit' hs hx => ?_)
  exact h h₁ h' e (F.change hs hm.2.1 hm.2.2) (e2 ▸ (show News h₀ L s.heap (pre ++ (it, itObj l i) :: post) from e1 ▸ N).setIn a b hs hit') (Heap.MadeExc.of hx)
end

local macro_rules | `(tactic| walk_at "call builtin:next") => `(tactic| (k_here; (with_reducible show wpAny _ _ (call (Value.builtin "next") [Value.ref _]) _ _ _); k_dflt (refine' next_item ?F ?N ?U ?l ?x ?_; (case F => k_asm); (case N => k_asm); (case U => k_upd); (case l => assumption); (case x => assumption); k_whole; intro h' F' N')))
theorem band63 {d : Int} (a : 0 ≤ d) (b : d < 128) : Builtin.bitAnd d 63 = d % 64 := by
  have e : ∀ k : Fin 128, Builtin.bitAnd (k.val : Int) 63 = (k.val : Int) % 64 := by decide +kernel
  have := e ⟨d.toNat, by omega⟩
  simpa [Int.toNat_of_nonneg a] using this
theorem band64 {d : Int} (a : 0 ≤ d) (b : d < 128) : Builtin.bitAnd d 64 = if d < 64 then 0 else 64 := by
  have e : ∀ k : Fin 128, Builtin.bitAnd (k.val : Int) 64 = if (k.val : Int) < 64 then 0 else 64 := by decide +kernel
  have := e ⟨d.toNat, by omega⟩
  simpa [Int.toNat_of_nonneg a] using this
theorem b64yes {d : Int} (a : 64 ≤ d) (b : d < 128) : (Builtin.bitAnd d 64 != 0) = true := by rw [band64 (by omega) b, if_neg (by omega)]; decide
theorem b64no {d : Int} (a : 0 ≤ d) (b : d < 64) : (Builtin.bitAnd d 64 != 0) = false := by rw [band64 a (by omega), if_pos b]; decide
theorem bnn (n : Int) : Builtin.bitNot (Builtin.bitNot n) = n := by unfold Builtin.bitNot; omega
theorem bor_nat (n k : Nat) : Builtin.bitOr (n : Int) (k : Int) = ((n ||| k : Nat) : Int) := by
  have h1 : decide (0 ≤ Builtin.bitNot (n : Int)) = false := decide_eq_false (by unfold Builtin.bitNot; omega)
  have h2 : decide (0 ≤ Builtin.bitNot (k : Int)) = false := decide_eq_false (by unfold Builtin.bitNot; omega)
  unfold Builtin.bitOr Builtin.bitAnd
  rw [h1, h2]
  dsimp only
  rw [bnn, bnn, bnn, Int.toNat_natCast, Int.toNat_natCast]
theorem bor64 {x y : Int} (a : 0 ≤ x) (b : 0 ≤ y) (c : y < 64) : Builtin.bitOr (x * 64) y = x * 64 + y := by
  obtain ⟨n, rfl⟩ := Int.eq_ofNat_of_zero_le a
  obtain ⟨k, rfl⟩ := Int.eq_ofNat_of_zero_le b
  have hk : k < 2 ^ 6 := by omega
  have e : (n <<< 6 + k : Nat) = n <<< 6 ||| k := Nat.shiftLeft_add_eq_or_of_lt hk n
  rw [Nat.shiftLeft_eq] at e
  have e2 : ((n : Int) * 64) = ((n * 2 ^ 6 : Nat) : Int) := by omega
  rw [e2, bor_nat, ← e]
  rfl
section
variable {prog : Program} {w : World} {A : Around} {s : Shared} {E : Value → Shared → Prop} {Q : Value → Shared → Prop} {a b : Int} {t u : Tok}
theorem and63 (h0 : 0 ≤ a) (h1 : a < 128) (h : Q (.int (a % 64) s.toks) { s with toks := s.toks + 1 }) : wpAny (model prog w) A (binaryOp .BitAnd (.int a t) (.int 63 u)) Q E s :=
  and_int (by rw [band63 h0 h1]; exact h)
theorem shl6 (h0 : 0 ≤ a) (h1 : a < 100000) (h : Q (.int (a * 64) s.toks) { s with toks := s.toks + 1 }) : wpAny (model prog w) A (inplaceOp .LShift (.int a t) (.int 6 u)) Q E s :=
  ilshift_int_small (by decide) (by decide) (by omega) (by exact h)
theorem or64 (h0 : 0 ≤ a) (h1 : 0 ≤ b) (h2 : b < 64) (h : Q (.int (a * 64 + b) s.toks) { s with toks := s.toks + 1 }) : wpAny (model prog w) A (inplaceOp .BitOr (.int (a * 64) t) (.int b u)) Q E s :=
  ior_int (by rw [bor64 h0 h1 h2]; exact h)
end
local macro_rules | `(tactic| walk_at "binaryOp BitAnd int int") => `(tactic| (refine and63 (by omega) (by omega) ?_))
local macro_rules | `(tactic| walk_at "inplaceOp LShift int int") => `(tactic| (refine shl6 (by omega) (by omega) ?_))
local macro_rules | `(tactic| walk_at "inplaceOp BitOr int int") => `(tactic| (refine or64 (by omega) (by omega) (by omega) ?_))
local macro_rules | `(tactic| walk_at "exec While") => `(tactic| (refine whl_start 9 ?_))
local macro_rules | `(tactic| walk_at "WhlIf") => `(tactic| first | (refine WhlIf.yes (b64yes (by omega) (by omega)) ?_) | (refine WhlIf.no (b64no (by omega) (by omega)) ?_))
set_option maxRecDepth 100000 in
set_option maxHeartbeats 4000000 in
theorem c_varint2 {prog : Program} {w : World} {mean} {mg mb : Str → Option Value} {A : Around} {s : Shared} {Q : Value → Shared → Prop} {E : Value → Shared → Prop} {b0 : Heap} {it l : Addr} {i : Nat} {items : Array Value} {d0 d1 d2 : Int} {t0 t1 t2 : Tok}
    (W : Wd w mean mg mb b0) (k0 : b0.StaysIn s.heap) (hnew : b0.get? it = none) (hA : A.depth < recursionLimit) (hit : s.heap.get? it = some (itObj l i)) (hl : s.heap.IsList l items)
    (x0 : items[i]? = some (.int d0 t0)) (x1 : items[i + 1]? = some (.int d1 t1)) (r0 : 64 ≤ d0) (r1 : d0 < 128) (r2 : 0 ≤ d1) (r3 : d1 < 64)
    (h : ∀ h' tk t', (∀ b o, b ≠ it → s.heap.get? b = some o → h'.get? b = some o) → h'.get? it = some (itObj l (i + 2)) → Q (.int ((d0 % 64) * 64 + d1 % 64) t') { s with heap := h', toks := tk }) :
    wpAny (model prog w) A (call (.ref 28) [.ref it]) Q E s := by
  have W' := W.keeps (stays_hide k0 hnew)
  have KX := W'.X
  have T := W'.T
  have hl' : (s.heap.hide it).IsList l items := by
    obtain ⟨o, a, b, c⟩ := hl
    refine ⟨o, (Heap.hide_ne _ ?_).trans a, b, c⟩
    rintro rfl
    rw [hit] at a; cases a; exact absurd b (by simp)
  refine wpAny_call ?_
  refine codeAny_call_def (binds := [(Str.ofString "iterator", .ref it)]) hA ((W.keeps k0).X 28 _ (by k_is)) rfl (W.keeps k0).T.nolimit (codeRec_of (W.keeps k0).X (by k_is)) rfl (BindsTo.of_eq rfl) ?hc ?hl (fun h₁ hns hk => ?_) rfl rfl rfl
  case hc => decide
  case hl => exact locs rfl
  have F : Fr (s.heap.hide it) s.heap.objs.size h₁ (fun x' => (List.reverse [(Str.ofString "iterator", Value.ref it)]).lookup x') := ⟨hns, fun b o e => hk b o (Heap.of_hide e), Nat.le_of_eq (Heap.hide_size _ _)⟩
  have N : News (s.heap.hide it) s.heap.objs.size h₁ [(it, itObj l i)] := fun p hp => by
    obtain rfl := List.mem_singleton.mp hp
    exact ⟨hk _ _ hit, Nat.ne_of_lt (Heap.lt_size hit), Heap.hide_self _ _⟩
  k_steps
  all_goals (
    (rename Fr _ _ _ _ => FF)
    (rename News _ _ _ _ => NN)
    exact h _ _ _ (fun b o z q => FF.keep b o ((Heap.hide_ne _ z).trans q)) (NN.get (.head _)))
set_option maxRecDepth 100000 in
set_option maxHeartbeats 4000000 in
theorem c_varint3 {prog : Program} {w : World} {mean} {mg mb : Str → Option Value} {A : Around} {s : Shared} {Q : Value → Shared → Prop} {E : Value → Shared → Prop} {b0 : Heap} {it l : Addr} {i : Nat} {items : Array Value} {d0 d1 d2 : Int} {t0 t1 t2 : Tok}
    (W : Wd w mean mg mb b0) (k0 : b0.StaysIn s.heap) (hnew : b0.get? it = none) (hA : A.depth < recursionLimit) (hit : s.heap.get? it = some (itObj l i)) (hl : s.heap.IsList l items)
    (x0 : items[i]? = some (.int d0 t0)) (x1 : items[i + 1]? = some (.int d1 t1)) (x2 : items[i + 1 + 1]? = some (.int d2 t2)) (r0 : 64 ≤ d0) (r1 : d0 < 128) (r2 : 64 ≤ d1) (r3 : d1 < 128) (r4 : 0 ≤ d2) (r5 : d2 < 64)
    (h : ∀ h' tk t', (∀ b o, b ≠ it → s.heap.get? b = some o → h'.get? b = some o) → h'.get? it = some (itObj l (i + 3)) → Q (.int (((d0 % 64) * 64 + d1 % 64) * 64 + d2 % 64) t') { s with heap := h', toks := tk }) :
    wpAny (model prog w) A (call (.ref 28) [.ref it]) Q E s := by
  have W' := W.keeps (stays_hide k0 hnew)
  have KX := W'.X
  have T := W'.T
  have hl' : (s.heap.hide it).IsList l items := by
    obtain ⟨o, a, b, c⟩ := hl
    refine ⟨o, (Heap.hide_ne _ ?_).trans a, b, c⟩
    rintro rfl
    rw [hit] at a; cases a; exact absurd b (by simp)
  refine wpAny_call ?_
  refine codeAny_call_def (binds := [(Str.ofString "iterator", .ref it)]) hA ((W.keeps k0).X 28 _ (by k_is)) rfl (W.keeps k0).T.nolimit (codeRec_of (W.keeps k0).X (by k_is)) rfl (BindsTo.of_eq rfl) ?hc ?hl (fun h₁ hns hk => ?_) rfl rfl rfl
  case hc => decide
  case hl => exact locs rfl
  have F : Fr (s.heap.hide it) s.heap.objs.size h₁ (fun x' => (List.reverse [(Str.ofString "iterator", Value.ref it)]).lookup x') := ⟨hns, fun b o e => hk b o (Heap.of_hide e), Nat.le_of_eq (Heap.hide_size _ _)⟩
  have N : News (s.heap.hide it) s.heap.objs.size h₁ [(it, itObj l i)] := fun p hp => by
    obtain rfl := List.mem_singleton.mp hp
    exact ⟨hk _ _ hit, Nat.ne_of_lt (Heap.lt_size hit), Heap.hide_self _ _⟩
  k_steps
  all_goals (
    (rename Fr _ _ _ _ => FF)
    (rename News _ _ _ _ => NN)
    exact h _ _ _ (fun b o z q => FF.keep b o ((Heap.hide_ne _ z).trans q)) (NN.get (.head _)))
end Mine
end
section
namespace Mine
theorem kfill4 : (PySem.Challenge.rw_wb0057_01, K) = (PySem.Challenge.rw_wb0057_01, K) := by k_fill; rfl
section
variable {prog : Program} {w : World} {A : Around} {s : Shared} {E : Value → Shared → Prop} {c : Nat} {t u : Tok}
theorem b1_in {led : Bool} {k : Int} {Q : Value → Shared → Prop} (e : s.heap.get? 36 = some (b1obj led)) (h : Q (.bool (inB1 k)) { s with toks := s.toks + 1 }) :
    wpAny (model prog w) A (compareOp .In (.int k t) (.ref 36)) Q E s := wpAny_inSet_of (intKind_is prog w k t) rfl (b1_setOf prog w e) h
theorem b3_get {pl : Sem Bool} {Q : Value × List Value → Shared → Prop} (e : s.heap.get? 47 = some b3obj) (h : Q (.builtin "dict.get", [.ref 47]) s) :
    wpAny (model prog w) A (getMethod (.ref 47) "get" pl) Q E s :=
  have hm := b3_mapOf prog w e
  getMethod_builtin hm.typeIs PySem.F.plainAttrs_dict PySem.F.slot_dict_get PySem.F.type_dict_get hm.noDict h
theorem b3_call_some {k : Int} {v : Str} {Q : Value → Shared → Prop} (e : s.heap.get? 47 = some b3obj) (hv : b3pairs.lookup k = some v) (h : ∀ u, Q (.str v u) { s with toks := s.toks + 1 }) :
    wpAny (model prog w) A (call (.builtin "dict.get") [.ref 47, .int k t]) Q E s := by
  have hm := b3_mapOf prog w e
  obtain ⟨u, hu⟩ := b3_some prog w hv
  refine call_meetsIn PySem.F.slot_dict_get hm.typeIs PySem.F.entry_dict_get (PySem.F.args_dict_get_2 _ _) (meets_dict_get (intKind prog w) 47 (intKind_is prog w k t) (by decide)) ⟨_, hm, ?_⟩
  rw [hu]; exact h u
theorem b3_call_none {k : Int} {Q : Value → Shared → Prop} (e : s.heap.get? 47 = some b3obj) (hv : b3pairs.lookup k = none) (h : Q .none { s with toks := s.toks + 1 }) :
    wpAny (model prog w) A (call (.builtin "dict.get") [.ref 47, .int k t]) Q E s := by
  have hm := b3_mapOf prog w e
  refine call_meetsIn PySem.F.slot_dict_get hm.typeIs PySem.F.entry_dict_get (PySem.F.args_dict_get_2 _ _) (meets_dict_get (intKind prog w) 47 (intKind_is prog w k t) (by decide)) ⟨_, hm, ?_⟩
  rw [b3_none prog w hv]; exact h
end
local macro_rules | `(tactic| walk_at "compareOp In int") => `(tactic| (refine b1_in (Fr.keep (by k_asm) _ _ (by assumption)) ?_))
local macro_rules | `(tactic| walk_at "getMethod ref") => `(tactic| (refine b3_get (Fr.keep (by k_asm) _ _ (by assumption)) ?_))
local macro_rules | `(tactic| walk_at "call builtin:dict.get") => `(tactic| first | (refine b3_call_some (Fr.keep (by k_asm) _ _ (by assumption)) (by assumption) ?_; intro _) | (refine b3_call_none (Fr.keep (by k_asm) _ _ (by assumption)) (by assumption) ?_))
local macro_rules | `(tactic| walk_at "call builtin:str.lower") => `(tactic| (refine SCL.lower (show 1 ≤ 5592405 by decide) ?_; intro _))
set_option maxRecDepth 100000 in
set_option maxHeartbeats 4000000 in
theorem c_inb1 {prog : Program} {w : World} {mean} {mg mb : Str → Option Value} {A : Around} {s : Shared} {Q : Value → Shared → Prop} {E : Value → Shared → Prop} {c : Nat} {t : Tok}
    (W : Wd w mean mg mb s.heap) (hA : A.depth < recursionLimit) 
    (h : ∀ h' tk, s.heap.StaysIn h' → Q (.bool (inB1 c)) { s with heap := h', toks := tk }) :
    wpAny (model prog w) A (call (.ref 46) [.str ⟨#[c]⟩ t]) Q E s := by
  have KX := W.X
  have T := W.T
  refine wpAny_call ?_
  refine codeAny_call_def (binds := [(Str.ofString "code", .str ⟨#[c]⟩ t)]) hA (KX 46 _ (by k_is)) rfl T.nolimit (codeRec_of KX (by k_is)) rfl (BindsTo.of_eq rfl) ?hc ?hl (fun h₁ hns hk => ?_) rfl rfl rfl
  case hc => decide
  case hl => exact locs rfl
  have F : Fr s.heap s.heap.objs.size h₁ (fun x' => (List.reverse [(Str.ofString "code", Value.str ⟨#[c]⟩ t)]).lookup x') := ⟨hns, hk, Nat.le_refl _⟩
  have N : News s.heap s.heap.objs.size h₁ [] := News.nil
  obtain ⟨led, HB1⟩ := W.B1
  have HB3 := W.B3
  k_steps
  all_goals ((rename Fr _ _ _ _ => FF); first | exact h _ _ FF.keep | exact h _ _ _ FF.keep)
set_option maxRecDepth 100000 in
set_option maxHeartbeats 4000000 in
theorem c_map {prog : Program} {w : World} {mean} {mg mb : Str → Option Value} {A : Around} {s : Shared} {Q : Value → Shared → Prop} {E : Value → Shared → Prop} {c : Nat} {t : Tok}
    (W : Wd w mean mg mb s.heap) (hA : A.depth < recursionLimit) (v : Str) (hv : b3pairs.lookup (c : Int) = some v)
    (h : ∀ h' tk t', s.heap.StaysIn h' → Q (.str v t') { s with heap := h', toks := tk }) :
    wpAny (model prog w) A (call (.ref 92) [.str ⟨#[c]⟩ t]) Q E s := by
  have KX := W.X
  have T := W.T
  refine wpAny_call ?_
  refine codeAny_call_def (binds := [(Str.ofString "code", .str ⟨#[c]⟩ t)]) hA (KX 92 _ (by k_is)) rfl T.nolimit (codeRec_of KX (by k_is)) rfl (BindsTo.of_eq rfl) ?hc ?hl (fun h₁ hns hk => ?_) rfl rfl rfl
  case hc => decide
  case hl => exact locs rfl
  have F : Fr s.heap s.heap.objs.size h₁ (fun x' => (List.reverse [(Str.ofString "code", Value.str ⟨#[c]⟩ t)]).lookup x') := ⟨hns, hk, Nat.le_refl _⟩
  have N : News s.heap s.heap.objs.size h₁ [] := News.nil
  obtain ⟨led, HB1⟩ := W.B1
  have HB3 := W.B3
  k_steps
  all_goals ((rename Fr _ _ _ _ => FF); first | exact h _ _ FF.keep | exact h _ _ _ FF.keep)
set_option maxRecDepth 100000 in
set_option maxHeartbeats 4000000 in
theorem c_map0 {prog : Program} {w : World} {mean} {mg mb : Str → Option Value} {A : Around} {s : Shared} {Q : Value → Shared → Prop} {E : Value → Shared → Prop} {c : Nat} {t : Tok}
    (W : Wd w mean mg mb s.heap) (hA : A.depth < recursionLimit) (hv : b3pairs.lookup (c : Int) = none)
    (h : ∀ h' tk t', s.heap.StaysIn h' → Q (.str (Txt.lower ⟨#[c]⟩) t') { s with heap := h', toks := tk }) :
    wpAny (model prog w) A (call (.ref 92) [.str ⟨#[c]⟩ t]) Q E s := by
  have KX := W.X
  have T := W.T
  refine wpAny_call ?_
  refine codeAny_call_def (binds := [(Str.ofString "code", .str ⟨#[c]⟩ t)]) hA (KX 92 _ (by k_is)) rfl T.nolimit (codeRec_of KX (by k_is)) rfl (BindsTo.of_eq rfl) ?hc ?hl (fun h₁ hns hk => ?_) rfl rfl rfl
  case hc => decide
  case hl => exact locs rfl
  have F : Fr s.heap s.heap.objs.size h₁ (fun x' => (List.reverse [(Str.ofString "code", Value.str ⟨#[c]⟩ t)]).lookup x') := ⟨hns, hk, Nat.le_refl _⟩
  have N : News s.heap s.heap.objs.size h₁ [] := News.nil
  obtain ⟨led, HB1⟩ := W.B1
  have HB3 := W.B3
  k_steps
  all_goals ((rename Fr _ _ _ _ => FF); first | exact h _ _ FF.keep | exact h _ _ _ FF.keep)
end Mine
end
section
namespace Mine
def Ctx0 (e : Addr) (h : Heap) : Prop := ∃ o vs, h.get? e = some o ∧ o.data = .fields vs ∧ vs[2]? = some .none
def Pres (f : Obj → Obj) : Prop := ∀ o vs, o.data = .fields vs → vs[2]? = some .none → ∃ vs', (f o).data = .fields vs' ∧ vs'[2]? = some .none
def Inv2 {α : Type} : Sem α → Prop
  | .pure _ => True
  | .raise _ => True
  | .unsupported _ => True
  | .finish _ => True
  | .rule _ k => Inv2 (k ())
  | .at _ k => Inv2 (k ())
  | .point _ k => Inv2 (k ())
  | .load _ _ k => ∀ o, Inv2 (k o)
  | .loadIfAlive _ k => ∀ o, Inv2 (k o)
  | .update _ _ f k => Pres f ∧ Inv2 (k ())
  | .alloc _ k => ∀ a, Inv2 (k a)
  | .fresh k => ∀ t, Inv2 (k t)
  | .ask k => ∀ t, Inv2 (k t)
  | .handled _ k => ∀ t, Inv2 (k t)
  | .stack k => ∀ t, Inv2 (k t)
  | _ => False
theorem inv_bind {α β : Type} {f : α → Sem β} (hf : ∀ a, Inv2 (f a)) : ∀ {m : Sem α}, Inv2 m → Inv2 (m >>= f) := by
  intro m
  induction m with
  | pure a => intro _; exact hf a
  | raise | unsupported | finish => intro _; trivial
  | rule _ k ih => intro h; exact ih () h
  | «at» _ k ih => intro h; exact ih () h
  | point _ k ih => intro h; exact ih () h
  | load _ _ k ih => intro h o; exact ih o (h o)
  | loadIfAlive _ k ih => intro h o; exact ih o (h o)
  | update _ _ f k ih => intro h; exact ⟨h.1, ih () h.2⟩
  | alloc _ k ih => intro h o; exact ih o (h o)
  | fresh k ih => intro h o; exact ih o (h o)
  | ask k ih => intro h o; exact ih o (h o)
  | handled _ k ih => intro h o; exact ih o (h o)
  | stack k ih => intro h o; exact ih o (h o)
  | _ => intro h; exact h.elim
theorem inv_pure {α : Type} (a : α) : Inv2 (pure a : Sem α) := trivial
theorem inv_load (a : Addr) : Inv2 (load a) := fun _ => trivial
theorem inv_stack : Inv2 stack := fun _ => trivial
theorem ctx_push {e : Addr} {h : Heap} (o : Obj) (c : Ctx0 e h) : Ctx0 e (h.push o) := by
  obtain ⟨x, vs, a, b, d⟩ := c
  exact ⟨x, vs, Heap.get?_push_of_some _ a, b, d⟩
theorem ctx_update {e a : Addr} {h : Heap} {f : Obj → Obj} (p : Pres f) (c : Ctx0 e h) : Ctx0 e (h.update a f) := by
  obtain ⟨x, vs, g, b, d⟩ := c
  by_cases q : a = e
  · subst q
    obtain ⟨vs', b', d'⟩ := p x vs b d
    exact ⟨f x, vs', Heap.get?_update_self f g (Obj.isFreed_of_fields b'), b', d'⟩
  · exact ⟨x, vs, (Heap.get?_update_other _ _ q).trans g, b, d⟩
theorem ctx_keeps {e : Addr} {h h' : Heap} (k : ∀ b o, h.get? b = some o → h'.get? b = some o) (c : Ctx0 e h) : Ctx0 e h' := by
  obtain ⟨x, vs, g, b, d⟩ := c
  exact ⟨x, vs, k _ _ g, b, d⟩
theorem strengthen_wp {α : Type} {M : Model} {Γ : Ctx} {e : Addr} {Q : α → Pos → Shared → Prop} {E : Value → Pos → Shared → Prop} : ∀ (t : Sem α) (p : Pos) (s : Shared), Inv2 t → Ctx0 e s.heap → Sem.wp M Γ t Q E p s →
    Sem.wp M Γ t (fun a p' s' => Q a p' s' ∧ Ctx0 e s'.heap) (fun x p' s' => E x p' s' ∧ Ctx0 e s'.heap) p s := by
  intro t
  induction t with
  | pure a => intro p s _ c h; exact ⟨h, c⟩
  | raise a => intro p s _ c h; exact ⟨h, c⟩
  | unsupported | finish => intro p s _ _ h; exact h.elim
  | rule _ k ih => intro p s i c h; exact ih () p s i c h
  | «at» q k ih => intro p s i c h; exact ih () q s i c h
  | point _ k ih => intro p s i c h; exact ih () p s i c h
  | load a _ k ih => intro p s i c ⟨o, ho, h⟩; exact ⟨o, ho, ih o p s (i o) c h⟩
  | loadIfAlive a k ih => intro p s i c h; exact ih _ p s (i _) c h
  | update a _ f k ih => intro p s i c ⟨h1, h2⟩; exact ⟨h1, ih () p _ i.2 (ctx_update i.1 c) h2⟩
  | alloc o k ih => intro p s i c h; exact ih _ p _ (i _) (ctx_push o c) h
  | fresh k ih => intro p s i c h; exact ih _ p _ (i _) c h
  | ask k ih => intro p s i c h; exact ih _ p _ (i _) c h
  | handled _ k ih => intro p s i c h; exact ih _ p _ (i _) c h
  | stack k ih => intro p s i c h; exact ih _ p _ (i _) c h
  | _ => intro p s i; exact i.elim
theorem strengthen {α : Type} {M : Model} {A : Around} {t : Sem α} {e : Addr} {Q : α → Shared → Prop} {E : Value → Shared → Prop} {s : Shared} (i : Inv2 t) (c : Ctx0 e s.heap) (h : wpAny M A t Q E s) :
    wpAny M A t (fun a s' => Q a s' ∧ Ctx0 e s'.heap) (fun x s' => E x s' ∧ Ctx0 e s'.heap) s := fun Γ p hΓ => strengthen_wp t p s i c (h Γ p hΓ)
theorem pres_slots (g : Obj → Array (Option Value)) : Pres fun o => { o with slots := g o } := fun _ vs a b => ⟨vs, a, b⟩
theorem pres_field {i : Nat} (hi : i ≠ 2) (v : Value) : Pres (Obj.mapFields (·.setIfInBounds i v)) := fun o vs a b => ⟨_, Obj.data_mapFields a _, by rw [Array.getElem?_setIfInBounds_ne hi]; exact b⟩
theorem inv_field (v : Value) (i : Nat) : Inv2 (field v i) := by
  unfold field
  refine inv_bind (fun vs => ?_) ?_
  · split <;> trivial
  · unfold fieldsOf
    cases v with
    | ref a => exact inv_bind (m := load a) (fun o => by split <;> trivial) (inv_load a)
    | _ => trivial
theorem inv_setField (v : Value) {i : Nat} (hi : i ≠ 2) (x : Value) : Inv2 (setField v i x) := by
  unfold setField
  cases v with
  | ref a =>
    show Inv2 (updateField a i x)
    unfold updateField
    refine inv_bind (m := load a) (fun o => ?_) (inv_load a)
    split
    · split
      · exact ⟨pres_field hi x, trivial⟩
      · trivial
    · trivial
  | _ => trivial
theorem inv_nsGet (a : Addr) (x : Str) : Inv2 (nsGet a x) := by
  unfold nsGet
  refine inv_bind (fun o => ?_) (fun _ => trivial)
  rw [nsLook_eq]
  unfold nsLookByArray
  split
  · split
    · trivial
    · split <;> trivial
  · trivial
theorem inv_behind (env : Env) (outer : List Env) : Inv2 (behindIsImport env outer) := by
  unfold behindIsImport
  split
  · trivial
  · split
    · trivial
    · exact inv_bind (fun _ => inv_pure _) (inv_field _ _)
theorem inv_keptBack (env : Env) (b : Bool) (outer : List Env) : Inv2 (keptBack env b outer) := by
  unfold keptBack
  split
  · split
    · trivial
    · refine inv_bind (fun _ => inv_pure _) ?_
      unfold underTheClaimsCaller
      exact inv_bind (m := stack) (fun _ => inv_pure _) inv_stack
  · trivial
theorem inv_ready : ∀ l : List Env, Inv2 (readyFrames l)
  | [] => trivial
  | env :: outer => by
    unfold readyFrames
    split
    · refine inv_bind (m := load _) (fun o => ?_) (fun _ => trivial)
      split
      · trivial
      · refine inv_bind (m := behindIsImport _ _) (fun b => ?_) (inv_behind _ _)
        refine inv_bind (m := keptBack _ _ _) (fun v => ?_) (inv_keptBack _ _ _)
        exact inv_bind (m := update _ _) (fun _ => inv_ready outer) ⟨pres_slots _, trivial⟩
    · trivial
theorem inv_frameOf (env : Env) : Inv2 (PySem.frameOf env) := by
  unfold PySem.frameOf frameEnvs
  refine inv_bind (fun l => ?_) (inv_bind (m := stack) (fun _ => inv_pure _) inv_stack)
  refine inv_bind (fun r => ?_) ?_
  · split <;> trivial
  · unfold frameObject
    split
    · trivial
    · exact inv_bind (fun _ => inv_pure _) (inv_ready _)
theorem inv_setFlight (e : Value) (f : Option Addr) : Inv2 (setFlight e f) := by
  unfold setFlight
  refine inv_bind (fun tb => ?_) (inv_field _ _)
  split
  · exact inv_setField _ (by decide) _
  · trivial
theorem inv_newEntry (a b c d e : Value) (pl : List Value) : Inv2 (EntryCells.newEntry a b c d e pl) := by
  unfold EntryCells.newEntry newFields newObj
  have q : ∀ c d, Inv2 (newObjAsIs (.type c) d none) := fun c d => by
    unfold newObjAsIs
    exact inv_bind (m := alloc _) (fun _ => inv_pure _) (fun _ => trivial)
  dsimp only
  split <;> split <;> first | trivial | exact q _ _ | exact inv_bind (fun _ => q _ _) trivial
theorem inv_noteFrame (e : Value) (env : Env) : Inv2 (noteFrame e env) := by
  unfold noteFrame
  have tail : ∀ (head : Value) (f : Addr), Inv2 (do
      let a ← PySem.frameOf env
      let pl ← entryPlaceOf f (head != .none)
      let b ← EntryCells.newEntry head a .none (rawInt f) .none pl
      setField e 1 b) := fun head f => by
    refine inv_bind (fun a => ?_) (inv_frameOf env)
    refine inv_bind (fun pl => ?_) ?_
    · exact inv_bind (fun b => inv_setField _ (by decide) _) (inv_newEntry ..)
    · unfold entryPlaceOf
      refine inv_bind (m := stack) (fun acts => ?_) (fun _ => trivial)
      split <;> trivial
  split
  · refine inv_bind (fun head => ?_) (inv_field _ _)
    split
    · refine inv_bind (fun x => ?_) (inv_field _ _)
      split
      · trivial
      · exact inv_bind (fun _ => tail _ _) (inv_setField _ (by decide) _)
    · exact tail _ _
  · trivial
theorem inv_leaving (e : Value) (env : Env) : Inv2 (leaving env e) := by
  unfold leaving
  exact inv_bind (fun _ => inv_setFlight _ _) (inv_noteFrame _ _)
end Mine
end
section
namespace Mine
theorem unchain_entry : entryFor table "proto.unchain" = some Builtin.«proto.unchain» := entryFor_of_tree (by kernel_rfl)
section
variable {prog : Program} {w : World} {A : Around} {E : Value → Shared → Prop} {s : Shared}
theorem ctx_field {e : Addr} {Q : Value → Shared → Prop} (c : Ctx0 e s.heap) (h : Q .none s) : wpAny (model prog w) A (field (.ref e) 2) Q E s := by
  obtain ⟨o, vs, a, b, d⟩ := c
  exact wpAny_field a b d h
theorem unchain_none {e x : Addr} {Q : Value → Shared → Prop} (c : Ctx0 x s.heap) (h : Q .none s) :
    wpAny (model prog w) A (runValue (.builtin "proto.unchain" ⟨[.ref e, .ref x, .ref x, .bool false], []⟩)) Q E s := by
  refine wpAny_runValue (codeAny_builtin unchain_entry ?_)
  show wpAny _ _ (field (.ref x) 2 >>= _) _ _ s
  refine wpAny_bind (ctx_field c ?_)
  show wpAny _ _ (ret .none >>= _) _ _ s
  exact wpAny_bind (wpAny_pure (wpAny_pure h))
theorem next_end_marked {it l x : Addr} {i : Nat} {items : Array Value} {Q : Option Value → Shared → Prop} (hh : A.handled = some (.ref x)) (c : Ctx0 x s.heap) (hix : it ≠ x)
    (hit : s.heap.IsListIter it l i) (hl : s.heap.IsList l items) (hx : items[i]? = none)
    (hQ : ∀ h', Heap.ExtBut it s.heap h' → Q none { s with heap := h' }) : wpAny (model prog w) A (pyNext (.ref it)) Q E s := by
  obtain ⟨o, ho, hc, hd⟩ := id hit
  obtain ⟨ol, hol, _, nl, hdl⟩ := hl
  unfold pyNext
  refine wpAny_bind (wpAny_attempt (wpAny_callSpecial?_slot (name := Str.ofString "__next__") hit.typeIs slot_listiter_next
    (wpAny_call_entry slot_listiter_next hit.typeIs entry_listiter_next ?_ (args_listiter_next _))))
  show wpAny _ _ (field (.ref it) 0 >>= _) _ _ s
  refine wpAny_bind (wpAny_field ho hd (x := .ref l) rfl ?_)
  show wpAny _ _ (if (Value.ref l == Value.none) = true then _ else _) _ _ s
  rw [if_neg (show ¬ ((Value.ref l == Value.none) = true) from Bool.false_ne_true)]
  show wpAny _ _ (field (.ref it) 1 >>= _) _ _ s
  refine wpAny_bind (wpAny_field ho hd (x := .int i 0) rfl ?_)
  show wpAny _ _ (seqItems? (.ref l) >>= _) _ _ s
  refine wpAny_bind (wpAny_seqItems hol hdl ?_)
  simp only [Int.toNat_natCast, hx]
  refine wpAny_bind (wpAny_rule (wpAny_bind (wpAny_setField ho hd (by simp) ?_)))
  show wpAny _ _ (newExc (.type "StopIteration") [] >>= _) _ _ _
  refine wpAny_bind ?_
  simp only [newExc, newTuple]
  refine wpAny_bind (wpAny_newObj_type ?_ (by size_fits))
  refine wpAny_bind (m := firstArgMember _ _) (wpAny_of_eq (a := Value.none) (by first | rfl | (simp only [firstArgMember]; rfl)) ?_)
  refine wpAny_newObj_type ?_ (by size_fits)
  have c1 : Ctx0 x (s.heap.update it (Obj.mapFields (·.setIfInBounds 0 Value.none))) := ctx_update (pres_field (by decide) _) c
  generalize hH : s.heap.update it (Obj.mapFields (·.setIfInBounds 0 Value.none)) = H at c1
  have hsb : Heap.ExtBut it s.heap H := by rw [← hH]; exact (Heap.SameBut.update ..).extBut
  have c2 := ctx_push { cls := .type "tuple", data := .seq #[] } c1
  have hnx : (H.push { cls := .type "tuple", data := .seq #[] }).objs.size ≠ x := by
    obtain ⟨_, _, g, _⟩ := c2
    exact Nat.ne_of_gt (Heap.lt_size g)
  simp only [raiseNew]
  refine wpAny_bind (wpAny_handled ?_)
  first | rw [show A.in1.handled = some (.ref x) from hh] | rw [hh]
  dsimp only
  rw [if_pos (show (Value.ref x != Value.ref (H.push { cls := Value.type "tuple", data := Data.seq #[] }).objs.size) = true from by simpa using Ne.symm hnx)]
  refine wpAny_bind (wpAny_holding (unchain_none (ctx_push _ c2) ?_))
  refine wpAny_bind ?_
  refine wpAny_setField (a := (H.push { cls := Value.type "tuple", data := Data.seq #[] }).objs.size) (Heap.get?_push_size _ rfl) rfl (by simp; omega) (wpAny_throw ?_)
  have ge := Heap.get?_update_self (h := (H.push { cls := Value.type "tuple", data := Data.seq #[] }).push { cls := Value.type "StopIteration", data := Data.fields (#[Value.ref H.objs.size, Value.none, Value.none, Value.none, Value.bool false, Value.none] ++ ownMembersOf (Value.type "StopIteration") []) })
    (Obj.mapFields (·.setIfInBounds 2 (Value.ref x))) (Heap.get?_push_size _ rfl) (Obj.isFreed_of_fields (Obj.data_mapFields rfl _))
  refine wpAny_bind (wpAny_isInstance (T := "StopIteration") (b := true) ⟨_, ge, (Obj.cls_mapFields ..)⟩ isSubtype_stop ?_)
  refine wpAny_pure (hQ _ fun b o' hb e => ?_)
  have lt : b < H.objs.size := Heap.lt_size (hsb b o' hb e)
  refine (Heap.get?_update_other _ _ (Nat.ne_of_gt (Nat.lt_of_lt_of_le lt ?_))).trans ?_
  · rw [Heap.size_push]; exact Nat.le_succ _
  · exact Heap.get?_push_of_some _ (Heap.get?_push_of_some _ (hsb b o' hb e))
theorem Walks.marked (x : Addr) (hh : A.handled = some (.ref x)) (I ax : Addr) (hne : ax ≠ I) (hx : I ≠ x) (items : Array Value) :
    Walks prog w A I [I, ax, x] [I] items.size (fun i v => items[i]? = some v) (fun i h => h.IsListIter I ax i ∧ h.IsList ax items ∧ Ctx0 x h) where
  sub := fun b hb => by simp at hb; simp [hb]
  frame := fun _ h h' st hk => ⟨st.1.at fun o e => hk I (by simp) o e, st.2.1.at fun o e => hk ax (by simp) o e, by
    obtain ⟨o, vs, a, b⟩ := st.2.2
    exact ⟨o, vs, hk x (by simp) o a, b⟩⟩
  item := fun i s Q E hi st hQ => by
    refine wpAny_pyNext_list_item st.1 st.2.1 (x := items[i]) (by simp [hi]) fun h' hit' hs' => ?_
    refine hQ _ h' s.toks (by simp [hi]) ⟨hit', st.2.1.extBut hs'.extBut hne, ?_⟩ fun b o hb e => hs'.extBut b o (fun h => hb (by simp [h])) e
    obtain ⟨o, vs, a, b⟩ := st.2.2
    exact ⟨o, vs, hs'.extBut x o (Ne.symm hx) a, b⟩
  done := fun s Q E st hQ => next_end_marked hh st.2.2 hx st.1 st.2.1 (by simp) fun h' he' => hQ h' s.toks fun b o hb e => he' b o (fun h => hb (by simp [h])) e
  self := fun _ _ _ _ st hQ => wpAny_pyIter_listiter st.1 hQ
theorem comp_marked {env : Env} {scope : Scope} {xn : Str} {ifs : List Expr} {elt : Expr} {Q : Value → Shared → Prop} {x S : Addr} {items : Array Value} (p : Value → Bool) (F : Value → Value → Prop)
    (hh : A.handled = some (.ref x)) (hl : s.heap.IsList S items) (hc : Ctx0 x s.heap) (hsz : items.size ≤ sizeLine)
    (hq : QuietOn prog w A env scope xn ifs elt [s.heap.objs.size] (fun i v => items[i]? = some v) p F { s with heap := s.heap.push { cls := .type "list_iterator", data := .fields #[.ref S, .int 0 0] } })
    (hQ : ∀ D h' tk ys, s.heap.get? D = none → h'.PlainList D ys → Paired F (items.toList.filter p) ys.toList → (∀ b o, s.heap.get? b = some o → h'.get? b = some o) → Q (.ref D) { s with heap := h', toks := tk }) :
    wpAny (model prog w) A (pyIter (.ref S)) (CompPost prog w A env scope xn ifs elt Q) E s := by
  refine wpAny_pyIter_list hl ?_
  obtain ⟨ol, hol, r⟩ := id hl
  have l1 : S < s.heap.objs.size := Heap.lt_size hol
  have l2 : x < s.heap.objs.size := by obtain ⟨o, vs, a, _⟩ := hc; exact Heap.lt_size a
  have keep : ∀ b o, s.heap.get? b = some o → (s.heap.push { cls := .type "list_iterator", data := .fields #[.ref S, .int 0 0] }).get? b = some o := fun b o e => Heap.get?_push_of_some _ e
  refine ⟨p, F, _, _, _, _, _, _, rfl, Walks.marked x hh _ S (Nat.ne_of_lt l1) (Nat.ne_of_gt l2) items, hsz, ⟨⟨_, Heap.get?_push_size _ rfl, rfl, rfl⟩, hl.at fun o e => keep _ o e, ctx_keeps keep hc⟩, ?_, hq, ?_⟩
  · intro b hb
    show b < (s.heap.push _).objs.size
    rw [Heap.size_push]
    rcases List.mem_cons.mp hb with rfl | hb
    · exact Nat.lt_succ_self _
    rcases List.mem_cons.mp hb with rfl | hb
    · exact Nat.lt_succ_of_lt l1
    rw [List.mem_singleton.mp hb]; exact Nat.lt_succ_of_lt l2
  · intro D h' tk ys vs hD hil hpl hlen hP hF hk
    have hvs : vs = items.toList := by
      apply List.ext_getElem?
      intro j
      by_cases q : j < vs.length
      · have := hP j vs[j] (by simp [q])
        rw [List.getElem?_eq_getElem q, Array.getElem?_toList, this]
      · rw [List.getElem?_eq_none (by omega), List.getElem?_eq_none (by simp; omega)]
    rw [hvs] at hF
    refine hQ D h' tk ys ?_ hpl hF fun b o e => hk b o ?_ (keep b o e)
    · cases q : s.heap.get? D with
      | none => rfl
      | some o => rw [keep D o q] at hD; cases hD
    · simp; exact Nat.ne_of_lt (Heap.lt_size e)
end
end Mine
end
section
namespace Mine
section
variable {prog : Program} {w : World} {A A₀ : Around} {E : Value → Shared → Prop} {s' : Shared} {base g g₀ G h : Heap} {outer : List Env} {L a e t : Addr} {m : Str → Option Value} {name : Str} {scope : Scope} {cd : Value} {news : List (Addr × Obj)} {vs : List Value}
  {KF : Frag} {p : Program} {loose : List Str} {mean : ExcName → Option Value} {mg mb : Str → Option Value} {x : Str} {X T' : String} {np pos : Pos} {b₀ : Stmt} {suite : List Stmt} {rest : List ExceptHandler}
theorem leave_raiseC {cls : Value} {Q : Unit → Shared → Prop} (K : Below A base outer g) (hx : Heap.MadeExcOf h s'.heap e cls vs) (F : Fr g L h m) (N : News g L h news)
    (hQ : ∀ h' t, RaisedS base g outer e cls t vs news h' → g.UpToSlots h' → Ctx0 e h' → Q () { s' with heap := h' }) (hk : scope.kind = .function := by rfl) :
    wpAny (model prog w) (A.deeper (envOf name scope L a cd)) (leaving (envOf name scope L a cd) (.ref e)) Q E s' := by
  have c : Ctx0 e s'.heap := by
    obtain ⟨t, ht, _⟩ := hx.there
    exact ⟨_, _, ht, rfl, rfl⟩
  refine wpAny_mono (strengthen (inv_leaving _ _) c (leave_raiseS (Q := fun _ s₂ => ∃ h' t, s₂ = { s' with heap := h' } ∧ RaisedS base g outer e cls t vs news h' ∧ g.UpToSlots h') (E := E) K hx F N (fun h' t r _ u => ⟨h', t, rfl, r, u⟩) hk)) (fun _ s₂ q => ?_) fun _ _ q => q.1
  obtain ⟨⟨h', t, rfl, r, u⟩, d⟩ := q
  exact hQ h' t r u d
theorem caught_C {Q : Flow → Shared → Prop} (R : RaisedS base G (envOf name scope L a cd :: outer) e (.type X) t vs news s'.heap) (c₀ : Ctx0 e s'.heap) (F : Fr g L G m) (K : Below A₀ base outer g) (hsm : G.UpToSlots s'.heap) (XB : KF.In base) (TB : Top p loose mean mg mb base)
    (D : KtsDicts (outer.filterMap (·.frame)) g)
    (ex : nsIn KF mainGlobals x = some none) (hv : bootBuiltins x = some (.type T')) (hn' : x ≠ "__name__")
    (hexc : isSubtype (.type T') (.type "BaseException") = pure true) (hnt : isSubtype (.type ((Manifest.find? T').elim "type" fun y => y.metatype)) (.type "tuple") = pure false) (hsub : isSubtype (.type X) (.type T') = pure true)
    (k : ∀ h' g', KtsTurn (outer.filterMap (·.frame)) g g' → Fr g' L h' m → Ctx0 e h' → News g' L h' news → Below A₀ base outer g' → KF.In g' → Top p loose mean mg mb g' → KtsDicts (outer.filterMap (·.frame)) g' →
      wpAny (model prog w) ((A₀.deeper (envOf name scope L a cd)).mark (some (.ref e))) (execs (b₀ :: suite) (envOf name scope L a cd)) Q E { s' with heap := h' })
    (hk : scope.kind = .function := by rfl) (hx : (envOf name scope L a cd).kindOf x = some .globalImplicit := by rfl) (hd : (x == ("__debug__" : Str)) = false := by decide)
    (hE : PassesOwnAt (model prog w) ((A₀.deeper (envOf name scope L a cd)).mark (some (.ref e))) (A₀.deeper (envOf name scope L a cd)) (envOf name scope L a cd) E := by passes_own) :
    wpAny (model prog w) (A₀.deeper (envOf name scope L a cd)) (noteFrame (.ref e) (envOf name scope L a cd))
      (fun _ s₂ => wpAny (model prog w) (A₀.deeper (envOf name scope L a cd)) (setFlight (.ref e) none) (fun _ s₃ =>
        wpAny (model prog w) (A₀.deeper (envOf name scope L a cd)) (handleBy (.ref e) (envOf name scope L a cd) (.ExceptHandler (some (.Name x np)) none (b₀ :: suite) pos :: rest)) Q E s₃) E s₂) E s' := by
  obtain ⟨⟨B, hB, hBG, hl, hfl, hnew⟩, htup⟩ := R
  have hL : B.get? L = none := by
    obtain ⟨_, ⟨L', _, hf, hn', _⟩, _⟩ := hfl.2.2.1
    obtain rfl : L = L' := Option.some.inj hf
    exact hn'
  refine wpAny_mono (strengthen (E := E) (inv_noteFrame _ _) c₀ (wpAny_looks_onW (Q := fun _ s₂ => ∃ h₄, s₂ = { s' with heap := h₄ } ∧ Heap.HeldW B (envOf name scope L a cd :: outer) e (.type X) (.ref t) L h₄ ∧ s'.heap.UpToSlots h₄) (Around.frames_deeper K.stack) rfl hfl fun h₄ u v => ⟨h₄, rfl, u, v⟩)) (fun _ s₂ q => ?_) fun _ _ q => q.1
  obtain ⟨⟨h₄, rfl, hheld₄, hsm₄⟩, c₄⟩ := q
  refine wpAny_mono (strengthen (E := E) (inv_setFlight _ _) c₄ (wpAny_landsW (Q := fun _ s₂ => ∃ h₅, s₂ = { s' with heap := h₅ } ∧ Heap.FlyingW B (envOf name scope L a cd :: outer) e (.type X) (.ref t) h₅ ∧ h₄.UpToSlots h₅) hheld₄ fun h₅ u v => ⟨h₅, rfl, u, v⟩)) (fun _ s₂ q => ?_) fun _ _ q => q.1
  obtain ⟨⟨h₅, rfl, hheld, hsm₅'⟩, c₅⟩ := q
  have hsm₅ := hsm₄.trans hsm₅'
  obtain ⟨g₅, T₅, F₅, K₅⟩ := kts_ground K F hBG hheld.1 (hsm.trans hsm₅)
  have X₅ : KF.In g₅ := XB.keeps K₅.stays
  have P₅ : TopRead p loose mg mb g₅ := topRead_of (TB.keeps K₅.stays)
  obtain ⟨ob, hob, hobc⟩ := hheld.there
  refine wpAny_handleBy_builtin (X := X) (T := T') (b := true) hexc hnt hsub (name_B F₅ X₅ P₅ ex hv hn' ⟨rfl, ⟨ob, hob, hobc⟩, ?_⟩ hk hx hd)
  refine wpAny_mono (strengthen (inv_setFlight _ _) c₅ (lands_againW (Q := fun _ s₂ => ∃ h₆, s₂ = { s' with heap := h₆ } ∧ Heap.FlyingW B (envOf name scope L a cd :: outer) e (.type X) (.ref t) h₆ ∧ h₅.UpToSlots h₆) hheld fun h₆ u v => ⟨h₆, rfl, u, v⟩)) (fun _ s₂ q => ?_) fun _ _ q => q.1
  obtain ⟨⟨h₆, rfl, hfl₆, hsm₆⟩, c₆⟩ := q
  obtain ⟨g₆, T₆, F₆, K₆⟩ := kts_ground K F hBG hfl₆.1 ((hsm.trans hsm₅).trans hsm₆)
  have Nl : News g₆ L h₆ news := fun q hq => ⟨hfl₆.1 _ _ (hl q hq).1, (fun z => by have := (hl q hq).1; rw [z, hL] at this; cases this), T₆.none_ _ (kts_none F.keep (hl q hq).2.1)⟩
  exact wpAny_passesOwnAt hE (k h₆ g₆ T₆ F₆ c₆ Nl K₆ (XB.keeps K₆.stays) (TB.keeps K₆.stays) (D.turn T₆))
end
end Mine
end
section
namespace Mine
theorem kfill5 : (PySem.Challenge.rw_wb0057_01, K) = (PySem.Challenge.rw_wb0057_01, K) := by k_fill; rfl
inductive CharsAre : List Value → List Int → Prop
  | nil : CharsAre [] []
  | cons (n : Int) (t : Tok) {vs ns} : CharsAre vs ns → CharsAre (.str ⟨#[n.toNat]⟩ t :: vs) (n :: ns)
theorem CharsAre.length {vs : List Value} {ns : List Int} (h : CharsAre vs ns) : vs.length = ns.length := by induction h with
  | nil => rfl
  | cons n t _ ih => simp [ih]
theorem dig_len (n : Int) : (dig n).length ≤ 3 := by unfold dig; split <;> (try split) <;> simp
theorem digs_len (ns : List Int) : (ns.flatMap dig).length ≤ 3 * ns.length := by
  induction ns with
  | nil => decide
  | cons n ns ih => have := dig_len n; simp only [List.flatMap_cons, List.length_append, List.length_cons]; omega
section
variable {prog : Program} {w : World} {A : Around} {s : Shared} {E : Value → Shared → Prop} {h₀ : Heap} {L l : Addr} {m : Str → Option Value} {news : List (Addr × Obj)} {items : Array Value}
theorem iter_list {Q : Value → Shared → Prop} (F : Fr h₀ L s.heap m) (N : News h₀ L s.heap news) (hl : h₀.IsList l items)
    (h : ∀ I h', Fr h₀ L h' m → News h₀ L h' ((I, itObj l 0) :: news) → (∀ p ∈ news, p.1 < I) → Q (.ref I) { s with heap := h' }) : wpAny (model prog w) A (call (.builtin "iter") [.ref l]) Q E s := by
  refine call_function_entry (by decide +kernel) (by decide +kernel) kdk_entry_iter (kdk_args_iter _) ?_
  unfold Builtin.«iter»
  refine wpAny_bind (m := someArgs "iter" 1 2 _) (wpAny_of_eq (a := [Value.ref l]) (by first | rfl | kernel_rfl!) ?_)
  show wpAny _ _ (pyIter (.ref l) >>= _) _ _ _
  refine wpAny_bind (wpAny_pyIter_list (hl.at fun o e => F.keep l o e) ?_)
  exact wpAny_pure ⟨_, rfl, h _ _ (F.push _) (News.push F N _ rfl) fun q hq => Heap.lt_size (N q hq).1⟩
theorem len_oct {vs : List Value} {Q : Value → Shared → Prop} (F : Fr h₀ L s.heap m) (hl : h₀.IsList l vs.toArray) (hs : vs.length ≤ 1000) (h : Q (.int (vs.length : Int) (s.toks + 1)) { s with toks := s.toks + 1 + 1 }) :
    wpAny (model prog w) A (call (.builtin "len") [.ref l]) Q E s := by
  refine len_list (hl.at fun o e => F.keep l o e) (by rw [List.size_toArray]; omega) ?_
  rw [List.size_toArray]; exact h
end
local macro_rules | `(tactic| walk_at "call builtin:len") => `(tactic| (k_here; (with_reducible show wpAny _ _ (call (Value.builtin "len") [Value.ref _]) _ _ _); k_dflt (refine' len_oct ?F ?l ?s ?_; (case F => k_asm); (case l => assumption); (case s => omega); k_whole)))
local macro_rules | `(tactic| walk_at "call builtin:iter") => `(tactic| (k_here; (with_reducible show wpAny _ _ (call (Value.builtin "iter") [Value.ref _]) _ _ _); k_dflt (refine' iter_list ?F ?N ?l ?_; (case F => k_asm); (case N => k_asm); (case l => assumption); k_whole; intro I h' F' N' l1; (try k_lt l1))))

-- the contracts as the walk takes them
section
variable {prog : Program} {w : World} {mean : ExcName → Option Value} {mg mb : Str → Option Value} {A : Around} {s : Shared} {E : Value → Shared → Prop} {h₀ : Heap} {L l it : Addr} {m : Str → Option Value} {news news' : List (Addr × Obj)} {items : Array Value} {i : Nat} {d0 d1 d2 : Int} {t0 t1 t2 : Tok} {Q : Value → Shared → Prop}
theorem fr_but {h h' : Heap} (F : Fr h₀ L h m) (k : ∀ b o, b ≠ it → h.get? b = some o → h'.get? b = some o) (hne : it ≠ L) (hn : h₀.get? it = none) : Fr h₀ L h' m := by
  obtain ⟨⟨o, es, ep, a, b⟩, c, d⟩ := F
  refine ⟨⟨o, es, ep, k _ _ (Ne.symm hne) a, b⟩, fun b o e => k b o ?_ (c b o e), d⟩
  rintro rfl; rw [hn] at e; cases e
theorem news_but {h h' : Heap} {o o' : Obj} (N : News h₀ L h news) (U : Upd it o o' news news') (k : ∀ b o, b ≠ it → h.get? b = some o → h'.get? b = some o) (g : h'.get? it = some o') : News h₀ L h' news' := by
  obtain ⟨pre, post, rfl, rfl, a, b⟩ := U.split
  intro p hp
  rcases List.mem_append.mp hp with q | q
  · have P := N p (List.mem_append_left _ q); exact ⟨k _ _ (a p q) P.1, P.2⟩
  · rcases List.mem_cons.mp q with rfl | q
    · exact ⟨g, (N (it, o) (List.mem_append_right _ (.head _))).2⟩
    · have P := N p (List.mem_append_right _ (.tail _ q)); exact ⟨k _ _ (b p q) P.1, P.2⟩
theorem upd_mem {o o' : Obj} (U : Upd it o o' news news') : (it, o) ∈ news := by
  obtain ⟨pre, post, rfl, _⟩ := U.split
  exact List.mem_append_right _ (.head _)
theorem k_varint2 (W : Wd w mean mg mb h₀) (F : Fr h₀ L s.heap m) (N : News h₀ L s.heap news) (U : Upd it (itObj l i) (itObj l (i + 2)) news news') (hA : A.depth < recursionLimit) (hl : h₀.IsList l items)
    (x0 : items[i]? = some (.int d0 t0)) (x1 : items[i + 1]? = some (.int d1 t1)) (r0 : 64 ≤ d0) (r1 : d0 < 128) (r2 : 0 ≤ d1) (r3 : d1 < 64)
    (h : ∀ h' tk t', Fr h₀ L h' m → News h₀ L h' news' → Q (.int ((d0 % 64) * 64 + d1 % 64) t') { s with heap := h', toks := tk }) : wpAny (model prog w) A (call (.ref 28) [.ref it]) Q E s :=
  have hm := N _ (upd_mem U)
  c_varint2 (d2 := 0) (t2 := 0) W F.keep hm.2.2 hA hm.1 (hl.at fun o e => F.keep l o e) x0 x1 r0 r1 r2 r3 fun h' tk t' k g => h h' tk t' (fr_but F k hm.2.1 hm.2.2) (news_but N U k g)
theorem k_varint3 (W : Wd w mean mg mb h₀) (F : Fr h₀ L s.heap m) (N : News h₀ L s.heap news) (U : Upd it (itObj l i) (itObj l (i + 3)) news news') (hA : A.depth < recursionLimit) (hl : h₀.IsList l items)
    (x0 : items[i]? = some (.int d0 t0)) (x1 : items[i + 1]? = some (.int d1 t1)) (x2 : items[i + 1 + 1]? = some (.int d2 t2)) (r0 : 64 ≤ d0) (r1 : d0 < 128) (r2 : 64 ≤ d1) (r3 : d1 < 128) (r4 : 0 ≤ d2) (r5 : d2 < 64)
    (h : ∀ h' tk t', Fr h₀ L h' m → News h₀ L h' news' → Q (.int (((d0 % 64) * 64 + d1 % 64) * 64 + d2 % 64) t') { s with heap := h', toks := tk }) : wpAny (model prog w) A (call (.ref 28) [.ref it]) Q E s :=
  have hm := N _ (upd_mem U)
  c_varint3 W F.keep hm.2.2 hA hm.1 (hl.at fun o e => F.keep l o e) x0 x1 x2 r0 r1 r2 r3 r4 r5 fun h' tk t' k g => h h' tk t' (fr_but F k hm.2.1 hm.2.2) (news_but N U k g)
end
def Hold (P : Prop) : Prop := P
theorem hold {P : Prop} (h : Hold P) : P := h
def CJ (x : Str) (m₀ : Str → Option Value) (ns : List Int) (S I l : Addr) (i : Nat) (m₁ : Str → Option Value) (nx : List (Addr × Obj)) : Prop :=
  (∀ y, y ≠ x → m₁ y = m₀ y) ∧ ∃ vs ep, CharsAre vs (ns.take i) ∧ i ≤ ns.length ∧ nx = [(S, PySem.W.listOf vs.toArray ep), (I, itObj l (((ns.take i).flatMap dig).length))]
theorem cards_turns {prog : Program} {w : World} {A : Around} {E : Value → Shared → Prop} {s : Shared} {env : Env} {h₀ : Heap} {x : Str} {body : List Stmt} {Q : Flow → Shared → Prop} {r l S I : Addr} {m₀ : Str → Option Value} {ns : List Int} {k : Nat} {t₀ u₀ v₀ : Tok}
    (hh : A.handled = none) (hr : IsRange s.heap r 0 ((k : Int) + 1) 1 t₀ u₀ v₀) (F : Fr h₀ env.locals s.heap m₀) (N : News h₀ env.locals s.heap [(S, PySem.W.listOf #[] 0), (I, itObj l 0)]) (hk : ns.length ≤ k) (hk2 : k < 1000)
    (turn : ∀ i j t h tk own vs ep, (hi : i < ns.length) → CharsAre vs (ns.take i) → OwnOff own [S, I] → Fr h₀ env.locals h (fun y => if y = x then some (.int j t) else m₀ y) →
      News h₀ env.locals h ((S, PySem.W.listOf vs.toArray ep) :: (I, itObj l (((ns.take i).flatMap dig).length)) :: own) →
      wpAny (model prog w) A (execs body env) (InvPostN h₀ env.locals (CJ x m₀ ns S I l (i + 1)) own [S, I] { s with heap := h, toks := tk } Q) E { s with heap := h, toks := tk })
    (stop : ∀ j t h tk own vs ep, CharsAre vs ns → OwnOff own [S, I] → Fr h₀ env.locals h (fun y => if y = x then some (.int j t) else m₀ y) →
      News h₀ env.locals h ((S, PySem.W.listOf vs.toArray ep) :: (I, itObj l ((ns.flatMap dig).length)) :: own) →
      wpAny (model prog w) A (execs body env) (InvPostN h₀ env.locals (CJ x m₀ ns S I l (ns.length + 1)) own [S, I] { s with heap := h, toks := tk } Q) E { s with heap := h, toks := tk }) :
    wpAny (model prog w) A (pyIter (.ref r)) (fun it s₂ => LoopAtV prog w A h₀ env x body Q E it s₂) E s := by
  have hn : Builtin.Range.rangeSize 0 ((k : Int) + 1) 1 = ((k + 1 : Nat) : Int) := by
    unfold Builtin.Range.rangeSize
    rw [if_pos (by decide), if_pos (by omega)]
    omega
  have q : ∀ z : Int, 0 ≤ z → z < 5000 → Builtin.Range.rangeFitsLong z = true := fun z a b => by unfold Builtin.Range.rangeFitsLong; simp; omega
  have hsm : Builtin.Range.small 0 ((k : Int) + 1) 1 = true := by
    unfold Builtin.Range.small
    rw [hn, if_pos (by decide), q 0 (by omega) (by omega), q ((k : Int) + 1) (by omega) (by omega), q 1 (by omega) (by omega), q ((k + 1 : Nat) : Int) (by omega) (by omega), q ((k : Int) + 1 + (1 - 1)) (by omega) (by omega)]
    simp
  refine kpr_invN (CJ x m₀ ns S I l) hh hr hsm hn F N ⟨fun _ _ => rfl, [], 0, .nil, Nat.zero_le _, rfl⟩ ?_ ?_
  · rintro i j t m₁ nx h tk own hj ho ⟨hm, vs, ep, hc, hi, rfl⟩ F' N'
    have e : (fun y => if y = x then some (Value.int j t) else m₁ y) = fun y => if y = x then some (Value.int j t) else m₀ y := by
      funext y
      by_cases q : y = x
      · simp [q]
      · simp only [if_neg q]; exact hm y q
    rw [e] at F'
    rcases Nat.lt_or_eq_of_le hi with q | rfl
    · exact turn i j t h tk own vs ep q hc ho F' N'
    · rw [List.take_length] at hc N'
      exact stop j t h tk own vs ep hc ho F' N'
  · rintro m₁ nx h tk ⟨_, _, _, _, hle, _⟩
    rw [rangeKs_length] at hle
    omega
theorem digs_ge (ns : List Int) : ns.length ≤ (ns.flatMap dig).length := by
  induction ns with
  | nil => decide
  | cons n ns ih =>
    have : 1 ≤ (dig n).length := by unfold dig; split <;> (try split) <;> simp
    simp only [List.flatMap_cons, List.length_append, List.length_cons]; omega
theorem oct_at {vs : List Value} {ns : List Int} (hv : IntsAre vs (ns.flatMap dig)) {i : Nat} (hi : i < ns.length) {j : Nat} {d : Int} (hj : (dig ns[i])[j]? = some d) : ∃ t, vs.toArray[((ns.take i).flatMap dig).length + j]? = some (.int d t) := by
  have e : ns = ns.take i ++ ns[i] :: ns.drop (i + 1) := by rw [← List.drop_eq_getElem_cons hi, List.take_append_drop]
  have q : (ns.flatMap dig)[((ns.take i).flatMap dig).length + j]? = some d := by
    generalize ns[i] = n at e hj
    rw [e, List.flatMap_append, List.flatMap_cons, List.getElem?_append_right (by rw [← e]; omega), ← e, Nat.add_sub_cancel_left, List.getElem?_append_left]
    · exact hj
    · exact (List.getElem?_eq_some_iff.mp hj).1
  obtain ⟨t, ht⟩ := hv.get _ _ q
  exact ⟨t, by simpa using ht⟩
theorem CharsAre.snoc {vs : List Value} {ns : List Int} (h : CharsAre vs ns) (n : Int) (t : Tok) : CharsAre (vs ++ [.str ⟨#[n.toNat]⟩ t]) (ns ++ [n]) := by
  induction h with
  | nil => exact .cons _ _ .nil
  | cons n' t' _ ih => exact .cons _ _ ih
theorem CharsAre.at {vs : List Value} {ns : List Int} (h : CharsAre vs ns) : ∀ {i : Nat} {v : Value}, vs[i]? = some v → ∃ n t, n ∈ ns ∧ v = .str ⟨#[n.toNat]⟩ t := by
  induction h with
  | nil => intro i v e; cases e
  | cons n t _ ih =>
    intro i v e
    cases i with
    | zero => cases e; exact ⟨n, t, .head _, rfl⟩
    | succ i => obtain ⟨n', t', a, b⟩ := ih (i := i) (v := v) (by simpa using e); exact ⟨n', t', .tail _ a, b⟩
def isCard (v : Value) : Bool := match v with
  | .str x _ => !inB1 (x.cps.getD 0 0 : Nat)
  | _ => false
theorem CharsAre.filter {vs : List Value} {ns : List Int} (h : CharsAre vs ns) : CharsAre (vs.filter isCard) (ns.filter fun n => !inB1 (n.toNat : Nat)) := by
  induction h with
  | nil => exact .nil
  | cons n t _ ih =>
    have e : isCard (.str ⟨#[n.toNat]⟩ t) = !inB1 (n.toNat : Nat) := rfl
    simp only [List.filter_cons, e]
    split
    · exact .cons n t ih
    · exact ih
theorem paired_eq : ∀ {l₁ l₂ : List Value}, Paired (fun v y => y = v) l₁ l₂ → l₂ = l₁
  | _, _, .nil => rfl
  | _, _, .cons h r => by rw [h, paired_eq r]
theorem cj_end {h₀ h' : Heap} {L S I l : Addr} {x : Str} {m₀ : Str → Option Value} {v : Value} {own : List (Addr × Obj)} {ns : List Int} {vs : List Value} {i z ep q tk : Nat} {t : Tok} {s₁ : Shared} {Q : Flow → Shared → Prop}
    (F : Fr h₀ L h' (fun y => if y = x then some v else m₀ y)) (N : News h₀ L h' ((S, PySem.W.listOf (vs.toArray.push (.str ⟨#[z]⟩ t)) ep) :: (I, itObj l q) :: own)) (hc : CharsAre vs (ns.take i)) (hi : i < ns.length) (hz : z = ns[i].toNat) (hq : q = ((ns.take i).flatMap dig).length + (dig ns[i]).length) :
    InvPostN h₀ L (CJ x m₀ ns S I l (i + 1)) own [S, I] s₁ Q .next { s₁ with heap := h', toks := tk } := by
  have e : ns.take (i + 1) = ns.take i ++ [ns[i]] := by rw [List.take_add_one, List.getElem?_eq_getElem hi]; rfl
  subst hz hq
  refine ⟨h', tk, _, _, [(S, PySem.W.listOf (vs.toArray.push (.str ⟨#[ns[i].toNat]⟩ t)) ep), (I, itObj l (((ns.take i).flatMap dig).length + (dig ns[i]).length))], rfl, F, N, fun p hp => ?_, fun p hp => .tail _ (.tail _ hp), rfl, fun y hy => if_neg hy, vs ++ [.str ⟨#[ns[i].toNat]⟩ t], ep, ?_, hi, ?_⟩
  · rcases List.mem_cons.mp hp with rfl | hp
    · exact .head _
    · rw [List.mem_singleton.mp hp]; exact .tail _ (.head _)
  · rw [e]; exact hc.snoc _ _
  · rw [e, List.flatMap_append, List.length_append]; simp
theorem isExc_Stop : isSubtype (.type "StopIteration") (.type "BaseException") = pure true := by rw [isSubtype_type]; kernel_rfl
theorem isSub_Stop : isSubtype (.type "StopIteration") (.type "StopIteration") = pure true := by rw [isSubtype_type]; kernel_rfl
theorem notTuple_Stop : isSubtype (.type ((Manifest.find? "StopIteration").elim "type" fun x => x.metatype)) (.type "tuple") = pure false := by
  rw [show ((Manifest.find? "StopIteration").elim "type" fun x => x.metatype) = "type" from by kernel_rfl, isSubtype_type]; kernel_rfl
local macro_rules | `(tactic| walk_at "leaving ref") => `(tactic| (k_here; (refine' leave_raiseC ?k1 ?k0 ?k2 ?k3 ?_; (case k0 => assumption); (case k2 => assumption); (case k1 => assumption); (case k3 => k_asm); k_whole; intro h' t' S' U' C'; (try dsimp only at S' U' C' ⊢))))
local macro_rules | `(tactic| walk_at "noteFrame ref") => `(tactic| (k_here; k_dflt (
  (refine' caught_C (T' := "StopIteration") ?R ?c ?F ?K ?U ?XB ?TB ?D ?ex PyProof.Rows.Boot.«StopIteration» ?hn isExc_Stop notTuple_Stop isSub_Stop ?_; (case R => assumption); (case c => assumption); (case F => assumption); (case K => assumption); (case U => assumption); (case XB => assumption); (case TB => assumption); (case D => assumption); (case ex => k_is); (case hn => decide); k_whole)); intro h' g' T' F' C' N' K' X' P' D'))
local macro_rules | `(tactic| walk_at "call ref") => `(tactic| (k_here; (with_reducible show wpAny _ _ (call (Value.ref 46) _) _ _ _); (refine c_inb1 (by assumption) (by first | k_room | decide) ?_; intro h' tk' k')))
local macro_rules | `(tactic| walk_at "eval Name") => `(tactic| (k_here; (with_reducible show wpAny _ _ (eval (Expr.Name _ _) (compEnv _ _ _)) _ _ _); (refine nameG_K ?F ?X ?T ?e ?_ rfl rfl rfl (by decide); (case F => k_asm); (case X => k_asm); (case T => exact topRead_of (by k_asm)); (case e => k_is); k_whole)))
local macro_rules | `(tactic| walk_at "pyIter ref") => `(tactic| (refine hold ?_))
local macro_rules | `(tactic| walk_at "call builtin:next") => `(tactic| (k_here; (with_reducible show wpAny _ _ (call (Value.builtin "next") [Value.ref _]) _ _ _); k_dflt (refine' next_stop ?A ?F ?N ?U ?l ?x ?_; (case A => exact rfl); (case F => k_asm); (case N => k_asm); (case U => k_upd); (case l => first | assumption | exact Heap.IsList.at (by assumption) (fun _ e => Fr.keep (by k_asm) _ _ e)); (case x => assumption); k_whole; intro h₁' h' e' F' N' X')))
local macro_rules | `(tactic| walk_at "InvPostN") => `(tactic| (refine hold ?_))
local macro_rules | `(tactic| walk_at "call ref") => `(tactic| (k_here; (with_reducible show wpAny _ _ (call (Value.ref 28) _) _ _ _); k_dflt (first
  | (refine' k_varint2 ?W ?F ?N ?U ?A ?l ?x0 ?x1 ?r0 ?r1 ?r2 ?r3 ?_; (case F => k_asm); (case W => assumption); (case N => k_asm); (case U => k_upd); (case A => k_room); (case l => assumption); (case x0 => assumption); (case x1 => assumption); (case r0 => omega); (case r1 => omega); (case r2 => omega); (case r3 => omega); k_whole; intro h' tk' t' F' N')
  | (refine' k_varint3 ?W ?F ?N ?U ?A ?l ?x0 ?x1 ?x2 ?r0 ?r1 ?r2 ?r3 ?r4 ?r5 ?_; (case F => k_asm); (case W => assumption); (case N => k_asm); (case U => k_upd); (case A => k_room); (case l => assumption); (case x0 => assumption); (case x1 => assumption); (case x2 => assumption); (case r0 => omega); (case r1 => omega); (case r2 => omega); (case r3 => omega); (case r4 => omega); (case r5 => omega); k_whole; intro h' tk' t' F' N'))))
set_option maxRecDepth 100000 in
set_option maxHeartbeats 4000000 in
theorem c_cards {prog : Program} {w : World} {mean} {mg mb : Str → Option Value} {s : Shared} {Q : Value → Shared → Prop} {E : Value → Shared → Prop} {e1 e2 : Env} {base : Heap} {l : Addr} {vs : List Value} {ns : List Int}
    (W : Wd w mean mg mb s.heap) (WB : Wd w mean mg mb base) (B : Below ((callerA.deeper e1).deeper e2) base [e2, e1] s.heap) (D : KtsDicts ([e2, e1].filterMap (·.frame)) s.heap) (hl : s.heap.IsList l vs.toArray) (hi : IntsAre vs (ns.flatMap dig)) (hn : ∀ n ∈ ns, 64 ≤ n ∧ n < 262144) (hsz : ns.length ≤ 6)
    (h : ∀ h' g' tk a vs ep, KtsTurn ([e2, e1].filterMap (·.frame)) s.heap g' → g'.StaysIn h' → s.heap.get? a = none → h'.get? a = some (PySem.W.listOf vs.toArray ep) → CharsAre vs (ns.filter fun n => !inB1 (n.toNat : Nat)) → Q (.ref a) { s with heap := h', toks := tk }) :
    wpAny (model prog w) ((callerA.deeper e1).deeper e2) (call (.ref 104) [.ref l]) Q E s := by
  have KX := W.X
  have T := W.T
  have XB := WB.X
  have TB := WB.T
  refine wpAny_call ?_
  refine call_plain (binds := [(Str.ofString "octets", .ref l)]) (by k_room) (KX 104 _ (by k_is)) rfl T.nolimit (codeRec_of KX (by k_is)) rfl ?hl (fun h₁ F => ?_) rfl rfl rfl ?hc
  case hc => decide
  case hl => exact locs rfl
  have N : News s.heap s.heap.objs.size h₁ [] := News.nil
  have hln : vs.length ≤ 18 := by have := digs_len ns; rw [hi.length]; omega
  k_steps
  unfold Hold
  (rename Fr _ _ _ _ => FF)
  (rename News _ _ _ _ => NN)
  (rename IsRange _ _ _ _ _ _ _ _ => RR)
  refine cards_turns (ns := ns) rfl RR FF NN ?hk1 ?hk2 ?turn ?stop
  case hk1 => exact digs_ge ns
  case hk2 => have := digs_len ns; omega
  case turn =>
    clear FF NN RR
    intro i j t2 h2 tk2 own vs2 ep2 hi2 hc2 ho2 F2 N2
    change Fr s.heap s.heap.objs.size h2 _ at F2
    change News s.heap s.heap.objs.size h2 _ at N2
    obtain ⟨p, hp⟩ : ∃ p, p = ((ns.take i).flatMap dig).length := ⟨_, rfl⟩
    obtain ⟨n, hn0⟩ : ∃ n, n = ns[i] := ⟨_, rfl⟩
    have hb := hn n (hn0 ▸ List.getElem_mem _)
    have hx := fun (j : Nat) (d : Int) (q : (dig n)[j]? = some d) => oct_at (by assumption) hi2 (hn0 ▸ q)
    rw [← hp] at N2 hx
    have hvl : vs2.length ≤ 6 := by have := hc2.length; have := List.length_take_le i ns; omega
    have hd := dig_def n
    rw [if_neg (by omega)] at hd
    by_cases h4 : n < 4096
    · rw [if_pos h4] at hd
      obtain ⟨ta, xa⟩ := hx 0 (n / 64 % 64 + 64) (by rw [hd]; rfl)
      obtain ⟨tb, xb⟩ := hx 1 (n % 64) (by rw [hd]; rfl)
      rw [Nat.add_zero] at xa
      k_steps
      unfold Hold
      (rename Fr _ _ _ _ => FF)
      (rename News _ _ _ _ => NN)
      exact cj_end FF NN hc2 hi2 (by rw [← hn0]; omega) (by rw [← hn0, hd, ← hp]; rfl)
    · rw [if_neg h4] at hd
      obtain ⟨ta, xa⟩ := hx 0 (n / 64 / 64 % 64 + 64) (by rw [hd]; rfl)
      obtain ⟨tb, xb⟩ := hx 1 (n / 64 % 64 + 64) (by rw [hd]; rfl)
      obtain ⟨tc, xc⟩ := hx 2 (n % 64) (by rw [hd]; rfl)
      rw [Nat.add_zero] at xa
      rw [show p + 2 = p + 1 + 1 from rfl] at xc
      k_steps
      unfold Hold
      (rename Fr _ _ _ _ => FF)
      (rename News _ _ _ _ => NN)
      exact cj_end FF NN hc2 hi2 (by rw [← hn0]; omega) (by rw [← hn0, hd, ← hp]; rfl)
  case stop =>
    clear FF NN RR
    intro j t2 h2 tk2 own vs2 ep2 hc2 ho2 F2 N2
    change Fr s.heap s.heap.objs.size h2 _ at F2
    change News s.heap s.heap.objs.size h2 _ at N2
    have hx : vs.toArray[(ns.flatMap dig).length]? = none := by
      (rename IntsAre _ _ => hv)
      rw [List.getElem?_toArray, List.getElem?_eq_none]; rw [hv.length]; exact Nat.le_refl _
    generalize (ns.flatMap dig).length = p at N2 hx
    have hvl : vs2.length ≤ 6 := by have := hc2.length; omega
    k_steps
    unfold Hold
    (rename Fr _ _ _ _ => FF)
    (rename News _ _ _ _ => NN)
    (rename Ctx0 _ _ => CC)
    refine comp_marked isCard (fun v y => y = v) rfl ⟨_, NN.get (.head _), rfl, _, rfl⟩ CC (by rw [List.size_toArray, sizeLine_eq]; omega) ?qq ?hh
    case qq =>
      constructor
      · intro C i v s₃ m₃ E' hP hns' hx' hk' ht'
        have kk : ∀ b o, _ → s₃.heap.get? b = some o := fun b o (e : Heap.get? _ b = some o) => hk' b o (by simp; exact Nat.ne_of_lt (Heap.lt_size e)) (Heap.get?_push_of_some _ e)
        have F3 := Fr.mk (FF.ns.keeps kk) (fun b o e => kk b o (FF.keep b o e)) FF.above
        obtain ⟨n, t, hmem, rfl⟩ := hc2.at (by simpa using hP)
        (rename Below _ _ _ _ => BB)
        have W3 := WB.keeps fun b o e => F3.keep b o (BB.stays b o e)
        k_steps
        all_goals exact ⟨_, _, rfl, by assumption⟩
      · intro C i v s₃ m₃ E' hP hpv hns' hx' hk' ht'
        k_steps
        all_goals exact ⟨_, _, rfl, fun _ _ e => e⟩
    case hh =>
      intro D h3 tk3 ys hD hpl hpr hk3
      obtain ⟨ep3, hpl⟩ := hpl
      have e3 := paired_eq hpr
      (rename KtsTurn _ _ _ => TT)
      have hD0 : s.heap.get? D = none := by
        cases q : s.heap.get? D with
        | none => rfl
        | some o => obtain ⟨sl, q2⟩ := TT.up q; rw [FF.keep _ _ q2] at hD; cases hD
      k_steps
      unfold Hold
      refine h h3 _ tk3 D ys.toList ep3 TT (fun b o e => hk3 b o (FF.keep b o e)) hD0 hpl ?_
      rw [e3]
      exact hc2.filter
end Mine
end
section
namespace Mine
theorem kfill9 : (PySem.Challenge.rw_wb0057_01, K) = (PySem.Challenge.rw_wb0057_01, K) := by k_fill; rfl
section
variable {prog : Program} {w : World} {A : Around} {s : Shared} {E : Value → Shared → Prop} {R : Result → Shared → Prop} {name qual : Str} {params : Arguments} {body : List Stmt} {scope : Scope} {dV kV doc pm cdv ct oc : Value} {an od : Option Addr} {osl : Array (Option Value)} {f : Addr} {fo : Obj} {args : Args} {binds : List (Str × Value)}
theorem call_cells (hlim : s.heap.NoLimit) (ho : s.heap.get? f = some fo) (hd : fo.data = .func (fnX name qual params body scope [] dV kV doc pm an cdv ct)) (hcd : s.heap.CodeRec cdv qual) (hroom : A.depth < recursionLimit)
    (hbind : BindsTo s (fnX name qual params body scope [] dV kV doc pm an cdv ct) args binds)
    (hkind : ∀ n, ∀ x ∈ binds, scope.names.lookup x.1 = some .local ∨ (scope.names.lookup x.1 = some .cell ∧ ((cellsFrom n scope.names []).lookup x.1).isSome = true))
    (hnd : ((cellsFrom 0 scope.names []).map (·.1)).Nodup)
    (h : ∀ h₁ tk cells, Fr s.heap s.heap.objs.size h₁ (bindL (envOfC qual scope s.heap.objs.size f cdv).kindOf binds fun _ => none) → News s.heap s.heap.objs.size h₁ cells →
      CellsAre (bindC (envOfC qual scope s.heap.objs.size f cdv).kindOf binds fun _ => none) (cellsFrom (s.heap.objs.size + 1) scope.names []) cells →
      wpAny (model prog w) (A.deeper (envOfC qual scope s.heap.objs.size f cdv)) (execs body (envOfC qual scope s.heap.objs.size f cdv))
        (fun fl s' => R (.ok (.ret (match fl with | .ret v => v | _ => .none))) s')
        (fun e s' => wpAny (model prog w) (A.deeper (envOfC qual scope s.heap.objs.size f cdv)) (leaving (envOfC qual scope s.heap.objs.size f cdv) e) (fun _ s'' => R (.error e) s'') (fun e' s'' => R (.error e') s'') s')
        { s with heap := h₁, toks := tk })
    (hco : scope.isCoroutine = false := by rfl) (hgen : scope.isGenerator = false := by rfl) (hk : scope.kind = .function := by rfl) : codeAny (model prog w) A (.call (.ref f) args) R s := by
  refine codeAny_call_function hroom ho hd hco hgen rfl hcd (hbind _ _ _ _ ?_)
  refine wpAny_newFunctionEnv_cells hk (hkind _) fun env' he s' x => ?_
  subst he
  refine ⟨hlim.keeps x.toInCall.keep, codeAny_func ?_⟩
  obtain ⟨h₁, tk, rfl, _⟩ := x.done
  have hk₁ := x.toInCall.keep
  obtain ⟨cells, NC, Y⟩ := Cl.news (h₀ := s.heap) (Nat.le_refl _) fun n c hm => ⟨x.cell n c (lookup_of_mem_nodup (cellsFrom_names scope.names 0 (s.heap.objs.size + 1) [] [] rfl ▸ hnd) hm), x.above n c hm⟩
  exact h h₁ tk cells ⟨x.toInCall.ns, hk₁, Nat.le_refl _⟩ NC Y
end
section
variable {A : Around} {base h₀ h h' g' : Heap} {outer : List Env} {env : Env} {L : Addr} {m : Str → Option Value} {news : List (Addr × Obj)} {fs : List Addr}
theorem below_push (K : Below A base outer h₀) (F : Fr h₀ L h m) (hf : env.frame = some L) (hk : env.scope.kind = .function) : Below (A.deeper env) base (env :: outer) h := by
  have hnew : base.get? L = none := by
    cases hq : base.get? L with
    | none => rfl
    | some o => exact absurd (Nat.lt_of_lt_of_le (Heap.lt_size (K.stays L o hq)) F.above) (Nat.lt_irrefl _)
  refine ⟨Around.frames_deeper K.stack, fun b o e => F.keep b o (K.stays b o e), ?_⟩
  exact .cons (by rw [hk]; decide) hf F.ns hnew (K.frames.of_keeps fun b o e _ => ⟨o, F.keep b o e, rfl⟩)
theorem below_turn (B : Below A base outer h₀) {G : Heap} (T : KtsTurn (outer.filterMap (·.frame)) h₀ G) : Below A base outer G := by
  refine ⟨B.stack, fun b o e => T.other b o (B.stays b o e) fun m => ?_, B.frames.of_keeps fun b o e _ => ?_⟩
  · rw [(B.frames.mem m).1] at e; cases e
  · obtain ⟨sl, q⟩ := T.up e; exact ⟨_, q, rfl⟩
theorem list_turn {l : Addr} {its : Array Value} {G : Heap} (T : KtsTurn fs h₀ G) (hl : h₀.IsList l its) : G.IsList l its := by
  obtain ⟨o, a, b, n, c⟩ := hl
  obtain ⟨sl, q⟩ := T.up a
  exact ⟨_, q, b, n, c⟩
theorem turn_ground (F : Fr h₀ L h m) (T : KtsTurn (L :: fs) h g') (S : g'.StaysIn h') (D : KtsDicts fs h₀) : ∃ G, KtsTurn fs h₀ G ∧ G.StaysIn h' ∧ Fr G L h' m := by
  have hL : h₀.get? L = none := by
    cases q : h₀.get? L with
    | none => rfl
    | some o => exact absurd (Nat.lt_of_lt_of_le (Heap.lt_size q) F.above) (Nat.lt_irrefl _)
  have ne : ∀ b o, h₀.get? b = some o → b ≠ L := fun b o e z => by rw [z, hL] at e; cases e
  obtain ⟨T', S'⟩ := kts_turn_at (h := h') (fs := fs) (g := h₀) (fun b hb => by obtain ⟨o, _, _, e, _⟩ := D b hb; exact ⟨o, e⟩)
    (fun b o e hb => S b o (T.other b o (F.keep b o e) (fun z => by rcases List.mem_cons.mp z with z | z; exact ne b o e z; exact hb z)))
    (fun b o e hb => by obtain ⟨sl, q⟩ := T.frame b o (F.keep b o e) (.tail _ hb); exact ⟨sl, S _ _ q⟩)
  refine ⟨_, T', S', ?_, S', by rw [T'.size]; exact F.above⟩
  obtain ⟨o, es, ep, a, b, c⟩ := F.ns
  obtain ⟨sl, q⟩ := T.frame L o a (.head _)
  exact ⟨_, es, ep, S _ _ q, b, c⟩
theorem turn_news (N : News h₀ L h news) (T : KtsTurn (L :: fs) h g') (S : g'.StaysIn h') (D : KtsDicts fs h₀) {G : Heap} (T' : KtsTurn fs h₀ G) : News G L h' news := fun p hp => by
  refine ⟨S _ _ (T.other _ _ (N p hp).1 fun z => ?_), (N p hp).2.1, T'.none_ _ (N p hp).2.2⟩
  rcases List.mem_cons.mp z with z | z
  · exact (N p hp).2.1 z
  · obtain ⟨o, _, _, e, _⟩ := D _ z
    rw [(N p hp).2.2] at e; cases e
end
section
variable {prog : Program} {w : World} {mean : ExcName → Option Value} {mg mb : Str → Option Value} {s : Shared} {E : Value → Shared → Prop} {base h₀ : Heap} {e1 env : Env} {L l : Addr} {m : Str → Option Value} {news : List (Addr × Obj)} {vs : List Value} {ns : List Int} {Q : Value → Shared → Prop}
theorem k_cards (hf : env.frame = some L) (hk : env.scope.kind = .function) (WB : Wd w mean mg mb base) (B : Below (callerA.deeper e1) base [e1] h₀) (D : KtsDicts ([e1].filterMap (·.frame)) h₀) (F : Fr h₀ L s.heap m) (N : News h₀ L s.heap news)
    (hl : h₀.IsList l vs.toArray) (hi : IntsAre vs (ns.flatMap dig)) (hn : ∀ n ∈ ns, 64 ≤ n ∧ n < 262144) (hsz : ns.length ≤ 6)
    (h : ∀ G h' tk a vs' ep, KtsTurn ([e1].filterMap (·.frame)) h₀ G → Fr G L h' m → News G L h' ((a, PySem.W.listOf vs'.toArray ep) :: news) → (∀ p ∈ news, p.1 ≠ a) → Below (callerA.deeper e1) base [e1] G → Wd w mean mg mb G → CharsAre vs' (ns.filter fun n => !inB1 (n.toNat : Nat)) → Q (.ref a) { s with heap := h', toks := tk }) :
    wpAny (model prog w) ((callerA.deeper e1).deeper env) (call (.ref 104) [.ref l]) Q E s := by
  have st : base.StaysIn s.heap := fun b o e => F.keep b o (B.stays b o e)
  have ef : [env, e1].filterMap (·.frame) = L :: [e1].filterMap (·.frame) := by simp [List.filterMap_cons, hf]
  have D' : KtsDicts ([env, e1].filterMap (·.frame)) s.heap := by
    rw [ef]
    intro b hb
    rcases List.mem_cons.mp hb with rfl | hb
    · obtain ⟨o, es, ep, a, b, _⟩ := F.ns; exact ⟨o, es, ep, a, b⟩
    · obtain ⟨o, es, n, a, b⟩ := D _ hb; exact ⟨o, es, n, F.keep _ _ a, b⟩
  refine c_cards (WB.keeps st) WB (below_push B F hf hk) D' (hl.at fun o e => F.keep l o e) hi hn hsz fun h' g' tk a vs' ep T S ha hb hc => ?_
  rw [ef] at T
  obtain ⟨G, T', S', F'⟩ := turn_ground F T S D
  have N' := turn_news N T S D T'
  have B' := below_turn B T'
  refine h G h' tk a vs' ep T' F' (fun p hp => ?_) (fun p hp z => ?_) B' (WB.keeps B'.stays) hc
  · rcases List.mem_cons.mp hp with rfl | hp
    · refine ⟨hb, fun z => ?_, T'.none_ _ ?_⟩
      · obtain ⟨o, _, _, q, _⟩ := F.ns
        rw [show a = L from z] at ha
        rw [ha] at q; cases q
      · cases q : h₀.get? a with
        | none => rfl
        | some o => have := F.keep _ _ q; rw [ha] at this; cases this
    · exact N' p hp
  · have := (N p hp).1; rw [z, ha] at this; cases this
end
theorem CharsAre.inv3 {vs : List Value} {a b c : Int} (h : CharsAre vs [a, b, c]) : ∃ t u v, vs = [.str ⟨#[a.toNat]⟩ t, .str ⟨#[b.toNat]⟩ u, .str ⟨#[c.toNat]⟩ v] := by
  cases h with
  | cons _ t h => cases h with
    | cons _ u h => cases h with
      | cons _ v h => cases h with
        | nil => exact ⟨t, u, v, rfl⟩
def mapped (c : Nat) : Str := match b3pairs.lookup (c : Int) with
  | some v => v
  | none => Txt.lower ⟨#[c]⟩
def cmpN (x y : Nat) : Int := (if y < x then 1 else 0) - (if x < y then 1 else 0)
theorem k_map {prog : Program} {w : World} {mean} {mg mb : Str → Option Value} {A : Around} {s : Shared} {Q : Value → Shared → Prop} {E : Value → Shared → Prop} {c : Nat} {t : Tok} {h₀ : Heap} {L : Addr} {m : Str → Option Value} {news : List (Addr × Obj)} {z : Nat}
    (F : Fr h₀ L s.heap m) (N : News h₀ L s.heap news) (W : Wd w mean mg mb h₀) (hA : A.depth < recursionLimit) (hv : mapped c = ⟨#[z]⟩)
    (h : ∀ h' tk t', Fr h₀ L h' m → News h₀ L h' news → Q (.str ⟨#[z]⟩ t') { s with heap := h', toks := tk }) :
    wpAny (model prog w) A (call (.ref 92) [.str ⟨#[c]⟩ t]) Q E s := by
  have W' := W.keeps F.keep
  have fin : ∀ h' tk t', s.heap.StaysIn h' → Q (.str (mapped c) t') { s with heap := h', toks := tk } := fun h' tk t' k => by
    rw [hv]; exact h h' tk t' ⟨F.ns.keeps k, fun b o e => k b o (F.keep b o e), F.above⟩ fun p hp => ⟨k _ _ (N p hp).1, (N p hp).2⟩
  unfold mapped at fin
  cases q : b3pairs.lookup (c : Int) with
  | some v => rw [q] at fin; exact c_map W' hA v q fin
  | none => rw [q] at fin; exact c_map0 W' hA q fin
theorem lt_one (x y : Nat) : ([x] : List Nat) < [y] ↔ x < y := by
  rw [List.cons_lt_cons_iff]
  exact ⟨fun h => h.elim id fun h => absurd h.2 (by decide), Or.inl⟩
theorem k_coll {prog : Program} {w : World} {mean} {mg mb : Str → Option Value} {A : Around} {s : Shared} {Q : Value → Shared → Prop} {E : Value → Shared → Prop} {x y : Nat} {t u : Tok} {h₀ : Heap} {L : Addr} {m : Str → Option Value} {news : List (Addr × Obj)}
    (F : Fr h₀ L s.heap m) (N : News h₀ L s.heap news) (W : Wd w mean mg mb h₀) (hA : A.depth < recursionLimit)
    (h : ∀ h' tk t', Fr h₀ L h' m → News h₀ L h' news → Q (.int (cmpN x y) t') { s with heap := h', toks := tk }) :
    wpAny (model prog w) A (call (.ref 21) [.str ⟨#[x]⟩ t, .str ⟨#[y]⟩ u]) Q E s := by
  refine c_strcoll (W.keeps F.keep) hA fun h' tk t' k => ?_
  have := h h' tk t' ⟨F.ns.keeps k, fun b o e => k b o (F.keep b o e), F.above⟩ fun p hp => ⟨k _ _ (N p hp).1, (N p hp).2⟩
  unfold cmpN at this
  simp only [← lt_one] at this
  exact this
end Mine
end
section
open LCg (NsObj lst)
namespace Mine
section
variable {prog : Program} {w : World} {A : Around} {E : Value → Shared → Prop} {s : Shared} {env : Env} {h₀ : Heap} {L : Addr} {m : Str → Option Value} {news : List (Addr × Obj)}
theorem comp_env {M : Model} {scope : Scope} {globals : Addr} {cl : List (Str × Addr)} {qual : Str} {Q : Env → Shared → Prop}
    (h : Q { scope := scope, locals := s.heap.objs.size, globals := globals, cells := cellsFrom (s.heap.objs.size + 1) scope.names cl, qual := qual, func := none, code := env.code, frame := env.frame, builtins := env.builtins } { s with heap := pushCells (s.heap.push { cls := .type "dict", data := .dict #[] }) scope.names }) :
    wpAny M A (newFunctionEnv scope globals cl [] qual none .none (some env)) Q E s := by
  simp only [newFunctionEnv, Option.isSome_some, if_true]
  refine wpAny_bind (wpAny_alloc ?_)
  refine wpAny_bind (wpAny_layCells _ (fun name kind cells => by cases hkc : kind == NameKind.cell <;> simp [hkc]) _ _ _ _ ?_)
  dsimp only
  rw [Heap.size_push]
  simp only [List.forIn_nil]
  exact wpAny_bind (wpAny_pure (wpAny_pure h))
theorem nN {a b : Addr} (h : @Ne Nat a b) : a ≠ b := h
abbrev cellO (v : Option Value) : Obj := { cls := .type "cell", data := .cell v }
def CellEnd (h₀ : Heap) (L : Addr) (m : Str → Option Value) (all : List (Addr × Obj)) (s : Shared) (F : Value → Prop) (y : Value) (s' : Shared) : Prop :=
  F y ∧ ∃ h' tk, s' = { s with heap := h', toks := tk } ∧ Fr h₀ L h' m ∧ News h₀ L h' all
theorem Paired.take_snoc {F : Value → Value → Prop} {xs ys : List Value} {j : Nat} {v y : Value} (h : Paired F (xs.take j) ys) (hv : xs[j]? = some v) (hy : F v y) : Paired F (xs.take (j + 1)) (ys ++ [y]) := by
  rw [List.take_add_one, hv]
  exact Paired.snoc h hy
theorem comp_cell {elt iter : Expr} {x : Str} {px : Pos} {scope : Scope} {cl : List (Str × Addr)} {pos : Pos} {ax : Addr} {items : Array Value} {ep : Nat} {Fv : Value → Value → Prop} {Q : Value → Shared → Prop}
    (hh : A.handled = none) (F : Fr h₀ L s.heap m) (N : News h₀ L s.heap news) (hm : (ax, PySem.W.listOf items ep) ∈ news)
    (hclos : closureFor scope env = pure cl) (hcells : ∀ n, cellsFrom n scope.names cl = (x, n) :: cl) (hpush : ∀ h, pushCells h scope.names = h.push (cellO none)) (hkind : scope.kind = .function)
    (hnames : ∀ y ∈ scope.names, y.2 = .local → scope.names.lookup y.1 = some .local) (hx : ∀ cl C, (compEnvC scope cl C env).kindOf x = some .cell)
    (hit : wpAny (model prog w) A (eval iter env) (fun v s₁ => v = .ref ax ∧ s₁ = s) E s) (hsz : items.size ≤ sizeLine)
    (helt : ∀ (i : Nat) (v : Value) (I : Addr) (oI : Obj) (C : Addr) (oC : Obj) (c : Addr) (oc : Obj) (D : Addr) (ys : List Value) (h : Heap) (tk : Nat) (E' : Value → Shared → Prop), items[i]? = some v → oc.data = .cell (some v) → Fr h₀ L h m → News h₀ L h ((I, oI) :: (C, oC) :: (c, oc) :: (D, lst ys) :: news) → @LT.lt Nat _ I D → @LT.lt Nat _ D C → @LT.lt Nat _ C c → AllLt I news →
      wpAny (model prog w) A (eval elt (compEnvC scope ((x, c) :: cl) C env)) (CellEnd h₀ L m ((I, oI) :: (C, oC) :: (c, oc) :: (D, lst ys) :: news) { s with heap := h, toks := tk } (Fv v)) E' { s with heap := h, toks := tk })
    (hQ : ∀ D ys h' tk, Fr h₀ L h' m → News h₀ L h' ((D, lst ys) :: news) → AllLt D news → Paired Fv items.toList ys → Q (.ref D) { s with heap := h', toks := tk })
    (hs : ∀ x, foldedSetIterable iter env x = pure x := by intro _; rfl) :
    wpAny (model prog w) A (eval (.ListComp elt [⟨.Name x px, iter, [], 0⟩] scope pos) env) Q E s := by
  rw [eval_ListComp]
  refine wpAny_comprehension_free (use := none) rfl hs hclos hkind hnames (wpAny_mono hit (fun xv s₁ h₁ => ?_) fun _ _ e => e)
  obtain ⟨rfl, rfl⟩ := h₁
  have hl : s₁.heap.IsList ax items := ⟨_, N.get hm, rfl, ep, rfl⟩
  have hax : ax < s₁.heap.objs.size := Heap.lt_size (N.get hm)
  have hlow : ∀ p ∈ news, p.1 < s₁.heap.objs.size := fun p hp => Heap.lt_size (N p hp).1
  refine wpAny_pyIter_list hl (wpAny_newObj_type (comp_env ?_))
  dsimp only
  rw [hcells, hpush]
  simp only [Heap.size_push]
  have F1 := F.push { cls := .type "list_iterator", data := .fields #[.ref ax, .int 0 0] }
  have N1 := News.push F N { cls := .type "list_iterator", data := .fields #[.ref ax, .int 0 0] }
  have F2 := F1.push (lst [])
  have N2 := News.push F1 N1 (lst [])
  have F3 := F2.push { cls := .type "dict", data := .dict #[] }
  have N3 := News.push F2 N2 { cls := .type "dict", data := .dict #[] }
  have F4 := F3.push (cellO none)
  have N4 := News.push F3 N3 (cellO none)
  simp only [Heap.size_push] at N2 N3 N4
  obtain ⟨I, hI⟩ : ∃ I : Nat, I = s₁.heap.objs.size := ⟨_, rfl⟩
  rw [← hI] at N4 hax hlow ⊢
  have hI0 : h₀.get? I = none := hI ▸ next_is_new F
  have fresh : ∀ a : Nat, I ≤ a → h₀.get? a = none := fun a ha => by
    cases e : h₀.get? a with
    | none => rfl
    | some o => exact absurd (hI ▸ Heap.lt_size (F.keep a o e) : @LT.lt Nat _ a I) (Nat.not_lt.mpr ha)
  have hLI : @LT.lt Nat _ L I := hI ▸ F.ns.lt
  have hne : ∀ p ∈ news, ∀ a : Nat, I ≤ a → p.1 ≠ a := fun p hp a ha q => by
    have : @LT.lt Nat _ p.1 I := hlow p hp
    rw [q] at this
    exact absurd this (Nat.not_lt.mpr ha)
  have start : ∀ s₄ : Shared, (∃ h tk, s₄ = { s₁ with heap := h, toks := tk } ∧ Fr h₀ L h m ∧ News h₀ L h ((I, { cls := .type "list_iterator", data := .fields #[.ref ax, .int 0 0] }) :: (I + 1 + 1, { cls := .type "dict", data := .dict #[] }) :: (I + 1 + 1 + 1, cellO none) :: (I + 1, lst []) :: news)) →
      codeAny (model prog w) A (.compLoop (.ListComp elt [⟨.Name x px, iter, [], 0⟩] scope pos) 0 (.ref I) (.ref (I + 1)) (compEnvC scope ((x, I + 1 + 1 + 1) :: cl) (I + 1 + 1) env)) (compPost (model prog w) A E none Q (.ref (I + 1)) (I + 1 + 1)) s₄ := by
    rintro _ ⟨h, tk, rfl, F, N⟩
    refine codeAny_compLoop_list (fun k s' => ∃ h tk oI oC oc ys j m', s' = { s₁ with heap := h, toks := tk } ∧ oI.cls = .type "list_iterator" ∧ oI.data = .fields #[.ref ax, .int (j : Nat) 0] ∧ Fr h₀ L h m ∧ News h₀ L h ((I, oI) :: (I + 1 + 1, oC) :: (I + 1 + 1 + 1, oc) :: (I + 1, lst ys) :: news) ∧
      (∃ v, oc.data = .cell v) ∧ NsObj oC m' ∧ Paired Fv (items.toList.take j) ys ∧ j ≤ items.size ∧ k = items.size + 1 - j) ?_ (items.size + 1)
      ⟨h, tk, _, _, _, [], 0, fun _ => none, rfl, rfl, rfl, F, N, ⟨_, rfl⟩, ?_, by simpa using Paired.nil, Nat.zero_le _, rfl⟩
    · rintro k s' ⟨h, tk, oI, oC, oc, ys, j, m', rfl, hc, hd, F, N, ⟨v0, hoc⟩, hoC, hP, hj, rfl⟩
      have hit : h.IsListIter I ax j := ⟨oI, N.get (.head _), hc, hd⟩
      have hl : h.IsList ax items := ⟨_, N.get (.tail _ (.tail _ (.tail _ (.tail _ hm)))), rfl, ep, rfl⟩
      by_cases hlt : j < items.size
      · refine wpAny_pyNext_list_item hit hl (x := items[j]) (by simp [hlt]) fun h1 hit1 hs1 => ?_
        obtain ⟨oI1, g1, hc1, hd1⟩ := hit1
        have F1 := Mine.fr_but F (fun b o hb e => hs1.extBut b o hb e) (Nat.ne_of_gt hLI) hI0
        have N1 := Mine.news_but N (Upd.head (o' := oI1) (fun p hp => by
          rcases List.mem_cons.mp hp with rfl | hp
          · exact (by omega : I + 1 + 1 ≠ I)
          rcases List.mem_cons.mp hp with rfl | hp
          · exact (by omega : I + 1 + 1 + 1 ≠ I)
          rcases List.mem_cons.mp hp with rfl | hp
          · exact (by omega : I + 1 ≠ I)
          exact hne p hp I (Nat.le_refl _))) (fun b o hb e => hs1.extBut b o hb e) g1
        refine wpAny_assign_Name (wpAny_storeName_cell (c := I + 1 + 1 + 1) (by show (relabel scope env).kind = .function; exact hkind) (hx _ _) (by simp [compEnvC]) ⟨oc, N1.get (.tail _ (.tail _ (.head _))), hoc⟩ fun h2 hv2 hs2 => ?_)
        obtain ⟨oc2, g2, hoc2⟩ := hv2
        have F2 := Mine.fr_but F1 (fun b o hb e => hs2.extBut b o hb e) (nN (by omega)) (fresh _ (by omega))
        have N2 := Mine.news_but N1 (Upd.tail (by show I ≠ I + 1 + 1 + 1; omega) (Upd.tail (by show I + 1 + 1 ≠ I + 1 + 1 + 1; omega) (Upd.head (o' := oc2) (fun p hp => by
          rcases List.mem_cons.mp hp with rfl | hp
          · exact (by omega : I + 1 ≠ I + 1 + 1 + 1)
          exact hne p hp _ (by omega))))) (fun b o hb e => hs2.extBut b o hb e) g2
        refine wpAny_mono (helt j items[j] I oI1 _ oC _ oc2 _ ys h2 tk _ (by simp [hlt]) hoc2 F2 N2 (by omega) (by omega) (by omega) (allLt_of hlow)) (fun y s' hy => ?_) fun _ _ e => e
        obtain ⟨hFy, h3, tk3, rfl, F3, N3⟩ := hy
        have hlen : ys.length ≤ j := by rw [← hP.length, List.length_take]; exact Nat.min_le_left _ _
        refine append_K (D := I + 1) (its := ys.toArray) (n := ys.length) F3 N3 (Upd.tail (by show I ≠ I + 1; omega) (Upd.tail (by show I + 1 + 1 ≠ I + 1; omega) (Upd.tail (by show I + 1 + 1 + 1 ≠ I + 1; omega) (Upd.head fun p hp => hne p hp _ (by omega))))) (fun h4 F4 N4 => ?_) (by simp; omega)
        refine ⟨items.size + 1 - (j + 1), by omega, h4, tk3, oI1, oC, oc2, ys ++ [y], j + 1, m', rfl, hc1, hd1, F4, ?_, ⟨_, hoc2⟩, hoC, Paired.take_snoc hP (by simp [hlt]) hFy, hlt, rfl⟩
        rw [← LCg.lst_snoc]; exact N4
      · have hin : j = items.size := by omega
        refine wpAny_pyNext_list_end hh hit hl (by simp [hin]) fun h1 he1 => ?_
        refine ⟨m', hoC.ns (he1 _ _ (nN (by omega)) (N.get (.tail _ (.head _)))), fun h'' hs'' => ?_⟩
        have F1 := Mine.fr_but F (fun b o hb e => he1 b o hb e) (Nat.ne_of_gt hLI) hI0
        have F2 := Mine.fr_but F1 (fun b o hb e => hs''.extBut b o hb e) (nN (by omega)) (fresh _ (by omega))
        refine hQ (I + 1) ys h'' tk F2 (fun p hp => ?_) (allLt_of fun p hp => Nat.lt_succ_of_lt (hlow p hp)) (by rw [hin, List.take_of_length_le (by simp)] at hP; exact hP)
        have z := N p (.tail _ (.tail _ (.tail _ hp)))
        have n1 : p.1 ≠ I ∧ p.1 ≠ I + 1 + 1 := by
          rcases List.mem_cons.mp hp with rfl | hp
          · exact ⟨(by omega : I + 1 ≠ I), (by omega : I + 1 ≠ I + 1 + 1)⟩
          · exact ⟨hne p hp _ (by omega), hne p hp _ (by omega)⟩
        exact ⟨hs''.extBut _ _ n1.2 (he1 _ _ n1.1 z.1), z.2⟩
    · exact ⟨#[], 0, rfl, fun _ h => (nomatch h), fun _ => rfl⟩
  have N5 : News h₀ L _ _ := fun p (hp : p ∈ (I, { cls := .type "list_iterator", data := .fields #[.ref ax, .int 0 0] }) :: (I + 1 + 1, { cls := .type "dict", data := .dict #[] }) :: (I + 1 + 1 + 1, cellO none) :: (I + 1, lst []) :: news) => N4 p (by
    simp only [List.mem_cons] at hp ⊢
    rcases hp with h | h | h | h | h
    · exact .inr (.inr (.inr (.inl h)))
    · exact .inr (.inl h)
    · exact .inl h
    · exact .inr (.inr (.inl h))
    · exact .inr (.inr (.inr (.inr h))))
  refine codeAny_compStart_list (start _ ⟨_, _, rfl, F4, N5⟩) ?_
  refine wpAny_pyIter_listiter ⟨_, N4.get (.tail _ (.tail _ (.tail _ (.head _)))), rfl, rfl⟩ ?_
  exact start _ ⟨_, _, rfl, F4, N5⟩
end
end Mine
end
section
namespace Mine
theorem kfill9b : (PySem.Challenge.rw_wb0057_01, K) = (PySem.Challenge.rw_wb0057_01, K) := by k_fill; rfl
def AllNe (d : Nat) : List (Addr × Obj) → Prop
  | [] => True
  | p :: r => @Ne Nat p.1 d ∧ AllNe d r
theorem allNe_of {d : Addr} : ∀ {l : List (Addr × Obj)}, (∀ p ∈ l, p.1 ≠ d) → AllNe d l
  | [], _ => trivial
  | p :: _, h => ⟨h p (.head _), allNe_of fun q hq => h q (.tail _ hq)⟩
section
variable {prog : Program} {w : World} {mean : ExcName → Option Value} {mg mb : Str → Option Value} {s : Shared} {E : Value → Shared → Prop} {base h₀ : Heap} {e1 env : Env} {L l : Addr} {m : Str → Option Value} {news : List (Addr × Obj)} {vs : List Value} {ns : List Int} {Q : Value → Shared → Prop} {n1 n2 n3 : Nat}
theorem k_cards3 (hf : env.frame = some L) (hk : env.scope.kind = .function) (WB : Wd w mean mg mb base) (B : Below (callerA.deeper e1) base [e1] h₀) (D : KtsDicts ([e1].filterMap (·.frame)) h₀) (F : Fr h₀ L s.heap m) (N : News h₀ L s.heap news)
    (hl : h₀.IsList l vs.toArray) (hi : IntsAre vs (ns.flatMap dig)) (hn : ∀ n ∈ ns, 64 ≤ n ∧ n < 262144) (hsz : ns.length ≤ 6) (h3 : (ns.filter fun n => !inB1 (n.toNat : Nat)) = [(n1 : Int), (n2 : Int), (n3 : Int)])
    (h : ∀ G h' tk a t1 t2 t3 ep, KtsTurn ([e1].filterMap (·.frame)) h₀ G → Fr G L h' m → News G L h' ((a, PySem.W.listOf #[.str ⟨#[n1]⟩ t1, .str ⟨#[n2]⟩ t2, .str ⟨#[n3]⟩ t3] ep) :: news) → AllNe a news → Below (callerA.deeper e1) base [e1] G → Wd w mean mg mb G → Q (.ref a) { s with heap := h', toks := tk }) :
    wpAny (model prog w) ((callerA.deeper e1).deeper env) (call (.ref 104) [.ref l]) Q E s := by
  refine k_cards hf hk WB B D F N hl hi hn hsz fun G h' tk a vs' ep T' F' N' ne B' W' hc => ?_
  rw [h3] at hc
  obtain ⟨t, u, v, rfl⟩ := hc.inv3
  exact h G h' tk a t u v ep T' F' N' (allNe_of ne) B' W'
theorem nodict_turn {v : Value} {fs : List Addr} {G : Heap} (T : KtsTurn fs h₀ G) (hl : h₀.NoDictAt v) : G.NoDictAt v := by
  cases v with
  | ref a => obtain ⟨o, ho, hd⟩ := hl; obtain ⟨sl, q⟩ := T.up ho; exact ⟨_, q, hd⟩
  | _ => trivial
theorem k_index {A : Around} {ls : Addr} {svs : List Value} {ss : List Int} {k : Int} {t : Tok} {q : Nat} (F : Fr h₀ L s.heap m) (hl : h₀.IsList ls svs.toArray) (hi : IntsAre svs ss) (hlay : PyData.layable0 (.list (ss.map .int)) = true) (hq : ss.idxOf k = q) (hk : k ∈ ss)
    (h : ∀ u tk, Q (.int (q : Int) u) { s with toks := tk }) : wpAny (model prog w) A (call (.builtin "list.index") [.ref ls, .int k t]) Q E s := by
  refine index_list_ints (hl.at fun o e => F.keep ls o e) hi hlay hk ?_
  rw [hq]; exact h _ _
theorem k_getindex {A : Around} {ls : Addr} {its : Array Value} {pl : Sem Bool} {Q : Value × List Value → Shared → Prop} (F : Fr h₀ L s.heap m) (hl : h₀.IsList ls its) (hd : h₀.NoDictAt (.ref ls)) (h : Q (.builtin "list.index", [.ref ls]) s) :
    wpAny (model prog w) A (getMethod (.ref ls) "index" pl) Q E s := by
  have hl' : s.heap.IsList ls its := hl.at fun o e => F.keep ls o e
  exact getMethod_list_of PySem.F.slot_list_index PySem.F.type_list_index hl' (hd.keeps F.keep) h
end
local macro_rules | `(tactic| k_ne) => `(tactic| (refine neN ?_; (try dsimp only); (rename (Ne _ _ ∧ Ne _ _ ∧ Ne _ _) ∧ _ => hz9); first | (simp only [hz9, ne_eq, not_false_eq_true]; done) | (refine Ne.symm ?_; simp only [hz9, ne_eq, not_false_eq_true]; done)))
local macro_rules | `(tactic| walk_at "call ref") => `(tactic| (k_here; (with_reducible show wpAny _ _ (call (Value.ref 104) _) _ _ _); k_dflt (refine' k_cards3 ?hf ?hk ?WB ?B ?D ?F ?N ?l ?i ?n ?z ?h3 ?_; (case hf => exact rfl); (case hk => exact rfl); (case F => k_asm); (case N => k_asm); (case B => assumption); (case WB => assumption); (case D => assumption); (case l => assumption); (case i => assumption); (case n => assumption); (case z => assumption); (case h3 => assumption); k_whole; intro G' h' tk' a' t1' t2' t3' ep' T' F' N' ne' B' W'; (simp only [AllNe, and_true] at ne'); have XX' := W'.X; have TT' := W'.T)))
local macro_rules | `(tactic| walk_at "getMethod ref") => `(tactic| (k_here; (with_reducible show wpAny _ _ (getMethod (Value.ref _) (PySem.Str.ofString "index") _) _ _ _); k_dflt (refine' k_getindex ?F ?l ?d ?_; (case F => k_asm); (case l => exact list_turn (by assumption) (by assumption)); (case d => exact nodict_turn (by assumption) (by assumption)); k_whole)))
local macro_rules | `(tactic| walk_at "call builtin:list.index") => `(tactic| (k_here; k_dflt (refine' k_index ?F ?l ?i ?y ?q ?k ?_; (case F => k_asm); (case l => exact list_turn (by assumption) (by assumption)); (case i => assumption); (case y => assumption); (case q => assumption); (case k => assumption); k_whole; intro u' tk')))
local macro_rules | `(tactic| walk_at "call ref") => `(tactic| (k_here; (with_reducible show wpAny _ _ (call (Value.ref 92) _) _ _ _); k_dflt (refine' k_map ?F ?N ?W ?A ?v ?_; (case F => k_asm); (case N => k_asm); (case W => assumption); (case A => k_room); (case v => assumption); k_whole; intro h' tk' t' F' N')))
local macro_rules | `(tactic| walk_at "call ref") => `(tactic| (k_here; (with_reducible show wpAny _ _ (call (Value.ref 21) _) _ _ _); k_dflt (refine' k_coll ?F ?N ?W ?A ?_; (case F => k_asm); (case N => k_asm); (case W => assumption); (case A => k_room); k_whole; intro h' tk' t' F' N')))
local macro_rules | `(tactic| walk_at "eval ListComp") => `(tactic| (k_here; (with_reducible show wpAny _ _ (eval (Expr.ListComp _ _ _ _) (envOfC _ _ _ _ _)) _ _ _); refine hold ?_))
def unseenF (a1 a2 a3 : Int) : List Int := List.foldl (fun l' k' => if ([a1, a2, a3].any fun x => x == k') = true then l' else if ([a1, a2, a3].any fun x => x == k') = false then l' ++ [k'] else l') [] (rangeKs 0 (27 - 0 : Int).toNat)
def fourthK (f1 f2 f3 a1 a2 a3 : Int) : Int := 4 * (2 + f1 + (if f3 < f2 then 1 else 0)) + (-(a1 + (a2 + (a3 + 0)))).fmod 4
def fourthF (c1 c2 c3 : Nat) (a1 a2 a3 : Int) : Option Int :=
  let k := fourthK (cmpN c1 c1 + (cmpN c1 c2 + (cmpN c1 c3 + 0))) (cmpN c2 c1 + (cmpN c2 c2 + (cmpN c2 c3 + 0))) (cmpN c3 c1 + (cmpN c3 c2 + (cmpN c3 c3 + 0))) a1 a2 a3
  if 0 ≤ k ∧ k < 2 ^ 63 then (unseenF a1 a2 a3)[k.toNat]? else none
theorem fourth_some {c1 c2 c3 : Nat} {a1 a2 a3 r f1 f2 f3 : Int} (h : fourthF c1 c2 c3 a1 a2 a3 = some r) (h1 : f1 = cmpN c1 c1 + (cmpN c1 c2 + (cmpN c1 c3 + 0))) (h2 : f2 = cmpN c2 c1 + (cmpN c2 c2 + (cmpN c2 c3 + 0))) (h3 : f3 = cmpN c3 c1 + (cmpN c3 c2 + (cmpN c3 c3 + 0))) {k : Int} (hk : fourthK f1 f2 f3 a1 a2 a3 = k) :
    0 ≤ k ∧ k < 2 ^ 63 ∧ (unseenF a1 a2 a3)[k.toNat]? = some r := by
  unfold fourthF at h
  dsimp only at h
  rw [← h1, ← h2, ← h3, hk] at h
  split at h
  · rename_i q; exact ⟨q.1, q.2, h⟩
  · cases h
theorem Paired.three {c1 c2 c3 : Nat} {t1 t2 t3 : Tok} {ys : List Value} {g : Nat → Int} (P : Paired (fun v y => ∃ x t u, v = Value.str ⟨#[x]⟩ t ∧ y = Value.int (g x) u) (#[Value.str ⟨#[c1]⟩ t1, Value.str ⟨#[c2]⟩ t2, Value.str ⟨#[c3]⟩ t3].toList) ys) :
    ∃ f1 f2 f3 u1 u2 u3, f1 = g c1 ∧ f2 = g c2 ∧ f3 = g c3 ∧ ys = [.int f1 u1, .int f2 u2, .int f3 u3] := by
  cases P with
  | cons h P => cases P with
    | cons h' P => cases P with
      | cons h'' P => cases P with
        | nil =>
          obtain ⟨_, _, _, e, rfl⟩ := h
          obtain ⟨_, _, _, e', rfl⟩ := h'
          obtain ⟨_, _, _, e'', rfl⟩ := h''
          cases e; cases e'; cases e''
          exact ⟨_, _, _, _, _, _, rfl, rfl, rfl, rfl⟩
local macro_rules | `(tactic| walk_at "subscriptTail") => `(tactic| (k_here; (with_reducible show wpAny _ _ (subscriptTail _ _ (Value.ref _) (Value.int _ _)) _ _ _); refine hold ?_))
set_option maxRecDepth 100000 in
set_option maxHeartbeats 8000000 in
theorem c_fourth {prog : Program} {w : World} {mean} {mg mb : Str → Option Value} {s : Shared} {Q : Value → Shared → Prop} {E : Value → Shared → Prop} {e1 : Env} {base : Heap} {l ls : Addr} {vs svs : List Value} {ns ss : List Int} {c1 c2 c3 z1 z2 z3 q1 q2 q3 : Nat}
    (WB : Wd w mean mg mb base) (B : Below (callerA.deeper e1) base [e1] s.heap) (D : KtsDicts ([e1].filterMap (·.frame)) s.heap) (hl : s.heap.IsList l vs.toArray) (hi : IntsAre vs (ns.flatMap dig)) (hn : ∀ n ∈ ns, 64 ≤ n ∧ n < 262144) (hsz : ns.length ≤ 6)
    (hs : s.heap.IsList ls svs.toArray) (hsd : s.heap.NoDictAt (.ref ls)) (hsi : IntsAre svs ss) (hlay : PyData.layable0 (.list (ss.map .int)) = true) (hf : (ns.filter fun n => !inB1 (n.toNat : Nat)) = [(c1 : Int), (c2 : Int), (c3 : Int)])
    (hz1 : mapped c1 = ⟨#[z1]⟩) (hz2 : mapped c2 = ⟨#[z2]⟩) (hz3 : mapped c3 = ⟨#[z3]⟩)
    (hq1 : ss.idxOf ((c1 : Int) - ((z1 : Int) - 97)) = q1) (hq2 : ss.idxOf ((c2 : Int) - ((z2 : Int) - 97)) = q2) (hq3 : ss.idxOf ((c3 : Int) - ((z3 : Int) - 97)) = q3)
    (hm1 : (c1 : Int) - ((z1 : Int) - 97) ∈ ss) (hm2 : (c2 : Int) - ((z2 : Int) - 97) ∈ ss) (hm3 : (c3 : Int) - ((z3 : Int) - 97) ∈ ss)
    {r : Int} (hr : fourthF c1 c2 c3 (9 * (q1 : Int) + ((z1 : Int) - 97)) (9 * (q2 : Int) + ((z2 : Int) - 97)) (9 * (q3 : Int) + ((z3 : Int) - 97)) = some r)
    (h : ∀ h' g' tk t, KtsTurn ([e1].filterMap (·.frame)) s.heap g' → g'.StaysIn h' → Q (.int r t) { s with heap := h', toks := tk }) :
    wpAny (model prog w) (callerA.deeper e1) (call (.ref 109) [.ref l, .ref ls]) Q E s := by
  have W := WB.keeps B.stays
  have KX := W.X
  have T := W.T
  refine wpAny_call ?_
  refine call_cells (binds := [(Str.ofString "octets", .ref l), (Str.ofString "suits", .ref ls)]) T.nolimit (KX 109 _ (by k_is)) rfl (codeRec_of KX (by k_is)) (by k_room) (BindsTo.of_eq rfl) ?hl ?hc (fun h₁ tk₁ cells F N Y => ?_) rfl rfl rfl
  case hl => exact kindsX rfl
  case hc => decide +kernel
  k_cells Y
  (try simp only [List.cons_append, List.nil_append] at N)
  k_steps
  unfold Hold
  refine' comp_cell (Fv := fun v y => ∃ x t u, v = .str ⟨#[x]⟩ t ∧ y = .int (cmpN x c1 + (cmpN x c2 + (cmpN x c3 + 0))) u) ?hh ?F ?N ?m ?hclos ?hcells ?hpush ?hkind ?hnames ?hx ?hit ?hsz ?helt ?hQ
  case F => k_asm
  case N => k_asm
  case hh => exact rfl
  case hclos => with_unfolding_all rfl
  case hcells => intro _; rfl
  case hpush => intro _; rfl
  case hkind => rfl
  case hnames => decide
  case hx => intro _ _; rfl
  case hit =>
    refine' nameX_C ?N ?c ?m2 ?d ?_ ?a ?b
    case a => rfl
    case b => rfl
    case N => k_asm
    case c => rfl
    case m2 => k_mem
    case d => k_asm
    exact ⟨rfl, rfl⟩
  case m => k_mem
  case hsz => rw [sizeLine_eq]; show 3 ≤ 16777216; decide
  case helt =>
    intro i v I oI C oC c oc D ys h5 tk5 E5 hv hoc F5 N5 l1 l2 l3 l4
    simp only [AllLt, and_true] at l4
    obtain ⟨x, t, rfl⟩ : ∃ x t, v = .str ⟨#[x]⟩ t := by
      match i, hv with
      | 0, hv => cases hv; exact ⟨_, _, rfl⟩
      | 1, hv => cases hv; exact ⟨_, _, rfl⟩
      | 2, hv => cases hv; exact ⟨_, _, rfl⟩
    k_steps
    (rename Fr _ _ _ _ => FF)
    (rename News _ _ _ _ => NN)
    refine ⟨⟨x, t, _, rfl, rfl⟩, _, _, rfl, FF, fun p hp => NN p ?_⟩
    simp only [List.mem_cons] at hp ⊢
    rcases hp with hp | hp | hp | hp | hp | hp | hp | hp | hp | hp <;> simp only [hp, true_or, or_true]
  case hQ =>
    intro D ys h6 tk6 F6 N6 l6 P
    simp only [AllLt, and_true] at l6
    obtain ⟨f1, f2, f3, u1, u2, u3, hf1, hf2, hf3, rfl⟩ := Paired.three P
    k_steps
    all_goals unfold Hold
    all_goals (rename Fr _ _ _ _ => FF)
    all_goals (rename News _ _ _ _ => NN)
    all_goals (rename IntsAre _ _ => II)
    all_goals change IntsAre _ (unseenF _ _ _) at II
    all_goals (rename KtsTurn _ _ _ => TT)
    · obtain ⟨k0, k1, k2⟩ := fourth_some hr hf1 hf2 hf3 (by unfold fourthK; rw [if_pos (by assumption)])
      obtain ⟨t7, ht7⟩ := II.get _ _ k2
      refine item_listL (l := _) ⟨_, NN.get (.head _), rfl, _, rfl⟩ k0 k1 ht7 ?_
      k_steps
      exact h _ _ _ _ TT FF.keep
    · obtain ⟨k0, k1, k2⟩ := fourth_some hr hf1 hf2 hf3 (by unfold fourthK; rw [if_neg (by assumption)])
      obtain ⟨t7, ht7⟩ := II.get _ _ k2
      refine item_listL (l := _) ⟨_, NN.get (.head _), rfl, _, rfl⟩ k0 k1 ht7 ?_
      k_steps
      exact h _ _ _ _ TT FF.keep
end Mine
end
section
namespace Mine
theorem kl_cut_at : ∀ (l : List Value) (k : Nat) (h : k < l.length), kl_cut l k = some (l.take k, l[k], l.drop (k + 1))
  | [], _, h => absurd h (Nat.not_lt_zero _)
  | x :: r, 0, _ => rfl
  | x :: r, k + 1, h => by
    rw [kl_cut, kl_cut_at r k (by simpa using h)]
    rfl
theorem ints_erase : ∀ {us : List Value} {li : List Int}, IntsAre us li → ∀ k, IntsAre (us.eraseIdx k) (li.eraseIdx k)
  | _, _, .nil, _ => .nil
  | _, _, .cons n t h, 0 => h
  | _, _, .cons n t h, k + 1 => .cons n t (ints_erase h k)
theorem ints5 {us : List Value} {a b c d e : Int} (h : IntsAre us [a, b, c, d, e]) : ∃ t0 t1 t2 t3 t4, us = [.int a t0, .int b t1, .int c t2, .int d t3, .int e t4] := by
  cases h with
  | cons _ t0 h => cases h with
    | cons _ t1 h => cases h with
      | cons _ t2 h => cases h with
        | cons _ t3 h => cases h with
          | cons _ t4 h => cases h with
            | nil => exact ⟨t0, t1, t2, t3, t4, rfl⟩
theorem ints3 {us : List Value} {a b c : Int} (h : IntsAre us [a, b, c]) : ∃ t0 t1 t2, us = [.int a t0, .int b t1, .int c t2] := by
  cases h with
  | cons _ t0 h => cases h with
    | cons _ t1 h => cases h with
      | cons _ t2 h => cases h with
        | nil => exact ⟨t0, t1, t2, rfl⟩
theorem drawn5 (ns : List Int) : ∃ d0 d1 d2 d3 d4, List.take 5 ns ++ List.drop ((ns.length : Nat) : Int).toNat [8, 20, 3, 0, 1] = [d0, d1, d2, d3, d4] := by
  match ns with
  | [] => exact ⟨_, _, _, _, _, rfl⟩
  | [a] => exact ⟨_, _, _, _, _, rfl⟩
  | [a, b] => exact ⟨_, _, _, _, _, rfl⟩
  | [a, b, c] => exact ⟨_, _, _, _, _, rfl⟩
  | [a, b, c, d] => exact ⟨_, _, _, _, _, rfl⟩
  | a :: b :: c :: d :: e :: r =>
    refine ⟨a, b, c, d, e, ?_⟩
    have q : ((((a :: b :: c :: d :: e :: r).length : Nat) : Int).toNat) = r.length + 5 := by rw [Int.toNat_natCast]; rfl
    rw [q]
    simp
section
variable {prog : Program} {w : World} {A : Around} {E : Value → Shared → Prop} {s : Shared} {h₀ : Heap} {L D : Addr} {m : Str → Option Value} {news news' : List (Addr × Obj)} {us : List Value} {li : List Int} {n k : Nat} {i : Int} {u : Tok} {Q : Value → Shared → Prop}
theorem k_pop (F : Fr h₀ L s.heap m) (N : News h₀ L s.heap news) (U : Upd D (PySem.W.listOf us.toArray n) (PySem.W.listOf (us.eraseIdx i.toNat).toArray (n + 1)) news news') (hi : IntsAre us li) {z : Int} (hlz : ((us.length : Nat) : Int) = z) (hz : z = (k : Int) + 1) (h0 : 0 ≤ i) (h1 : i < k + 1) (hk : k < 1000)
    (h : ∀ h' t, Fr h₀ L h' m → News h₀ L h' news' → IntsAre (us.eraseIdx i.toNat) (li.eraseIdx i.toNat) → (((us.eraseIdx i.toNat).length : Nat) : Int) = z - 1 → Q (.int (li.getD i.toNat 0) t) { s with heap := h' }) :
    wpAny (model prog w) A (call (.builtin "list.pop") [.ref D, .int i u]) Q E s := by
  have hl : us.length = k + 1 := by omega
  have hlt : i.toNat < us.length := by omega
  have ho : i.toNat < li.length := by rw [← hi.length]; exact hlt
  obtain ⟨t, ht⟩ := hi.get i.toNat li[i.toNat] (by simp [ho])
  have hy : us[i.toNat] = .int li[i.toNat] t := by rw [List.getElem?_eq_getElem hlt] at ht; exact Option.some.inj ht
  have e := kl_cut_at us i.toNat hlt
  rw [hy] at e
  rw [List.eraseIdx_eq_take_drop_succ] at U
  refine kl_popAt F N (k := i.toNat) ?_ ?_ e U (by rw [sizeLine_eq]; show us.length ≤ _; omega) fun h' F' N' => ?_
  · unfold Builtin.List.listFitsIndex; simp; omega
  · unfold seqIndex?
    have : ¬ i < 0 := by omega
    simp only [this, if_false]
    rw [if_pos]
    simp; omega
  · have q := h h' t F' N' (ints_erase hi _) (by rw [List.length_eraseIdx, if_pos hlt]; omega)
    rw [List.getD_eq_getElem?_getD, List.getElem?_eq_getElem ho] at q
    exact q
theorem k_len (N : News h₀ L s.heap news) (hm : (D, PySem.W.listOf us.toArray n) ∈ news) {z : Int} (hl : ((us.length : Nat) : Int) = z) (hk : z < 1000) (h : ∀ t tk, Q (.int z t) { s with toks := tk }) :
    wpAny (model prog w) A (call (.builtin "len") [.ref D]) Q E s := by
  refine len_list (items := us.toArray) ⟨_, N.get hm, rfl, n, rfl⟩ (by simp; omega) ?_
  have := h (s.toks + 1) (s.toks + 1 + 1)
  rw [← hl] at this
  simpa using this
theorem k_lenB (F : Fr h₀ L s.heap m) (hl : h₀.IsList D us.toArray) (hi : IntsAre us li) (hk : li.length ≤ 63) (h : ∀ t tk, Q (.int (li.length : Nat) t) { s with toks := tk }) :
    wpAny (model prog w) A (call (.builtin "len") [.ref D]) Q E s := by
  refine len_list (items := us.toArray) (hl.at fun o e => F.keep D o e) (by have := hi.length; simp; omega) ?_
  have := h (s.toks + 1) (s.toks + 1 + 1)
  rw [← hi.length] at this
  simpa using this
end
end Mine
end
section
namespace Mine
theorem erase_filter : ∀ (l : List Int) (_ : l.Nodup) (i : Nat) (_ : i < l.length), l.eraseIdx i = l.filter (· != l.getD i 0)
  | [], _, _, h => absurd h (Nat.not_lt_zero _)
  | x :: r, hn, 0, _ => by
    obtain ⟨h1, h2⟩ := List.nodup_cons.mp hn
    show r = List.filter (· != x) (x :: r)
    rw [List.filter_cons]
    simp only [bne_self_eq_false, Bool.false_eq_true, if_false]
    symm
    rw [List.filter_eq_self]
    intro y hy
    simp only [bne_iff_ne, ne_eq]
    rintro rfl
    exact h1 hy
  | x :: r, hn, i + 1, h => by
    obtain ⟨h1, h2⟩ := List.nodup_cons.mp hn
    have hi : i < r.length := by simpa using h
    have ih := erase_filter r h2 i hi
    have hm : r.getD i 0 ∈ r := by rw [List.getD_eq_getElem?_getD, List.getElem?_eq_getElem hi]; exact List.getElem_mem _
    show x :: r.eraseIdx i = List.filter (· != r.getD i 0) (x :: r)
    rw [List.filter_cons, if_pos, ih]
    simp only [bne_iff_ne, ne_eq]
    rintro rfl
    exact h1 hm
theorem getD_mem {l : List Int} {i : Nat} (h : i < l.length) : l.getD i 0 ∈ l := by
  rw [List.getD_eq_getElem?_getD, List.getElem?_eq_getElem h]; exact List.getElem_mem _
def rest3 (low mid high : Int) : List Int := (rangeKs 0 27).filter fun y => !(y == low || y == mid || y == high)
theorem erase_len {l : List Int} {i : Nat} (h : i < l.length) : (l.eraseIdx i).length = l.length - 1 := by rw [List.length_eraseIdx, if_pos h]
theorem pops {i0 i1 i2 : Nat} {n : List Int} (h0 : i0 < 27) (h1 : i1 < 26) (h2 : i2 < 25) (hl : n.length = 3)
    (hp : n.Perm [(rangeKs 0 27).getD i0 0, ((rangeKs 0 27).eraseIdx i0).getD i1 0, (((rangeKs 0 27).eraseIdx i0).eraseIdx i1).getD i2 0]) (ho : n.Pairwise (· ≤ ·)) :
    ∃ low mid high, n = [low, mid, high] ∧ 0 ≤ low ∧ low < mid ∧ mid < high ∧ high ≤ 26 ∧ ((((rangeKs 0 27).eraseIdx i0).eraseIdx i1).eraseIdx i2) = rest3 low mid high := by
  have hn0 : (rangeKs 0 27).Nodup := by decide
  have l0 : (rangeKs 0 27).length = 27 := by decide
  have hb : ∀ y ∈ rangeKs 0 27, 0 ≤ y ∧ y ≤ 26 := by decide
  have e0 := erase_filter _ hn0 i0 (by omega)
  have m0 := getD_mem (l := rangeKs 0 27) (i := i0) (by omega)
  have l1 := erase_len (l := rangeKs 0 27) (i := i0) (by omega)
  generalize (rangeKs 0 27).getD i0 0 = x0 at *
  rw [e0] at l1 hp ⊢
  have hn1 : ((rangeKs 0 27).filter (· != x0)).Nodup := hn0.filter _
  have e1 := erase_filter _ hn1 i1 (by omega)
  have m1 := getD_mem (l := (rangeKs 0 27).filter (· != x0)) (i := i1) (by omega)
  have l2 := erase_len (l := (rangeKs 0 27).filter (· != x0)) (i := i1) (by omega)
  generalize ((rangeKs 0 27).filter (· != x0)).getD i1 0 = x1 at *
  rw [e1] at l2 hp ⊢
  have hn2 : (((rangeKs 0 27).filter (· != x0)).filter (· != x1)).Nodup := hn1.filter _
  have e2 := erase_filter _ hn2 i2 (by omega)
  have m2 := getD_mem (l := ((rangeKs 0 27).filter (· != x0)).filter (· != x1)) (i := i2) (by omega)
  generalize (((rangeKs 0 27).filter (· != x0)).filter (· != x1)).getD i2 0 = x2 at *
  rw [e2]
  obtain ⟨m1a, m1b⟩ := List.mem_filter.mp m1
  obtain ⟨m2a, m2b⟩ := List.mem_filter.mp m2
  obtain ⟨m2c, m2d⟩ := List.mem_filter.mp m2a
  simp only [bne_iff_ne, ne_eq] at m1b m2b m2d
  have hnd : n.Nodup := by
    rw [hp.nodup_iff]
    simp only [List.nodup_cons, List.mem_cons, List.not_mem_nil, or_false, not_or, not_false_eq_true, List.nodup_nil, and_true]
    exact ⟨⟨fun q => m1b q.symm, fun q => m2d q.symm⟩, fun q => m2b q.symm⟩
  match n, hl with
  | [a, b, c], _ =>
    have ha : a ∈ [x0, x1, x2] := hp.subset (.head _)
    have hc : c ∈ [x0, x1, x2] := hp.subset (.tail _ (.tail _ (.head _)))
    have hall : ∀ y ∈ [x0, x1, x2], 0 ≤ y ∧ y ≤ 26 := fun y hy => by
      simp only [List.mem_cons, List.not_mem_nil, or_false] at hy
      rcases hy with rfl | rfl | rfl
      · exact hb _ m0
      · exact hb _ m1a
      · exact hb _ m2c
    simp only [List.pairwise_cons, List.mem_cons, List.not_mem_nil, or_false, forall_eq_or_imp, forall_eq] at ho
    simp only [List.nodup_cons, List.mem_cons, List.not_mem_nil, or_false, not_or] at hnd
    have b1 := ho.1.1
    have b2 := ho.2.1
    refine ⟨a, b, c, rfl, (hall a ha).1, ?_, ?_, (hall c hc).2, ?_⟩
    · have := hnd.1.1; omega
    · have := hnd.2.1; omega
    · unfold rest3
      rw [List.filter_filter, List.filter_filter]
      refine List.filter_congr fun y _ => ?_
      have hm : (y ∈ [a, b, c]) ↔ (y ∈ [x0, x1, x2]) := ⟨fun q => hp.subset q, fun q => hp.symm.subset q⟩
      simp only [List.mem_cons, List.not_mem_nil, or_false] at hm
      rw [Bool.eq_iff_iff]
      simp only [Bool.and_eq_true, bne_iff_ne, ne_eq, Bool.not_eq_true', Bool.or_eq_false_iff, beq_eq_false_iff_ne]
      constructor
      · rintro ⟨⟨q2, q1⟩, q0⟩
        have : ¬ (y = a ∨ y = b ∨ y = c) := fun q => by rcases hm.mp q with q | q | q <;> contradiction
        simp only [not_or] at this
        exact ⟨⟨this.1, this.2.1⟩, this.2.2⟩
      · rintro ⟨⟨q1, q2⟩, q3⟩
        have : ¬ (y = x0 ∨ y = x1 ∨ y = x2) := fun q => by rcases hm.mpr q with q | q | q <;> contradiction
        simp only [not_or] at this
        exact ⟨⟨this.2.2, this.2.1⟩, this.1⟩
end Mine
end
section
namespace Mine
def fourthN (a b c : Nat) : Option Int :=
  let k := fourthK (cmpN a a + (cmpN a b + (cmpN a c + 0))) (cmpN b a + (cmpN b b + (cmpN b c + 0))) (cmpN c a + (cmpN c b + (cmpN c c + 0))) a b c
  if 0 ≤ k ∧ k < 2 ^ 63 then (unseenF a b c)[k.toNat]? else none
def ins4 (a b c y : Int) : List Int := if y < a then [y, a, b, c] else if y < b then [a, y, b, c] else if y < c then [a, b, y, c] else [a, b, c, y]
def isHid (a b c y : Int) : Bool := (ins4 a b c y).getD (((ins4 a b c y).sum).fmod 4).toNat 0 == y
def hiddenF (a b c : Int) : List Int := (rest3 a b c).filter (isHid a b c)
def handOk (a b c : Nat) : Bool :=
  decide ([fourthN a b c, fourthN a c b, fourthN b a c, fourthN b c a, fourthN c a b, fourthN c b a] = (hiddenF a b c).map some)
def lowOk (a : Nat) : Bool := (List.range 27).all fun c => (List.range c).all fun b => !(decide (a < b)) || handOk a b c
end Mine
end
section
namespace Mine
def gN (a b c p : Nat) : Nat := if p < a then p else if p + 1 < b then p + 1 else if p + 2 < c then p + 2 else p + 3
theorem gN_cases {a b c : Nat} (_ : a < b) (_ : b < c) (p : Nat) : (gN a b c p = p ∧ p < a) ∨ (gN a b c p = p + 1 ∧ a ≤ p ∧ p + 1 < b) ∨ (gN a b c p = p + 2 ∧ b ≤ p + 1 ∧ p + 2 < c) ∨ (gN a b c p = p + 3 ∧ c ≤ p + 2) := by
  unfold gN
  split
  · left; omega
  · split
    · right; left; omega
    · split
      · right; right; left; omega
      · right; right; right; omega
theorem rest3_map {a b c : Nat} (h1 : a < b) (h2 : b < c) (h3 : c ≤ 26) : rest3 a b c = (List.range 24).map fun p => ((gN a b c p : Nat) : Int) := by
  have mono : ∀ p q : Nat, p < q → gN a b c p < gN a b c q := by
    intro p q h
    have hp := gN_cases h1 h2 p
    have hq := gN_cases h1 h2 q
    omega
  have s1 : (rest3 a b c).Pairwise (· < ·) := List.Pairwise.filter _ (by decide : (rangeKs 0 27).Pairwise (· < ·))
  have s2 : ((List.range 24).map fun p => ((gN a b c p : Nat) : Int)).Pairwise (· < ·) :=
    List.pairwise_map.mpr (List.pairwise_lt_range.imp fun {p q} h => Int.ofNat_lt.mpr (mono p q h))
  refine List.Perm.eq_of_pairwise (le := (· < ·)) (fun x y _ _ p q => by omega) s1 s2 ((List.perm_ext_iff_of_nodup (s1.imp fun h => Int.ne_of_lt h) (s2.imp fun h => Int.ne_of_lt h)).mpr fun x => ?_)
  unfold rest3
  rw [List.mem_filter, List.mem_map]
  simp only [Bool.not_eq_true', Bool.or_eq_false_iff, beq_eq_false_iff_ne, ne_eq, List.mem_range]
  constructor
  · rintro ⟨hm, ⟨e1, e2⟩, e3⟩
    have := mem_rangeKs hm
    obtain ⟨n, rfl⟩ := Int.eq_ofNat_of_zero_le (by omega : 0 ≤ x)
    refine ⟨if n < a then n else if n < b then n - 1 else if n < c then n - 2 else n - 3, ?_, ?_⟩
    · repeat' split
      all_goals omega
    · repeat' split
      all_goals (congr 1; unfold gN; repeat' split)
      all_goals omega
  · rintro ⟨p, hp, rfl⟩
    have hc := gN_cases h1 h2 p
    refine ⟨List.mem_map.mpr ⟨gN a b c p, List.mem_range.mpr (by omega), by omega⟩, ⟨by omega, by omega⟩, by omega⟩
theorem sum4 (x y z t : Int) : [x, y, z, t].sum = x + y + z + t := by simp only [List.sum_cons, List.sum_nil]; omega
theorem isHid_idx {a b c p : Nat} (h1 : a < b) (h2 : b < c) : isHid a b c (gN a b c p : Nat) = decide ((a + b + c + p) % 4 = 0) := by
  have hc := gN_cases h1 h2 p
  generalize gN a b c p = n at hc
  have key : ∀ l : List Int, l.sum = (a : Int) + b + c + n → (l.sum.fmod 4).toNat = (a + b + c + n) % 4 := by
    intro l h
    rw [h, Int.fmod_eq_emod_of_nonneg _ (by decide)]
    omega
  unfold isHid ins4
  have hj : (a + b + c + n) % 4 < 4 := Nat.mod_lt _ (by decide)
  rcases hc with ⟨rfl, hc⟩ | ⟨rfl, hc, hc'⟩ | ⟨rfl, hc, hc'⟩ | ⟨rfl, hc⟩
  · rw [if_pos (by omega), key _ (by rw [sum4]; omega)]
    generalize hr : (a + b + c + n) % 4 = j at hj ⊢
    rcases (by omega : j = 0 ∨ j = 1 ∨ j = 2 ∨ j = 3) with rfl | rfl | rfl | rfl <;> simp <;> omega
  · rw [if_neg (by omega), if_pos (by omega), key _ (by rw [sum4]; omega)]
    have hr : (a + b + c + p) % 4 = 0 ↔ (a + b + c + (p + 1)) % 4 = 1 := by omega
    simp only [hr]
    generalize (a + b + c + (p + 1)) % 4 = j at hj ⊢
    rcases (by omega : j = 0 ∨ j = 1 ∨ j = 2 ∨ j = 3) with rfl | rfl | rfl | rfl <;> simp <;> omega
  · rw [if_neg (by omega), if_neg (by omega), if_pos (by omega), key _ (by rw [sum4]; omega)]
    have hr : (a + b + c + p) % 4 = 0 ↔ (a + b + c + (p + 2)) % 4 = 2 := by omega
    simp only [hr]
    generalize (a + b + c + (p + 2)) % 4 = j at hj ⊢
    rcases (by omega : j = 0 ∨ j = 1 ∨ j = 2 ∨ j = 3) with rfl | rfl | rfl | rfl <;> simp <;> omega
  · rw [if_neg (by omega), if_neg (by omega), if_neg (by omega), key _ (sum4 _ _ _ _)]
    have hr : (a + b + c + p) % 4 = 0 ↔ (a + b + c + (p + 3)) % 4 = 3 := by omega
    simp only [hr]
    generalize (a + b + c + (p + 3)) % 4 = j at hj ⊢
    rcases (by omega : j = 0 ∨ j = 1 ∨ j = 2 ∨ j = 3) with rfl | rfl | rfl | rfl <;> simp <;> omega
theorem idx_filter (t : Nat) : ∀ s : Nat, s < 4 → t % 4 = s → (List.range 24).filter (fun p => decide ((t + p) % 4 = 0)) = [3 * s % 4, 4 + 3 * s % 4, 8 + 3 * s % 4, 12 + 3 * s % 4, 16 + 3 * s % 4, 20 + 3 * s % 4] := by
  intro s hs ht
  have e : (fun p => decide ((t + p) % 4 = 0)) = fun p => decide ((s + p) % 4 = 0) := by
    funext p
    have : ((t + p) % 4 = 0) ↔ ((s + p) % 4 = 0) := by omega
    simp only [this]
  rw [e]
  rcases (by omega : s = 0 ∨ s = 1 ∨ s = 2 ∨ s = 3) with rfl | rfl | rfl | rfl <;> decide
theorem hidden_map {a b c : Nat} (h1 : a < b) (h2 : b < c) (h3 : c ≤ 26) :
    hiddenF a b c = [3 * ((a + b + c) % 4) % 4, 4 + 3 * ((a + b + c) % 4) % 4, 8 + 3 * ((a + b + c) % 4) % 4, 12 + 3 * ((a + b + c) % 4) % 4, 16 + 3 * ((a + b + c) % 4) % 4, 20 + 3 * ((a + b + c) % 4) % 4].map fun p => ((gN a b c p : Nat) : Int) := by
  unfold hiddenF
  rw [rest3_map h1 h2 h3, List.filter_map, ← idx_filter (a + b + c) _ (Nat.mod_lt _ (by decide)) rfl]
  congr 1
  refine List.filter_congr fun p _ => ?_
  exact isHid_idx h1 h2
theorem fold_filter (q : Int → Bool) : ∀ (l acc : List Int), l.foldl (fun l' k' => if q k' = true then l' else if q k' = false then l' ++ [k'] else l') acc = acc ++ l.filter (fun k => !q k)
  | [], acc => by simp
  | k :: r, acc => by
    rw [List.foldl_cons, fold_filter q r]
    cases h : q k <;> simp [h]
theorem unseen_rest (x y z : Int) : unseenF x y z = rest3 x y z := by
  unfold unseenF rest3
  rw [fold_filter]
  rw [List.nil_append]
  refine List.filter_congr fun k _ => ?_
  simp only [List.any_cons, List.any_nil, Bool.or_false]
  rw [Bool.eq_iff_iff]
  simp only [Bool.not_eq_true', Bool.or_eq_false_iff, beq_eq_false_iff_ne, ne_eq]
  omega
theorem rest_perm {x y z x' y' z' : Int} (h : ∀ k : Int, (k = x ∨ k = y ∨ k = z) ↔ (k = x' ∨ k = y' ∨ k = z')) : rest3 x y z = rest3 x' y' z' := by
  unfold rest3
  refine List.filter_congr fun k _ => ?_
  congr 1
  rw [Bool.eq_iff_iff]
  simp only [Bool.or_eq_true, beq_iff_eq, or_assoc]
  exact h k
theorem fourth_at {a b c x y z t : Nat} (h1 : a < b) (h2 : b < c) (h3 : c ≤ 26) (ht : t < 6) (hs : x + y + z = a + b + c) (hp : rest3 x y z = rest3 a b c)
    (hk : 2 + (cmpN x x + (cmpN x y + (cmpN x z + 0))) + (if (cmpN z x + (cmpN z y + (cmpN z z + 0))) < (cmpN y x + (cmpN y y + (cmpN y z + 0))) then 1 else 0) = (t : Int)) :
    fourthN x y z = some ((gN a b c (4 * t + 3 * ((a + b + c) % 4) % 4) : Nat) : Int) := by
  unfold fourthN fourthK
  dsimp only
  rw [hk, Int.fmod_eq_emod_of_nonneg _ (by decide)]
  have e : 4 * (t : Int) + -((x : Int) + ((y : Int) + ((z : Int) + 0))) % 4 = ((4 * t + 3 * ((a + b + c) % 4) % 4 : Nat) : Int) := by omega
  rw [e, if_pos (by omega), unseen_rest, hp, rest3_map h1 h2 h3, Int.toNat_natCast, List.getElem?_map, List.getElem?_range (by omega)]
  rfl
theorem cmp_lt {x y : Nat} (h : x < y) : cmpN x y = -1 := by unfold cmpN; rw [if_neg (by omega), if_pos h]; rfl
theorem cmp_gt {x y : Nat} (h : y < x) : cmpN x y = 1 := by unfold cmpN; rw [if_pos h, if_neg (by omega)]; rfl
theorem cmp_eq (x : Nat) : cmpN x x = 0 := by unfold cmpN; rw [if_neg (by omega)]; rfl
theorem all_hands {a b c : Nat} (h1 : a < b) (h2 : b < c) (h3 : c ≤ 26) : handOk a b c = true := by
  unfold handOk
  rw [decide_eq_true_iff, hidden_map h1 h2 h3]
  have h12 : a < c := by omega
  rw [fourth_at (t := 0) h1 h2 h3 (by decide) (by omega) rfl (by rw [cmp_eq, cmp_eq, cmp_eq, cmp_lt h1, cmp_lt h12, cmp_lt h2, cmp_gt h1, cmp_gt h12, cmp_gt h2]; decide),
    fourth_at (a := a) (b := b) (c := c) (x := a) (y := c) (z := b) (t := 1) h1 h2 h3 (by decide) (by omega) (rest_perm fun k => by omega) (by rw [cmp_eq, cmp_eq, cmp_eq, cmp_lt h1, cmp_lt h12, cmp_lt h2, cmp_gt h1, cmp_gt h12, cmp_gt h2]; decide),
    fourth_at (a := a) (b := b) (c := c) (x := b) (y := a) (z := c) (t := 2) h1 h2 h3 (by decide) (by omega) (rest_perm fun k => by omega) (by rw [cmp_eq, cmp_eq, cmp_eq, cmp_lt h1, cmp_lt h12, cmp_lt h2, cmp_gt h1, cmp_gt h12, cmp_gt h2]; decide),
    fourth_at (a := a) (b := b) (c := c) (x := b) (y := c) (z := a) (t := 3) h1 h2 h3 (by decide) (by omega) (rest_perm fun k => by omega) (by rw [cmp_eq, cmp_eq, cmp_eq, cmp_lt h1, cmp_lt h12, cmp_lt h2, cmp_gt h1, cmp_gt h12, cmp_gt h2]; decide),
    fourth_at (a := a) (b := b) (c := c) (x := c) (y := a) (z := b) (t := 4) h1 h2 h3 (by decide) (by omega) (rest_perm fun k => by omega) (by rw [cmp_eq, cmp_eq, cmp_eq, cmp_lt h1, cmp_lt h12, cmp_lt h2, cmp_gt h1, cmp_gt h12, cmp_gt h2]; decide),
    fourth_at (a := a) (b := b) (c := c) (x := c) (y := b) (z := a) (t := 5) h1 h2 h3 (by decide) (by omega) (rest_perm fun k => by omega) (by rw [cmp_eq, cmp_eq, cmp_eq, cmp_lt h1, cmp_lt h12, cmp_lt h2, cmp_gt h1, cmp_gt h12, cmp_gt h2]; decide)]
  simp only [List.map_cons, List.map_nil, Nat.mul_zero, Nat.zero_add]
end Mine
end
section
namespace Mine
-- the cards, in plain numbers
def suitTab : List Int := [65, 119808, 119860, 119912, 120224, 120276, 120328, 120380, 120432]
def suit3 (f : Nat) : List Int := [suitTab.getD f 0, suitTab.getD (f + 1) 0, suitTab.getD (f + 2) 0]
def cardX (ss : List Int) (n : Int) : Int := ss.getD (n.fdiv 9).toNat 0 + n.fmod 9
def charOk (f n : Nat) : Bool :=
  let x := cardX (suit3 f) n
  decide (64 ≤ x ∧ x < 262144) && (!inB1 x) && decide ((x.toNat : Int) = x) && decide (mapped x.toNat = ⟨#[97 + n % 9]⟩) && decide ((suit3 f).idxOf (x - ((97 + n % 9 : Nat) - 97 : Int)) = n / 9) && decide (x - ((97 + n % 9 : Nat) - 97 : Int) ∈ suit3 f) &&
  decide (9 * ((n / 9 : Nat) : Int) + (((97 + n % 9 : Nat) : Int) - 97) = n)
def charsF (f : Nat) : Bool := (List.range 27).all fun n => charOk f n
theorem chars_a : charsF 0 = true := by decide +kernel
theorem chars_b : charsF 1 = true := by decide +kernel
theorem chars_c : charsF 2 = true := by decide +kernel
theorem chars_d : charsF 3 = true := by decide +kernel
theorem chars_e : charsF 4 = true := by decide +kernel
theorem chars_f : charsF 5 = true := by decide +kernel
theorem chars_g : charsF 6 = true := by decide +kernel
theorem chars_ok : (List.range 7).all (fun f => (List.range 27).all fun n => charOk f n) = true := by
  show (charsF 0 && (charsF 1 && (charsF 2 && (charsF 3 && (charsF 4 && (charsF 5 && (charsF 6 && true))))))) = true
  rw [chars_a, chars_b, chars_c, chars_d, chars_e, chars_f, chars_g]
  rfl
theorem card_step : (List.range 7).all (fun f => (List.range 26).all fun n => decide (cardX (suit3 f) n < cardX (suit3 f) (n + 1 : Nat))) = true := by decide +kernel
theorem card_low {f n : Nat} (h7 : f < 7) (hn : n < 27) : 64 ≤ cardX (suit3 f) n := by
  have := List.all_eq_true.mp (List.all_eq_true.mp chars_ok f (List.mem_range.mpr h7)) n (List.mem_range.mpr hn)
  unfold charOk at this
  simp only [Bool.and_eq_true, decide_eq_true_eq] at this
  exact this.1.1.1.1.1.1.1
theorem card_lt {f n : Nat} (h7 : f < 7) : ∀ d : Nat, n + d + 1 < 27 → cardX (suit3 f) n < cardX (suit3 f) (n + d + 1 : Nat)
  | 0, h => of_decide_eq_true (List.all_eq_true.mp (List.all_eq_true.mp card_step f (List.mem_range.mpr h7)) n (List.mem_range.mpr (by omega)))
  | d + 1, h => by
    have h1 := card_lt (n := n) h7 d (by omega)
    have h2 := of_decide_eq_true (List.all_eq_true.mp (List.all_eq_true.mp card_step f (List.mem_range.mpr h7)) (n + d + 1) (List.mem_range.mpr (by omega)))
    exact Int.lt_trans h1 h2
theorem mono_at {f a b : Nat} (h7 : f < 7) (ha : a < 27) (hb : b < 27) : cmpN (cardX (suit3 f) a).toNat (cardX (suit3 f) b).toNat = cmpN a b := by
  have la := card_low h7 ha
  have lb := card_low h7 hb
  rcases Nat.lt_trichotomy a b with h | h | h
  · obtain ⟨d, rfl⟩ : ∃ d, b = a + d + 1 := ⟨b - a - 1, by omega⟩
    have := card_lt (n := a) h7 d hb
    rw [cmp_lt h, cmp_lt (by omega)]
  · subst h
    rw [cmp_eq, cmp_eq]
  · obtain ⟨d, rfl⟩ : ∃ d, a = b + d + 1 := ⟨a - b - 1, by omega⟩
    have := card_lt (n := b) h7 d ha
    rw [cmp_gt h, cmp_gt (by omega)]
theorem lay_ok : (List.range 7).all (fun f => PyData.layable0 (.list ((suit3 f).map .int))) = true := by decide +kernel
end Mine
end
section
namespace Mine
section
variable {prog : Program} {w : World} {mean : ExcName → Option Value} {mg mb : Str → Option Value} {A : Around} {E : Value → Shared → Prop} {s : Shared} {h₀ : Heap} {L D : Addr} {m : Str → Option Value} {news news' : List (Addr × Obj)} {us vs : List Value} {li ns : List Int} {n k : Nat} {i x : Int} {u t : Tok} {Q : Value → Shared → Prop}
theorem c_octets (W : Wd w mean mg mb s.heap) (hA : A.depth < recursionLimit) (h0 : 64 ≤ x) (h1 : x < 262144)
    (h : ∀ h' tk a vs ep, s.heap.StaysIn h' → s.heap.get? a = none → h'.get? a = some (PySem.W.listOf vs.toArray ep) → IntsAre vs (dig x) → Q (.ref a) { s with heap := h', toks := tk }) :
    wpAny (model prog w) A (call (.ref 99) [.int x t]) Q E s := by
  by_cases q : x < 4096
  · exact c_octets2 W hA h0 q h
  · exact c_octets3 W hA (by omega) h1 h
theorem k_oct (F : Fr h₀ L s.heap m) (N : News h₀ L s.heap news) (W : Wd w mean mg mb h₀) (hA : A.depth < recursionLimit) (h0 : 64 ≤ x) (h1 : x < 262144)
    (h : ∀ h' tk a vs ep, Fr h₀ L h' m → News h₀ L h' ((a, PySem.W.listOf vs.toArray ep) :: news) → AllNe a news → IntsAre vs (dig x) → vs.length ≤ 3 → Q (.ref a) { s with heap := h', toks := tk }) :
    wpAny (model prog w) A (call (.ref 99) [.int x t]) Q E s := by
  refine c_octets (W.keeps F.keep) hA h0 h1 fun h' tk a vs ep k ha hb hi => ?_
  have hL : a ≠ L := fun z => by
    obtain ⟨o, _, _, q, _⟩ := F.ns
    rw [← z, ha] at q; cases q
  have hn : h₀.get? a = none := by
    cases q : h₀.get? a with
    | none => rfl
    | some o => rw [F.keep _ _ q] at ha; cases ha
  refine h h' tk a vs ep ⟨F.ns.keeps k, fun b o e => k b o (F.keep b o e), F.above⟩ (fun p hp => ?_) (allNe_of fun p hp z => ?_) hi ?_
  · rcases List.mem_cons.mp hp with rfl | hp
    · exact ⟨hb, hL, hn⟩
    · exact ⟨k _ _ (N p hp).1, (N p hp).2⟩
  · have := (N p hp).1; rw [z, ha] at this; cases this
  · rw [hi.length]; unfold dig; split <;> (try split) <;> simp
theorem k_item {value slice : Expr} (N : News h₀ L s.heap news) (hm : (D, PySem.W.listOf us.toArray n) ∈ news) (hi : IntsAre us li) (z : Nat) (hz : li.length = z) (h0 : 0 ≤ i) (h1 : i < (z : Int)) (h2 : z < 1000)
    (h : ∀ t, Q (.int (li.getD i.toNat 0) t) s)
    (hs : subscripted slice false (.ref D) (.int i u) = operate [.ref D, .int i u] (getItem (.ref D) (.int i u)) := by with_unfolding_all rfl) (hg : ∀ r, letTemporaryGo value (.ref D) r = pure () := by intro _; with_unfolding_all rfl) :
    wpAny (model prog w) A (subscriptTail value slice (.ref D) (.int i u)) Q E s := by
  have hlt : i.toNat < li.length := by omega
  obtain ⟨t, ht⟩ := hi.get i.toNat li[i.toNat] (by simp [hlt])
  refine item_listL (l := us) ⟨_, N.get hm, rfl, n, rfl⟩ h0 (by omega) ht ?_ hs hg
  have := h t
  rw [List.getD_eq_getElem?_getD, List.getElem?_eq_getElem hlt] at this
  exact this
theorem suit_slice {ws : List Value} {q : Int} (h0 : 0 ≤ q) (h1 : q < 7) (h : IntsAre ws ((List.drop q.toNat [65, 119808, 119860, 119912, 120224, 120276, 120328, 120380, 120432]).take (min (q + 3).toNat [(65 : Int), 119808, 119860, 119912, 120224, 120276, 120328, 120380, 120432].length - q.toNat))) : IntsAre ws (suit3 q.toNat) := by
  rcases (by omega : q = 0 ∨ q = 1 ∨ q = 2 ∨ q = 3 ∨ q = 4 ∨ q = 5 ∨ q = 6) with rfl | rfl | rfl | rfl | rfl | rfl | rfl <;> exact h
def aheadTab : List Int := [173, 847, 6155, 8203, 8288, 65024, 65039, 65279]
theorem ahead_ok {q : Int} (h0 : 0 ≤ q) (h1 : q < 8) : 64 ≤ aheadTab.getD q.toNat 0 ∧ aheadTab.getD q.toNat 0 < 262144 ∧ inB1 (aheadTab.getD q.toNat 0) = true := by
  rcases (by omega : q = 0 ∨ q = 1 ∨ q = 2 ∨ q = 3 ∨ q = 4 ∨ q = 5 ∨ q = 6 ∨ q = 7) with rfl | rfl | rfl | rfl | rfl | rfl | rfl | rfl <;> decide +kernel
theorem card_bd {f a : Nat} (h7 : f < 7) (ha : a < 27) : 64 ≤ cardX (suit3 f) a ∧ cardX (suit3 f) a < 262144 := by
  have := chars_ok
  rw [List.all_eq_true] at this
  have := this f (List.mem_range.mpr h7)
  rw [List.all_eq_true] at this
  have := this a (List.mem_range.mpr ha)
  unfold charOk at this
  simp only [Bool.and_eq_true, decide_eq_true_eq] at this
  exact this.1.1.1.1.1.1
theorem fdiv9 {a : Nat} (ha : a < 27) : 0 ≤ (a : Int).fdiv 9 ∧ (a : Int).fdiv 9 < 3 := by
  rw [Int.fdiv_eq_ediv_of_nonneg _ (by decide)]; omega
theorem k_fourth {e1 : Env} {ls : Addr} {svs : List Value} {ep ep2 : Nat} {f a1 a2 a3 : Nat} {x0 x1 x2 x3 y : Int} (hf : e1.frame = some L) (hk : e1.scope.kind = .function) (W : Wd w mean mg mb h₀) (K0 : Below callerA h₀ [] h₀) (F : Fr h₀ L s.heap m) (N : News h₀ L s.heap news)
    (hl : (D, PySem.W.listOf vs.toArray ep) ∈ news) (hi : IntsAre vs ns) (hns : ns = [x0, x1, x0, x2, x0, x3].flatMap dig) (hs : (ls, PySem.W.listOf svs.toArray ep2) ∈ news) (hsi : IntsAre svs (suit3 f)) (h7 : f < 7)
    (b1 : a1 < 27) (b2 : a2 < 27) (b3 : a3 < 27) (e1' : x1 = cardX (suit3 f) a1) (e2' : x2 = cardX (suit3 f) a2) (e3' : x3 = cardX (suit3 f) a3) (hx0 : 64 ≤ x0) (hx0' : x0 < 262144) (hx0b : inB1 x0 = true)
    (hr : fourthN a1 a2 a3 = some y) (h : ∀ h' tk t, Fr h₀ L h' m → News h₀ L h' news → Q (.int y t) { s with heap := h', toks := tk }) :
    wpAny (model prog w) (callerA.deeper e1) (call (.ref 109) [.ref D, .ref ls]) Q E s := by
  have ok : ∀ a : Nat, a < 27 → charOk f a = true := fun a ha => by
    have := chars_ok
    rw [List.all_eq_true] at this
    have := this f (List.mem_range.mpr h7)
    rw [List.all_eq_true] at this
    exact this a (List.mem_range.mpr ha)
  have mo : ∀ a b : Nat, a < 27 → b < 27 → cmpN (cardX (suit3 f) a).toNat (cardX (suit3 f) b).toNat = cmpN a b := fun a b ha hb => mono_at h7 ha hb
  have lay : PyData.layable0 (.list ((suit3 f).map .int)) = true := by
    have := lay_ok
    rw [List.all_eq_true] at this
    exact this f (List.mem_range.mpr h7)
  have o1 := ok a1 b1
  have o2 := ok a2 b2
  have o3 := ok a3 b3
  unfold charOk at o1 o2 o3
  simp only [Bool.and_eq_true, decide_eq_true_eq] at o1 o2 o3
  rw [← e1'] at o1
  rw [← e2'] at o2
  rw [← e3'] at o3
  obtain ⟨⟨⟨⟨⟨⟨r1, i1⟩, t1⟩, m1⟩, q1⟩, s1⟩, g1⟩ := o1
  obtain ⟨⟨⟨⟨⟨⟨r2, i2⟩, t2⟩, m2⟩, q2⟩, s2⟩, g2⟩ := o2
  obtain ⟨⟨⟨⟨⟨⟨r3, i3⟩, t3⟩, m3⟩, q3⟩, s3⟩, g3⟩ := o3
  have B := below_push (env := e1) K0 F hf hk
  have ef : [e1].filterMap (·.frame) = [L] := by simp [List.filterMap_cons, hf]
  have D0 : KtsDicts ([e1].filterMap (·.frame)) s.heap := by
    rw [ef]
    intro b hb
    rw [List.mem_singleton.mp hb]
    obtain ⟨o, es, ep, a, b, _⟩ := F.ns; exact ⟨o, es, ep, a, b⟩
  have t0 : ((x0.toNat : Nat) : Int) = x0 := Int.toNat_of_nonneg (by omega)
  have hfilt : ([x0, x1, x0, x2, x0, x3].filter fun n => !inB1 (n.toNat : Nat)) = [((x1.toNat : Nat) : Int), ((x2.toNat : Nat) : Int), ((x3.toNat : Nat) : Int)] := by
    simp only [List.filter_cons, List.filter_nil, t0, t1, t2, t3, hx0b, i1, i2, i3, Bool.not_true, Bool.false_eq_true, if_false, if_true]
  rw [← t1] at q1 s1
  rw [← t2] at q2 s2
  rw [← t3] at q3 s3
  have hr' : fourthF x1.toNat x2.toNat x3.toNat (9 * ((a1 / 9 : Nat) : Int) + (((97 + a1 % 9 : Nat) : Int) - 97)) (9 * ((a2 / 9 : Nat) : Int) + (((97 + a2 % 9 : Nat) : Int) - 97)) (9 * ((a3 / 9 : Nat) : Int) + (((97 + a3 % 9 : Nat) : Int) - 97)) = some y := by
    rw [g1, g2, g3, ← hr, e1', e2', e3']
    unfold fourthF fourthN
    simp only [mo _ _ b1 b1, mo _ _ b1 b2, mo _ _ b1 b3, mo _ _ b2 b1, mo _ _ b2 b2, mo _ _ b2 b3, mo _ _ b3 b1, mo _ _ b3 b2, mo _ _ b3 b3]
  refine c_fourth (base := h₀) W B D0 (ns := [x0, x1, x0, x2, x0, x3]) (l := D) (ls := ls) (vs := vs) (svs := svs) (ss := suit3 f) ⟨_, N.get hl, rfl, _, rfl⟩ (hns ▸ hi) ?_ (by simp) ⟨_, N.get hs, rfl, _, rfl⟩ ⟨_, N.get hs, rfl⟩ hsi lay hfilt m1 m2 m3 q1 q2 q3 s1 s2 s3 hr' fun h' g' tk t T S => ?_
  · intro z hz
    simp only [List.mem_cons, List.not_mem_nil, or_false] at hz
    rcases hz with rfl | rfl | rfl | rfl | rfl | rfl <;> first | exact ⟨hx0, hx0'⟩ | exact r1 | exact r2 | exact r3
  · rw [ef] at T
    obtain ⟨G, T', S', F'⟩ := turn_ground (fs := []) F T S (fun b hb => (nomatch hb))
    have N' := turn_news N T S (fun b hb => (nomatch hb)) T'
    have st : ∀ b o, h₀.get? b = some o → G.get? b = some o := fun b o e => T'.other b o e (fun hb => nomatch hb)
    refine h h' tk t ⟨F'.ns, fun b o e => F'.keep b o (st b o e), F.above⟩ fun p hp => ⟨(N' p hp).1, (N' p hp).2.1, ?_⟩
    cases q : h₀.get? p.1 with
    | none => rfl
    | some o => have := st _ _ q; rw [(N' p hp).2.2] at this; cases this
end
end Mine
end
section
namespace Mine
section
variable {prog : Program} {w : World} {A : Around} {E : Value → Shared → Prop} {s : Shared} {env : Env} {h₀ : Heap} {L D : Addr} {m : Str → Option Value} {news : List (Addr × Obj)} {us vs : List Value} {li ns : List Int} {n : Nat} {i : Int} {u : Tok}
theorem subscript_temp {value slice : Expr} {o j : Value} {T id : String} {Q : Value → Shared → Prop} (hT : s.TypeIs o T)
    (hl : typeLookup (.type T) "__getitem__" = pure (some (.builtin id))) (h : wpAny (model prog w) A (getItem o j) Q E s)
    (hs : subscripted slice false o j = operate [o, j] (getItem o j) := by with_unfolding_all rfl) :
    wpAny (model prog w) A (subscriptTail value slice o j) Q E s := by
  unfold subscriptTail
  refine wpAny_bind ?_
  rw [getitemInPython_of_ne hT.not_modules]
  refine wpAny_bind (wpAny_specialOf hT hl ?_)
  have fin : wpAny (model prog w) A (subscripted slice false o j) (fun r s₃ => wpAny (model prog w) A (letTemporaryGo value o r >>= fun _ => pure r) Q E s₃) E s := by
    rw [hs]
    exact wpAny_operating (wpAny_mono h (fun r s₃ h₃ => wpAny_bind (wpAny_letTemporaryGo (wpAny_pure h₃))) fun _ _ x => x)
  first
    | exact wpAny_pure (wpAny_bind fin)
    | exact wpAny_bind (wpAny_pure (wpAny_bind fin))
    | exact wpAny_bind fin
theorem k_itemT {value slice : Expr} {Q : Value → Shared → Prop} (N : News h₀ L s.heap news) (hm : (D, PySem.W.listOf us.toArray n) ∈ news) (hi : IntsAre us li) (z : Nat) (hz : li.length = z) (h0 : 0 ≤ i) (h1 : i < (z : Int)) (h2 : z < 1000)
    (h : ∀ t, Q (.int (li.getD i.toNat 0) t) s)
    (hs : subscripted slice false (.ref D) (.int i u) = operate [.ref D, .int i u] (getItem (.ref D) (.int i u)) := by with_unfolding_all rfl) :
    wpAny (model prog w) A (subscriptTail value slice (.ref D) (.int i u)) Q E s := by
  have hlt : i.toNat < li.length := by omega
  obtain ⟨t, ht⟩ := hi.get i.toNat li[i.toNat] (by simp [hlt])
  have hl : s.heap.IsList D us.toArray := ⟨_, N.get hm, rfl, n, rfl⟩
  refine subscript_temp hl.typeIs slot_list_getitem.lookup (wpAny_getItem_list hl h0 (by omega) (by simpa using ht) ?_) hs
  have := h t
  rw [List.getD_eq_getElem?_getD, List.getElem?_eq_getElem hlt] at this
  exact this
theorem k_itemC {value slice : Expr} {x : Int} {Q : Value → Shared → Prop} (N : News h₀ L s.heap news) (hm : (D, PySem.W.listOf us.toArray n) ∈ news) (hi : IntsAre us li) (hx : li[i.toNat]? = some x) (h0 : 0 ≤ i) (h1 : i < 1000)
    (h : ∀ t, Q (.int x t) s)
    (hs : subscripted slice false (.ref D) (.int i u) = operate [.ref D, .int i u] (getItem (.ref D) (.int i u)) := by with_unfolding_all rfl) (hg : ∀ r, letTemporaryGo value (.ref D) r = pure () := by intro _; with_unfolding_all rfl) :
    wpAny (model prog w) A (subscriptTail value slice (.ref D) (.int i u)) Q E s := by
  obtain ⟨t, ht⟩ := hi.get i.toNat x hx
  exact item_listL (l := us) ⟨_, N.get hm, rfl, n, rfl⟩ h0 (by omega) ht (h t) hs hg
def OrdJ (pre post : List (Addr × Obj)) (d : Addr) (x y y' : Str) (m₀ : Str → Option Value) (l : List Int) (m : Str → Option Value) (nx : List (Addr × Obj)) : Prop :=
  (∃ us n, nx = pre ++ (d, PySem.W.listOf us.toArray n) :: post ∧ IntsAre us l) ∧ ∀ z, z ≠ x → z ≠ y → z ≠ y' → m z = m₀ z
theorem ord_map {x y y' : Str} {m₀ m₁ : Str → Option Value} {v : Value} (hm : ∀ z, z ≠ x → z ≠ y → z ≠ y' → m₁ z = m₀ z) :
    (fun z => if z = x then some v else m₁ z) = fun z => if z = x then some v else if z = y then m₁ y else if z = y' then m₁ y' else m₀ z := by
  funext z
  by_cases h1 : z = x
  · subst h1; simp only [if_true]
  · by_cases h2 : z = y
    · subst h2; simp only [if_neg h1, if_true]
    · by_cases h3 : z = y'
      · subst h3; simp only [if_neg h1, if_neg h2, if_true]
      · simp only [if_neg h1, if_neg h2, if_neg h3]; exact hm z h1 h2 h3
theorem ord_done {x y y' : Str} {m₀ m₁ : Str → Option Value} (hm : ∀ z, z ≠ x → z ≠ y → z ≠ y' → m₁ z = m₀ z) :
    m₁ = fun z => if z = x then m₁ x else if z = y then m₁ y else if z = y' then m₁ y' else m₀ z := by
  funext z
  by_cases h1 : z = x
  · subst h1; simp only [if_true]
  · by_cases h2 : z = y
    · subst h2; simp only [if_neg h1, if_true]
    · by_cases h3 : z = y'
      · subst h3; simp only [if_neg h1, if_neg h2, if_true]
      · simp only [if_neg h1, if_neg h2, if_neg h3]; exact hm z h1 h2 h3
theorem iter_ord {x y y' : Str} {body : List Stmt} {Q : Flow → Shared → Prop} {l d : Addr} {nn n₀ : Nat} {us₀ : List Value} {m₀ : Str → Option Value} {all pre post : List (Addr × Obj)} (hid : List Int)
    (hh : A.handled = none) (F : Fr h₀ env.locals s.heap m₀) (N : News h₀ env.locals s.heap all) (hl : (l, PySem.W.listOf vs.toArray nn) ∈ all)
    (hsub : ∀ p ∈ pre ++ (d, PySem.W.listOf us₀.toArray n₀) :: post, p ∈ all ∧ p.1 ≠ l) (h0 : IntsAre us₀ [])
    (hlen : vs.length = hid.length)
    (turn : ∀ (Q' : Flow → Shared → Prop) (E' : Value → Shared → Prop) i v us nn u u' h tk own, vs[i]? = some v → OwnOff own (pre.map (·.1) ++ d :: post.map (·.1)) → IntsAre us (hid.take i) → us.length ≤ hid.length →
      Fr h₀ env.locals h (fun z => if z = x then some v else if z = y then u else if z = y' then u' else m₀ z) → News h₀ env.locals h ((pre ++ (d, PySem.W.listOf us.toArray nn) :: post) ++ own) →
      wpAny (model prog w) A (execs body env) (InvPostN h₀ env.locals (OrdJ pre post d x y y' m₀ (hid.take (i + 1))) own (pre.map (·.1) ++ d :: post.map (·.1)) { s with heap := h, toks := tk } Q') E' { s with heap := h, toks := tk })
    (done : ∀ us nn u u' u'' h tk, IntsAre us hid → Fr h₀ env.locals h (fun z => if z = x then u'' else if z = y then u else if z = y' then u' else m₀ z) → News h₀ env.locals h (pre ++ (d, PySem.W.listOf us.toArray nn) :: post) → Q .next { s with heap := h, toks := tk }) :
    wpAny (model prog w) A (pyIter (.ref l)) (fun it s₂ => LoopAtV prog w A h₀ env x body Q E it s₂) E s := by
  have hol : s.heap.get? l = some (PySem.W.listOf vs.toArray nn) := (N _ hl).1
  have hls : s.heap.IsList l vs.toArray := ⟨_, hol, rfl, nn, rfl⟩
  have hne : l ≠ s.heap.objs.size := Nat.ne_of_lt (Heap.lt_size hol)
  refine wpAny_pyIter_list hls ?_
  have W := Walks.list (prog := prog) (w := w) hh s.heap.objs.size l hne vs.toArray
  have hsz : vs.toArray.size = hid.length := by simpa using hlen
  rw [hsz] at W
  have hnew : ∀ p ∈ pre ++ (d, PySem.W.listOf us₀.toArray n₀) :: post, p.1 ≠ s.heap.objs.size := fun p hp => Nat.ne_of_lt (Heap.lt_size (N _ (hsub p hp).1).1)
  refine loop_invN (s := { s with heap := _, toks := _ }) (news := pre ++ (d, PySem.W.listOf us₀.toArray n₀) :: post) (m₀ := m₀) (fun i m nx => OrdJ pre post d x y y' m₀ (hid.take i) m nx) W ?_ ?_ ?_ ?_ ⟨⟨_, Heap.get?_push_size _ rfl, rfl, rfl⟩, hls.at fun o e => Heap.get?_push_of_some _ e⟩ (F.push _)
    (fun p hp => ⟨Heap.get?_push_of_some _ (N p (hsub p hp).1).1, (N p (hsub p hp).1).2⟩) ⟨⟨us₀, n₀, rfl, by simpa using h0⟩, fun _ _ _ _ => rfl⟩ ?_ ?_
  · intro hm
    rcases List.mem_cons.mp hm with e | hm
    · exact absurd F.ns.lt (e ▸ Nat.lt_irrefl _)
    · exact (N _ hl).2.1 ((List.mem_singleton.mp hm).symm)
  · intro b hb
    rw [List.mem_singleton.mp hb]
    exact next_is_new F
  · intro p hp hI
    exact hnew p hp (List.mem_singleton.mp hI)
  · intro q hq hm
    rcases List.mem_cons.mp hm with e | hm
    · exact hnew q hq e
    · exact (hsub q hq).2 (List.mem_singleton.mp hm)
  · rintro i v m₁ nx h tk own hin hP _ hoff ⟨⟨us, n, rfl, hu⟩, hm⟩ F₁ N₁
    rw [ord_map hm] at F₁
    simp only [List.map_append, List.map_cons] at hoff ⊢
    refine turn _ _ i v us n _ _ h tk own (by simpa using hP) hoff hu ?_ F₁ N₁
    rw [hu.length, List.length_take]
    exact Nat.min_le_right _ _
  · rintro m₁ nx h tk ⟨⟨us, n, rfl, hu⟩, hm⟩ F₁ N₁
    rw [List.take_length] at hu
    rw [ord_done hm] at F₁
    exact done us n _ _ _ h tk hu F₁ N₁
end
end Mine
end
section
namespace Mine
section
variable {prog : Program} {w : World} {A : Around} {E : Value → Shared → Prop} {s : Shared} {env : Env} {h₀ : Heap}
def TurnEnd (h₀ : Heap) (L dT : Addr) (x y y' : Str) (m₀ : Str → Option Value) (l : List Int) (rest : List (Addr × Obj)) (s₁ : Shared) (f : Flow) (s₂ : Shared) : Prop :=
  f = .next ∧ ∃ h' tk m' us n, s₂ = { s₁ with heap := h', toks := tk } ∧ Fr h₀ L h' m' ∧ News h₀ L h' ((dT, PySem.W.listOf us.toArray n) :: rest) ∧ IntsAre us l ∧ ∀ z, z ≠ x → z ≠ y → z ≠ y' → m' z = m₀ z
theorem six {l : List Int} (h : l.length = 6) : ∃ a b c d e f, l = [a, b, c, d, e, f] := by
  rcases l with _ | ⟨a, _ | ⟨b, _ | ⟨c, _ | ⟨d, _ | ⟨e, _ | ⟨f, _ | ⟨g, l⟩⟩⟩⟩⟩⟩⟩ <;> first
    | exact ⟨a, b, c, d, e, f, rfl⟩
    | (simp only [List.length_cons, List.length_nil] at h; omega)
theorem orders6 {a b c : Nat} (h : handOk a b c = true) : ∃ y0 y1 y2 y3 y4 y5, hiddenF a b c = [y0, y1, y2, y3, y4, y5] ∧ fourthN a b c = some y0 ∧ fourthN a c b = some y1 ∧ fourthN b a c = some y2 ∧ fourthN b c a = some y3 ∧ fourthN c a b = some y4 ∧ fourthN c b a = some y5 := by
  have e := of_decide_eq_true h
  generalize hiddenF a b c = l at e ⊢
  have hl : l.length = 6 := by simpa using (congrArg List.length e).symm
  obtain ⟨y0, y1, y2, y3, y4, y5, rfl⟩ := six hl
  simp only [List.map_cons, List.map_nil, List.cons.injEq, and_true] at e
  obtain ⟨e0, e1, e2, e3, e4, e5⟩ := e
  exact ⟨y0, y1, y2, y3, y4, y5, rfl, e0, e1, e2, e3, e4, e5⟩
theorem law_loop {x y y' : Str} {body : List Stmt} {Q : Flow → Shared → Prop} {dT lO o1 o2 o3 o4 o5 o6 dA dS dL dC : Addr} {q1 q2 q3 q4 q5 q6 nT nO ep eps epl : Nat} {a b c : Nat} {ta tb tc : Tok} {as ws ls : List Value} {oC : Obj} {m₀ : Str → Option Value} {x1 x2 x3 x4 x5 x6 x7 x8 x9 : Addr × Obj} {tl₀ : List (Addr × Obj)}
    (hand : handOk a b c = true) (h27 : a < 27 ∧ b < 27 ∧ c < 27)
    (hh : A.handled = none) (F : Fr h₀ env.locals s.heap m₀)
    (N : News h₀ env.locals s.heap ((dT, PySem.W.listOf #[] nT) :: (lO, PySem.W.listOf #[.ref o1, .ref o2, .ref o3, .ref o4, .ref o5, .ref o6] nO) ::
      (o6, PySem.W.listOf #[.int c tc, .int b tb, .int a ta] q6) :: (o5, PySem.W.listOf #[.int c tc, .int a ta, .int b tb] q5) :: (o4, PySem.W.listOf #[.int b tb, .int c tc, .int a ta] q4) ::
      (o3, PySem.W.listOf #[.int b tb, .int a ta, .int c tc] q3) :: (o2, PySem.W.listOf #[.int a ta, .int c tc, .int b tb] q2) :: (o1, PySem.W.listOf #[.int a ta, .int b tb, .int c tc] q1) ::
      (dA, PySem.W.listOf as.toArray ep) :: x1 :: (dS, PySem.W.listOf ws.toArray eps) :: x2 :: x3 :: x4 :: x5 :: (dL, PySem.W.listOf ls.toArray epl) :: x6 :: x7 :: x8 :: x9 :: (dC, oC) :: tl₀))
    (ne : @Ne Nat dT lO ∧ @Ne Nat o6 lO ∧ @Ne Nat o5 lO ∧ @Ne Nat o4 lO ∧ @Ne Nat o3 lO ∧ @Ne Nat o2 lO ∧ @Ne Nat o1 lO ∧ @Ne Nat dA lO ∧ @Ne Nat dS lO ∧ @Ne Nat dL lO ∧ @Ne Nat dC lO)
    (ne' : @Ne Nat o1 dT ∧ @Ne Nat o2 dT ∧ @Ne Nat o3 dT ∧ @Ne Nat o4 dT ∧ @Ne Nat o5 dT ∧ @Ne Nat o6 dT ∧ @Ne Nat dA dT ∧ @Ne Nat dS dT ∧ @Ne Nat dL dT ∧ @Ne Nat dC dT)
    (turn : ∀ (l : List Int) (O : Addr) (p q r : Nat) (k : Int) t1 t2 t3 nn tl us n u u' h tk,
      p < 27 → q < 27 → r < 27 → fourthN p q r = some k → @Ne Nat O dT → (∀ z ∈ (dA, PySem.W.listOf as.toArray ep) :: (dS, PySem.W.listOf ws.toArray eps) :: tl, z.1 ≠ dT) → IntsAre us l → us.length ≤ 6 →
      Fr h₀ env.locals h (fun z => if z = x then some (.ref O) else if z = y then u else if z = y' then u' else m₀ z) →
      News h₀ env.locals h ((O, PySem.W.listOf #[.int p t1, .int q t2, .int r t3] nn) :: (dT, PySem.W.listOf us.toArray n) :: (dA, PySem.W.listOf as.toArray ep) :: (dS, PySem.W.listOf ws.toArray eps) :: tl) →
      wpAny (model prog w) A (execs body env) (TurnEnd h₀ env.locals dT x y y' m₀ (l ++ [k]) ((dA, PySem.W.listOf as.toArray ep) :: (dS, PySem.W.listOf ws.toArray eps) :: tl) { s with heap := h, toks := tk }) (fun _ _ => False) { s with heap := h, toks := tk })
    (done : ∀ us n u u' u'' h tk, IntsAre us (hiddenF a b c) → (hiddenF a b c).length = 6 → Fr h₀ env.locals h (fun z => if z = x then u'' else if z = y then u else if z = y' then u' else m₀ z) →
      News h₀ env.locals h [(dT, PySem.W.listOf us.toArray n), (dL, PySem.W.listOf ls.toArray epl), (dC, oC)] → Q .next { s with heap := h, toks := tk }) :
    wpAny (model prog w) A (pyIter (.ref lO)) (fun it s₂ => LoopAtV prog w A h₀ env x body Q E it s₂) E s := by
  obtain ⟨y0, y1, y2, y3, y4, y5, eh, f0, f1, f2, f3, f4, f5⟩ := orders6 hand
  rw [eh] at done
  obtain ⟨n0, n6, n5, n4, n3, n2, n1, nA, nS, nL, nC⟩ := ne
  obtain ⟨m1, m2, m3, m4, m5, m6, mA, mS, mL, mC⟩ := ne'
  obtain ⟨ha, hb, hc⟩ := h27
  refine iter_ord (y := y) (y' := y') (s := s) (env := env) (all := _) (pre := []) (d := dT) (us₀ := []) (n₀ := nT)
    (post := (dA, PySem.W.listOf as.toArray ep) :: (dS, PySem.W.listOf ws.toArray eps) :: (dL, PySem.W.listOf ls.toArray epl) :: (dC, oC) ::
      [(o1, PySem.W.listOf #[.int a ta, .int b tb, .int c tc] q1), (o2, PySem.W.listOf #[.int a ta, .int c tc, .int b tb] q2), (o3, PySem.W.listOf #[.int b tb, .int a ta, .int c tc] q3),
       (o4, PySem.W.listOf #[.int b tb, .int c tc, .int a ta] q4), (o5, PySem.W.listOf #[.int c tc, .int a ta, .int b tb] q5), (o6, PySem.W.listOf #[.int c tc, .int b tb, .int a ta] q6)])
    (vs := [.ref o1, .ref o2, .ref o3, .ref o4, .ref o5, .ref o6]) (nn := nO) [y0, y1, y2, y3, y4, y5] hh F N (.tail _ (.head _)) ?_ .nil rfl ?_ ?_
  · intro p hp
    simp only [List.nil_append, List.mem_cons, List.not_mem_nil, or_false] at hp ⊢
    rcases hp with rfl | rfl | rfl | rfl | rfl | rfl | rfl | rfl | rfl | rfl | rfl <;> first
      | exact ⟨.inl rfl, n0⟩
      | (refine ⟨?_, by assumption⟩; simp only [true_or, or_true])
  · intro Q' E' i v us nn u u' h tk own hv hoff hu hul F₁ N₁
    simp only [List.nil_append, List.cons_append] at N₁
    have key : ∃ (O : Addr) (p q r : Nat) (k : Int) (t1 t2 t3 : Tok) (nn : Nat), v = .ref O ∧ p < 27 ∧ q < 27 ∧ r < 27 ∧ fourthN p q r = some k ∧ O ≠ dT ∧ [y0, y1, y2, y3, y4, y5].take (i + 1) = [y0, y1, y2, y3, y4, y5].take i ++ [k] ∧
        h.get? O = some (PySem.W.listOf #[.int p t1, .int q t2, .int r t3] nn) ∧ O ≠ env.locals ∧ h₀.get? O = none := by
      match i, hv with
      | 0, hv => exact ⟨o1, a, b, c, y0, ta, tb, tc, q1, (Option.some.inj hv).symm, ha, hb, hc, f0, m1, rfl, N₁ (o1, _) (by repeat (first | exact List.Mem.head _ | apply List.Mem.tail))⟩
      | 1, hv => exact ⟨o2, a, c, b, y1, ta, tc, tb, q2, (Option.some.inj hv).symm, ha, hc, hb, f1, m2, rfl, N₁ (o2, _) (by repeat (first | exact List.Mem.head _ | apply List.Mem.tail))⟩
      | 2, hv => exact ⟨o3, b, a, c, y2, tb, ta, tc, q3, (Option.some.inj hv).symm, hb, ha, hc, f2, m3, rfl, N₁ (o3, _) (by repeat (first | exact List.Mem.head _ | apply List.Mem.tail))⟩
      | 3, hv => exact ⟨o4, b, c, a, y3, tb, tc, ta, q4, (Option.some.inj hv).symm, hb, hc, ha, f3, m4, rfl, N₁ (o4, _) (by repeat (first | exact List.Mem.head _ | apply List.Mem.tail))⟩
      | 4, hv => exact ⟨o5, c, a, b, y4, tc, ta, tb, q5, (Option.some.inj hv).symm, hc, ha, hb, f4, m5, rfl, N₁ (o5, _) (by repeat (first | exact List.Mem.head _ | apply List.Mem.tail))⟩
      | 5, hv => exact ⟨o6, c, b, a, y5, tc, tb, ta, q6, (Option.some.inj hv).symm, hc, hb, ha, f5, m6, rfl, N₁ (o6, _) (by repeat (first | exact List.Mem.head _ | apply List.Mem.tail))⟩
      | i + 6, hv => cases hv
    obtain ⟨O, p, q, r, k, t1, t2, t3, n3', rfl, hp, hq, hr, hf, hO, ht, hN⟩ := key
    rw [ht]
    have offT : ∀ z ∈ (dA, PySem.W.listOf as.toArray ep) :: (dS, PySem.W.listOf ws.toArray eps) :: (dL, PySem.W.listOf ls.toArray epl) :: (dC, oC) :: (o1, PySem.W.listOf #[.int a ta, .int b tb, .int c tc] q1) :: (o2, PySem.W.listOf #[.int a ta, .int c tc, .int b tb] q2) :: (o3, PySem.W.listOf #[.int b tb, .int a ta, .int c tc] q3) ::
       (o4, PySem.W.listOf #[.int b tb, .int c tc, .int a ta] q4) :: (o5, PySem.W.listOf #[.int c tc, .int a ta, .int b tb] q5) :: (o6, PySem.W.listOf #[.int c tc, .int b tb, .int a ta] q6) :: own, z.1 ≠ dT := by
      intro z hz
      simp only [List.mem_cons] at hz
      rcases hz with rfl | rfl | rfl | rfl | rfl | rfl | rfl | rfl | rfl | rfl | hz
      case inr.inr.inr.inr.inr.inr.inr.inr.inr.inr => exact hoff z hz dT (.head _)
      all_goals assumption
    have go := turn _ O p q r k t1 t2 t3 n3'
      ((dL, PySem.W.listOf ls.toArray epl) :: (dC, oC) :: (o1, PySem.W.listOf #[.int a ta, .int b tb, .int c tc] q1) :: (o2, PySem.W.listOf #[.int a ta, .int c tc, .int b tb] q2) :: (o3, PySem.W.listOf #[.int b tb, .int a ta, .int c tc] q3) ::
       (o4, PySem.W.listOf #[.int b tb, .int c tc, .int a ta] q4) :: (o5, PySem.W.listOf #[.int c tc, .int a ta, .int b tb] q5) :: (o6, PySem.W.listOf #[.int c tc, .int b tb, .int a ta] q6) :: own)
      us nn u u' h tk hp hq hr hf hO offT hu hul F₁ (fun z hz => (List.mem_cons.mp hz).elim (fun e => e ▸ hN) fun hz => N₁ z hz)
    refine wpAny_mono (wpAny_noRaise go) (fun f s₂ e => ?_) fun _ _ e => e
    obtain ⟨rfl, h', tk', m', us', n', rfl, F', N', I', M'⟩ := e
    refine ⟨h', tk', m', _, _, rfl, F', N', fun z hz => ?_, fun z hz => ?_, rfl, ⟨us', n', rfl, I'⟩, M'⟩
    · exact List.mem_append.mpr (.inl hz)
    · exact List.mem_append (s := (_ :: _ :: _ :: _ :: _ :: _ :: _ :: _ :: _ :: _ :: _ :: [])).mpr (.inr hz)
  · intro us nn u u' u'' h tk hu F₁ N₁
    refine done us nn u u' u'' h tk hu rfl F₁ fun z hz => N₁ z ?_
    simp only [List.nil_append, List.mem_cons, List.not_mem_nil, or_false] at hz ⊢
    rcases hz with rfl | rfl | rfl <;> simp only [true_or, or_true]
theorem map_x {x : Str} {m₁ m₀ : Str → Option Value} {v : Value} (hm : ∀ z, z ≠ x → m₁ z = m₀ z) : (fun z => if z = x then some v else m₁ z) = fun z => if z = x then some v else m₀ z := by
  funext z
  by_cases h1 : z = x
  · subst h1; simp only [if_true]
  · simp only [if_neg h1]; exact hm z h1
theorem map_x' {x : Str} {m₁ m₀ : Str → Option Value} (hm : ∀ z, z ≠ x → m₁ z = m₀ z) : m₁ = fun z => if z = x then m₁ x else m₀ z := by
  funext z
  by_cases h1 : z = x
  · subst h1; simp only [if_true]
  · simp only [if_neg h1]; exact hm z h1
theorem flat_len {g : Nat → List Int} (hg : ∀ k, (g k).length ≤ 6) : ∀ l : List Nat, (l.flatMap g).length ≤ 6 * l.length
  | [] => Nat.zero_le _
  | k :: r => by
    have h1 := flat_len hg r
    have h2 := hg k
    simp only [List.flatMap_cons, List.length_append, List.length_cons]
    omega
theorem law_inner {x : Str} {body : List Stmt} {Q : Flow → Shared → Prop} {D O : Addr} {nD nO p q r : Nat} {t1 t2 t3 : Tok} {m₀ : Str → Option Value} {rest : List (Addr × Obj)} (g : Nat → List Int) (hg : ∀ k, (g k).length ≤ 6) (hD : AllLt D ((O, PySem.W.listOf #[.int p t1, .int q t2, .int r t3] nO) :: rest))
    (hh : A.handled = none) (F : Fr h₀ env.locals s.heap m₀)
    (N : News h₀ env.locals s.heap ((D, PySem.W.listOf #[] nD) :: (O, PySem.W.listOf #[.int p t1, .int q t2, .int r t3] nO) :: rest))
    (turn : ∀ (l : List Int) (k : Nat) t tl us n h tk, (k = p ∨ k = q ∨ k = r) → (∀ z ∈ (O, PySem.W.listOf #[.int p t1, .int q t2, .int r t3] nO) :: rest ++ tl, z.1 ≠ D) → IntsAre us l → us.length ≤ 18 →
      Fr h₀ env.locals h (fun z => if z = x then some (.int k t) else m₀ z) →
      News h₀ env.locals h ((D, PySem.W.listOf us.toArray n) :: ((O, PySem.W.listOf #[.int p t1, .int q t2, .int r t3] nO) :: rest ++ tl)) →
      wpAny (model prog w) A (execs body env) (TurnEnd h₀ env.locals D x x x m₀ (l ++ g k) ((O, PySem.W.listOf #[.int p t1, .int q t2, .int r t3] nO) :: rest ++ tl) { s with heap := h, toks := tk }) (fun _ _ => False) { s with heap := h, toks := tk })
    (done : ∀ us n u h tk, IntsAre us (g p ++ (g q ++ (g r ++ []))) → us.length ≤ 18 → Fr h₀ env.locals h (fun z => if z = x then u else m₀ z) →
      News h₀ env.locals h ((D, PySem.W.listOf us.toArray n) :: (O, PySem.W.listOf #[.int p t1, .int q t2, .int r t3] nO) :: rest) → Q .next { s with heap := h, toks := tk }) :
    wpAny (model prog w) A (pyIter (.ref O)) (fun it s₂ => LoopAtV prog w A h₀ env x body Q E it s₂) E s := by
  have hi : IntsAre [.int p t1, .int q t2, .int r t3] [(p : Int), (q : Int), (r : Int)] := .cons _ _ (.cons _ _ (.cons _ _ .nil))
  refine iter_invNL (s := s) (env := env) (l := O) (nn := nO) (vs := [.int p t1, .int q t2, .int r t3]) (ns := [(p : Int), (q : Int), (r : Int)]) (m₀ := m₀)
    (fun i m nx => (∃ us n, nx = (D, PySem.W.listOf us.toArray n) :: (O, PySem.W.listOf #[.int p t1, .int q t2, .int r t3] nO) :: rest ∧ IntsAre us (([p, q, r].take i).flatMap g)) ∧ ∀ z, z ≠ x → m z = m₀ z)
    hh (.tail _ (.head _)) hi F N ⟨⟨[], nD, rfl, .nil⟩, fun _ _ => rfl⟩ ?_ ?_
  · rintro i n t m₁ news₁ h tk own hn _ hoff hl ⟨⟨us, nu, rfl, hu⟩, hm⟩ F₁ N₁
    rw [map_x hm] at F₁
    have hul : us.length ≤ 18 := by
      rw [hu.length]
      have h1 := flat_len hg ([p, q, r].take i)
      have h2 : ([p, q, r].take i).length ≤ 3 := by rw [List.length_take]; exact Nat.min_le_right _ _
      omega
    have key : ∃ k : Nat, n = (k : Int) ∧ (k = p ∨ k = q ∨ k = r) ∧ [p, q, r].take (i + 1) = [p, q, r].take i ++ [k] := by
      match i, hn with
      | 0, hn => exact ⟨p, (Option.some.inj hn).symm, .inl rfl, rfl⟩
      | 1, hn => exact ⟨q, (Option.some.inj hn).symm, .inr (.inl rfl), rfl⟩
      | 2, hn => exact ⟨r, (Option.some.inj hn).symm, .inr (.inr rfl), rfl⟩
      | i + 3, hn => cases hn
    obtain ⟨k, rfl, hk, e⟩ := key
    have off : ∀ z ∈ (O, PySem.W.listOf #[.int p t1, .int q t2, .int r t3] nO) :: rest ++ own, z.1 ≠ D := by
      intro z hz
      rcases List.mem_append.mp hz with hz | hz
      · exact Nat.ne_of_lt (kst_ltOf hD z hz)
      · exact hoff z hz D (.head _)
    have go := turn _ k t own us nu h tk hk off hu hul F₁ N₁
    refine wpAny_mono (wpAny_noRaise go) (fun f s₂ e' => ?_) fun _ _ e => e
    obtain ⟨rfl, h', tk', m', us', n', rfl, F', N', I', M'⟩ := e'
    refine ⟨h', tk', m', _, (D, PySem.W.listOf us'.toArray n') :: (O, PySem.W.listOf #[.int p t1, .int q t2, .int r t3] nO) :: rest, rfl, F', N', fun z hz => ?_, fun z hz => ?_, rfl, .tail _ (.head _), ⟨us', n', rfl, ?_⟩, fun z hz => M' z hz hz hz⟩
    · rcases List.mem_cons.mp hz with rfl | hz
      · exact .head _
      · exact .tail _ (List.mem_append.mpr (.inl hz))
    · exact .tail _ (List.mem_append.mpr (.inr hz))
    · rw [e, List.flatMap_append]
      simpa using I'
  · rintro m₁ news₁ h tk _ ⟨⟨us, nu, rfl, hu⟩, hm⟩ F₁ N₁
    rw [map_x' hm] at F₁
    refine done us nu _ h tk hu ?_ F₁ N₁
    have h1 := flat_len hg [p, q, r]
    rw [hu.length]
    exact h1
end
end Mine
end
section
namespace Mine
section
variable {prog : Program} {w : World} {A : Around} {E : Value → Shared → Prop} {s : Shared} {h₀ : Heap} {L D a b : Addr} {m : Str → Option Value} {news news' : List (Addr × Obj)} {us vs ws : List Value} {l1 l2 : List Int} {n n1 n2 : Nat} {x y : Int} {Q : Value → Shared → Prop}
theorem dig_pos (n : Int) : 0 < (dig n).length := by unfold dig; split <;> (try split) <;> simp
theorem k_addD (F : Fr h₀ L s.heap m) (N : News h₀ L s.heap news) (ha : (a, PySem.W.listOf vs.toArray n1) ∈ news) (hb : (b, PySem.W.listOf ws.toArray n2) ∈ news) (hi : IntsAre vs (dig x)) (hj : IntsAre ws (dig y))
    (h : ∀ D us h', Fr h₀ L h' m → News h₀ L h' ((D, PySem.W.listOf (List.toArray us) 0) :: news) → (∀ p ∈ news, p.1 < D) → IntsAre us (dig x ++ dig y) → us.length ≤ 6 → us.length ≠ 0 → Q (.ref D) { s with heap := h' }) :
    wpAny (model prog w) A (binaryOp .Add (.ref a) (.ref b)) Q E s := by
  have d1 := dig_len x
  have d2 := dig_len y
  have d3 := dig_pos y
  refine kmk_add_ints F N ⟨_, N.get ha, rfl, _, rfl⟩ ⟨_, N.get hb, rfl, _, rfl⟩ hi hj (fun D us h' F' N' l hk => h D us h' F' N' l hk ?_ ?_) (by rw [sizeLine_eq]; omega)
  · rw [hk.length, List.length_append]; omega
  · rw [hk.length, List.length_append]; omega
theorem k_extD (F : Fr h₀ L s.heap m) (N : News h₀ L s.heap news) (hb : (b, PySem.W.listOf ws.toArray n2) ∈ news) (hi : IntsAre us l1) (hj : IntsAre ws l2) (lu : us.length ≤ 18) (lw : ws.length ≤ 6) (hne : ws.length ≠ 0)
    (U : Upd D (PySem.W.listOf us.toArray n) (PySem.W.listOf (us ++ ws).toArray (n + 1)) news news')
    (h : ∀ h', Fr h₀ L h' m → News h₀ L h' news' → IntsAre (us ++ ws) (l1 ++ l2) → Q .none { s with heap := h' }) : wpAny (model prog w) A (call (.builtin "list.extend") [.ref D, .ref b]) Q E s := by
  refine kl_extend (its := us.toArray) (its2 := ws.toArray) (l := us ++ ws) F N hb (by simp) (by simpa using hne) U ?_ ?_ ?_ fun h' F' N' => h h' F' N' (hi.append hj)
  · simp only [Bool.and_eq_true, not_and, Bool.not_eq_true]
    intro _
    unfold Builtin.List.listTooLong
    rw [decide_eq_false_iff_not, sizeLine_eq]
    simp only [List.size_toArray]
    omega
  · rw [sizeLine_eq]; show us.length ≤ _; omega
  · rw [sizeLine_eq]; simp; omega
theorem k_appT {t : Tok} {y : Int} (F : Fr h₀ L s.heap m) (N : News h₀ L s.heap news) (hi : IntsAre us l1) (lu : us.length ≤ 1000)
    (U : Upd D (PySem.W.listOf us.toArray n) (PySem.W.listOf (us ++ [Value.int y t]).toArray (n + 1)) news news')
    (h : ∀ h', Fr h₀ L h' m → News h₀ L h' news' → IntsAre (us ++ [Value.int y t]) (l1 ++ [y]) → Q .none { s with heap := h' }) : wpAny (model prog w) A (call (.builtin "list.append") [.ref D, .int y t]) Q E s := by
  rw [← List.push_toArray] at U
  refine append_K F N U (fun h' F' N' => h h' F' N' (hi.append (.cons _ _ .nil))) ?_
  rw [sizeLine_eq]; show us.length ≤ _; omega
end
end Mine
end
section
namespace Mine
section
variable {prog : Program} {w : World} {A : Around} {E : Value → Shared → Prop} {s : Shared} {env : Env} {h₀ : Heap}
theorem map_xy {x y : Str} {m₁ m₀ : Str → Option Value} {v : Value} (hm : ∀ z, z ≠ x → z ≠ y → m₁ z = m₀ z) : (fun z => if z = x then some v else m₁ z) = fun z => if z = x then some v else if z = y then m₁ y else m₀ z := by
  funext z
  by_cases h1 : z = x
  · subst h1; simp only [if_true]
  · by_cases h2 : z = y
    · subst h2; simp only [if_neg h1, if_true]
    · simp only [if_neg h1, if_neg h2]; exact hm z h1 h2
theorem map_xy' {x y : Str} {m₁ m₀ : Str → Option Value} (hm : ∀ z, z ≠ x → z ≠ y → m₁ z = m₀ z) : m₁ = fun z => if z = x then m₁ x else if z = y then m₁ y else m₀ z := by
  funext z
  by_cases h1 : z = x
  · subst h1; simp only [if_true]
  · by_cases h2 : z = y
    · subst h2; simp only [if_neg h1, if_true]
    · simp only [if_neg h1, if_neg h2]; exact hm z h1 h2
theorem rest3_len (a b c : Int) : (rest3 a b c).length ≤ 27 := by
  have := List.length_filter_le (fun y => !(y == a || y == b || y == c)) (rangeKs 0 27)
  exact this
theorem law_hid {x y : Str} {body : List Stmt} {Q : Flow → Shared → Prop} {D O dT : Addr} {nD nO nT : Nat} {a b c : Int} {ls ts : List Value} {m₀ : Str → Option Value} {rest : List (Addr × Obj)}
    (hi : IntsAre ls (rest3 a b c)) (hne : AllLt D ((dT, PySem.W.listOf ts.toArray nT) :: (O, PySem.W.listOf ls.toArray nO) :: rest))
    (hh : A.handled = none) (F : Fr h₀ env.locals s.heap m₀)
    (N : News h₀ env.locals s.heap ((D, PySem.W.listOf #[] nD) :: (dT, PySem.W.listOf ts.toArray nT) :: (O, PySem.W.listOf ls.toArray nO) :: rest))
    (turn : ∀ (l : List Int) (k : Int) t u tl us n h tk, (∀ z ∈ (dT, PySem.W.listOf ts.toArray nT) :: (O, PySem.W.listOf ls.toArray nO) :: rest ++ tl, z.1 ≠ D) → 0 ≤ k → k ≤ 26 → IntsAre us l → us.length ≤ 1000 →
      Fr h₀ env.locals h (fun z => if z = x then some (.int k t) else if z = y then u else m₀ z) →
      News h₀ env.locals h ((D, PySem.W.listOf us.toArray n) :: ((dT, PySem.W.listOf ts.toArray nT) :: (O, PySem.W.listOf ls.toArray nO) :: rest ++ tl)) →
      wpAny (model prog w) A (execs body env) (TurnEnd h₀ env.locals D x y y m₀ (if isHid a b c k then l ++ [k] else l) ((dT, PySem.W.listOf ts.toArray nT) :: (O, PySem.W.listOf ls.toArray nO) :: rest ++ tl) { s with heap := h, toks := tk }) (fun _ _ => False) { s with heap := h, toks := tk })
    (done : ∀ us n u u' h tk, IntsAre us (hiddenF a b c) → Fr h₀ env.locals h (fun z => if z = x then u' else if z = y then u else m₀ z) →
      News h₀ env.locals h ((D, PySem.W.listOf us.toArray n) :: (dT, PySem.W.listOf ts.toArray nT) :: (O, PySem.W.listOf ls.toArray nO) :: rest) → Q .next { s with heap := h, toks := tk }) :
    wpAny (model prog w) A (pyIter (.ref O)) (fun it s₂ => LoopAtV prog w A h₀ env x body Q E it s₂) E s := by
  refine iter_invNL (s := s) (env := env) (l := O) (nn := nO) (vs := ls) (ns := rest3 a b c) (m₀ := m₀)
    (fun i m nx => (∃ us n, nx = (D, PySem.W.listOf us.toArray n) :: (dT, PySem.W.listOf ts.toArray nT) :: (O, PySem.W.listOf ls.toArray nO) :: rest ∧ IntsAre us (((rest3 a b c).take i).filter (isHid a b c))) ∧ ∀ z, z ≠ x → z ≠ y → m z = m₀ z)
    hh (.tail _ (.tail _ (.head _))) hi F N ⟨⟨[], nD, rfl, .nil⟩, fun _ _ _ => rfl⟩ ?_ ?_
  · rintro i n t m₁ news₁ h tk own hn _ hoff hl ⟨⟨us, nu, rfl, hu⟩, hm⟩ F₁ N₁
    rw [map_xy hm] at F₁
    have hul : us.length ≤ 1000 := by
      rw [hu.length]
      have h1 := List.length_filter_le (isHid a b c) ((rest3 a b c).take i)
      have h2 : ((rest3 a b c).take i).length ≤ (rest3 a b c).length := by rw [List.length_take]; exact Nat.min_le_right _ _
      have h3 := rest3_len a b c
      omega
    have hmem : n ∈ rest3 a b c := List.mem_of_getElem? hn
    have hr := (List.mem_filter.mp hmem).1
    have hb : 0 ≤ n ∧ n ≤ 26 := by
      have := mem_rangeKs hr
      omega
    have off : ∀ z ∈ (dT, PySem.W.listOf ts.toArray nT) :: (O, PySem.W.listOf ls.toArray nO) :: rest ++ own, z.1 ≠ D := by
      intro z hz
      rcases List.mem_append.mp hz with hz | hz
      · exact Nat.ne_of_lt (kst_ltOf hne z hz)
      · exact hoff z hz D (.head _)
    have go := turn _ n t _ own us nu h tk off hb.1 hb.2 hu hul F₁ N₁
    refine wpAny_mono (wpAny_noRaise go) (fun f s₂ e' => ?_) fun _ _ e => e
    obtain ⟨rfl, h', tk', m', us', n', rfl, F', N', I', M'⟩ := e'
    refine ⟨h', tk', m', _, (D, PySem.W.listOf us'.toArray n') :: (dT, PySem.W.listOf ts.toArray nT) :: (O, PySem.W.listOf ls.toArray nO) :: rest, rfl, F', N', fun z hz => ?_, fun z hz => ?_, rfl, .tail _ (.tail _ (.head _)), ⟨us', n', rfl, ?_⟩, fun z h1 h2 => M' z h1 h2 h2⟩
    · rcases List.mem_cons.mp hz with rfl | hz
      · exact .head _
      · exact .tail _ (List.mem_append.mpr (.inl hz))
    · exact .tail _ (List.mem_append.mpr (.inr hz))
    · rw [List.take_add_one, hn, List.filter_append]
      cases e : isHid a b c n with
      | true => rw [e] at I'; simpa [e] using I'
      | false => rw [e] at I'; simpa [e] using I'
  · rintro m₁ news₁ h tk _ ⟨⟨us, nu, rfl, hu⟩, hm⟩ F₁ N₁
    rw [map_xy' hm] at F₁
    rw [List.take_length] at hu
    exact done us nu _ _ h tk hu F₁ N₁
theorem ins4_perm (a b c y : Int) : (ins4 a b c y).Perm [a, b, c, y] := by
  unfold ins4
  split
  · exact (List.Perm.trans (List.Perm.swap _ _ _) (List.Perm.cons _ (List.Perm.trans (List.Perm.swap _ _ _) (List.Perm.cons _ (List.Perm.swap _ _ _)))))
  · split
    · exact List.Perm.cons _ (List.Perm.trans (List.Perm.swap _ _ _) (List.Perm.cons _ (List.Perm.swap _ _ _)))
    · split
      · exact List.Perm.cons _ (List.Perm.cons _ (List.Perm.swap _ _ _))
      · exact List.Perm.refl _
theorem ins4_sorted {a b c y : Int} (h1 : a < b) (h2 : b < c) : (ins4 a b c y).Pairwise (· ≤ ·) := by
  unfold ins4
  repeat' split
  all_goals (simp only [List.pairwise_cons, List.mem_cons, List.not_mem_nil, or_false, forall_eq_or_imp, forall_eq, List.Pairwise.nil, and_true, false_implies, implies_true]; omega)
theorem ins4_eq {a b c y : Int} {l : List Int} (h1 : a < b) (h2 : b < c) (hp : l.Perm [a, b, c, y]) (ho : l.Pairwise (· ≤ ·)) : l = ins4 a b c y :=
  List.Perm.eq_of_pairwise (fun _ _ _ _ h1 h2 => Int.le_antisymm h1 h2) ho (ins4_sorted h1 h2) (hp.trans (ins4_perm a b c y).symm)
theorem ins4_len (a b c y : Int) : (ins4 a b c y).length = 4 := (ins4_perm a b c y).length_eq
end
end Mine
end
section
namespace Mine
theorem kfill22 : (PySem.Challenge.rw_wb0057_01, K) = (PySem.Challenge.rw_wb0057_01, K) := by k_fill; rfl
theorem k_succ {z : Int} {k : Nat} (h : z.toNat - 1 = k ∧ 0 < z) : z = (k : Int) + 1 := by omega
theorem fmod_bd (d : Int) {k : Int} (h : 0 < k) : 0 ≤ d.fmod k ∧ d.fmod k < k := ⟨Int.fmod_nonneg_of_pos d h, Int.fmod_lt_of_pos d h⟩
local macro_rules | `(tactic| k_ne) => `(tactic| (refine neN ?_; (try dsimp only); (rename (Ne _ _ ∧ Ne _ _ ∧ Ne _ _) ∧ _ => hz9); first | (simp only [hz9, ne_eq, not_false_eq_true]; done) | (refine Ne.symm ?_; simp only [hz9, ne_eq, not_false_eq_true]; done)))
local macro_rules | `(tactic| walk_at "call type:list") => `(tactic| (refine hold ?_))
local macro_rules | `(tactic| walk_at "call builtin:list.pop") => `(tactic| (k_here; (with_reducible show wpAny _ _ (call (Value.builtin _) [Value.ref _, Value.int _ _]) _ _ _); k_dflt (refine' k_pop ?F ?N ?U ?i ?l ?z ?a ?b ?c ?_; (case F => k_asm); (case N => k_asm); (case U => k_upd); (case i => assumption); (case l => assumption); (case z => exact k_succ ⟨rfl, by decide⟩); (case a => omega); (case b => omega); (case c => decide); k_whole; intro h' t' F' N' hI' hL'; (simp only [Int.reduceSub] at hL'))))
local macro_rules | `(tactic| walk_at "call builtin:len") => `(tactic| (k_here; (with_reducible show wpAny _ _ (call (Value.builtin _) [Value.ref _]) _ _ _); k_dflt (refine' k_len ?N ?m ?l ?c ?_; (case N => k_asm); (case m => k_mem); (case l => assumption); (case c => decide); k_whole; intro t' tk')))
local macro_rules | `(tactic| walk_at "call builtin:len") => `(tactic| (k_here; (with_reducible show wpAny _ _ (call (Value.builtin _) [Value.ref _]) _ _ _); k_dflt (refine' k_lenB ?F ?l ?i ?c ?_; (case F => k_asm); (case l => assumption); (case i => assumption); (case c => assumption); k_whole; intro t' tk')))
local macro_rules | `(tactic| walk_at "CompSrc") => `(tactic| (k_here; k_dflt (refine LCg.CompSrc.ledger (by rfl) (by k_asm) (by k_asm) (by k_mem) (by first | size_fits | exact Nat.le_of_ble_eq_true rfl) ?_; intro g'; lcg_lit)))
local macro_rules | `(tactic| walk_at "call builtin:sorted") => `(tactic| (k_here; (with_reducible show wpAny _ _ (call (Value.builtin _) [Value.ref _]) _ _ _); (with_unfolding_all refine' kso_sorted ?k1 ?k2 ?k3 ?k4 ?k5 ?_; (case k1 => k_asm); (case k2 => k_asm); (case k3 => kso_list); (case k4 => l_ints); (case k5 => kso_len); k_whole); intro D' v' n' c' h' F' N' l1 i' e' p' o' b'; (try k_lt l1); refine hold ?_))
local macro_rules | `(tactic| walk_at "subscriptTail Name Slice ref ref") => `(tactic| (k_here; (with_reducible show wpAny _ _ (subscriptTail _ (PySem.Expr.Slice (some _) (some _) none _) (Value.ref _) (Value.ref _)) _ _ _); k_dflt (refine' kmk_slice_ints ?F ?N ?l ?p ?q ?i ?m ?c ?_ ?s ?t ?z; (case F => k_asm); (case N => k_asm); (case l => kmk_list); (case p => exact IsPart.int _ _); (case q => exact IsPart.int _ _); (case i => l_ints); (case m => exact kmk_run (by l_ints) (by omega) (by omega)); (case c => exact rfl); (case s => with_unfolding_all rfl); (case t => kmk_pure); (case z => kmk_size)); intro D' ws' h' F' N' l1 hI' hC' hL'; (replace hI' := suit_slice (by omega) (by omega) hI'); clear hC' hL'; (try k_lt l1); (try k_sweep)))
local macro_rules | `(tactic| walk_at "subscriptTail") => `(tactic| (k_here; (with_reducible show wpAny _ _ (subscriptTail (PySem.Expr.List _ _) _ (Value.ref _) (Value.int _ _)) _ _ _); k_dflt (refine' k_itemT ?N ?m ?i 8 ?z ?a ?b ?c ?_; (case N => k_asm); (case m => k_mem); (case i => l_ints); (case z => exact rfl); (case a => omega); (case b => omega); (case c => decide)); k_whole; intro t'))
local macro_rules | `(tactic| walk_at "subscriptTail Name Constant ref int") => `(tactic| (k_here; (with_reducible show wpAny _ _ (subscriptTail _ _ (Value.ref _) (Value.int _ _)) _ _ _); k_dflt (refine' k_itemC ?N ?m ?i ?z ?a ?b ?_; (case N => k_asm); (case m => k_mem); (case i => l_ints); (case z => exact rfl); (case a => decide); (case b => decide)); k_whole; intro t'))
local macro_rules | `(tactic| walk_at "call ref") => `(tactic| (k_here; (with_reducible show wpAny _ _ (call (Value.ref 99) _) _ _ _); k_dflt (refine' k_oct ?F ?N ?W ?A ?a ?b ?_; (case F => k_asm); (case N => k_asm); (case W => assumption); (case A => k_room); (case a => assumption); (case b => assumption); k_whole; intro h' tk' a' vs' ep' F' N' ne' I' L'; (simp only [AllNe, and_true] at ne'))))
local macro_rules | `(tactic| walk_at "call ref") => `(tactic| (k_here; (with_reducible show wpAny _ _ (call (Value.ref 109) _) _ _ _); refine hold ?_))
local macro_rules | `(tactic| walk_at "subscriptTail Name Slice ref ref") => `(tactic| (k_here; (with_reducible show wpAny _ _ (subscriptTail _ (PySem.Expr.Slice (some _) none none _) (Value.ref _) (Value.ref _)) _ _ _); k_dflt (refine' kmk_slice_ints ?F ?N ?l ?p ?q ?i ?m ?c ?_ ?s ?t ?z; (case F => k_asm); (case N => k_asm); (case l => kmk_list); (case p => exact IsPart.int _ _); (case q => exact IsPart.none); (case i => l_ints); (case m => exact kmk_from (by l_ints) (Int.natCast_nonneg _)); (case c => exact List.length_drop ..); (case s => with_unfolding_all rfl); (case t => kmk_pure); (case z => kmk_size)); intro D' ws' h' F' N' l1 hI' hC' hL'; (try k_lt l1); (try k_sweep)))
local macro_rules | `(tactic| walk_at "subscriptTail Name BinOp ref int") => `(tactic| (k_here; (with_reducible show wpAny _ _ (subscriptTail _ _ (Value.ref _) (Value.int _ _)) _ _ _); k_dflt (first
  | (refine' k_item ?N ?m ?i 4 ?z ?a ?b ?c ?_; (case N => k_asm); (case m => k_mem); (case i => assumption); (case z => exact ins4_len _ _ _ _); (case a => omega); (case b => omega); (case c => decide))
  | (refine' k_item ?N ?m ?i 3 ?z ?a ?b ?c ?_; (case N => k_asm); (case m => k_mem); (case i => assumption); (case z => exact rfl); (case a => omega); (case b => omega); (case c => decide))); k_whole; intro t'))
local macro_rules | `(tactic| walk_at "pyIter ref") => `(tactic| (k_here; (with_reducible show wpAny _ _ (pyIter _) _ _ _); refine hold ?_))
local macro_rules | `(tactic| walk_at "exec For Name Name cons nil") => `(tactic| (k_here; (rename Fr _ _ _ _ => lF'); (with_unfolding_all refine' For_invVF lF' ?k1 ?k2 ?_; (case k1 => exact rfl); (case k2 => exact rfl); k_whole)))
local macro_rules | `(tactic| walk_at "binaryOp Add ref ref") => `(tactic| (k_here; (with_reducible show wpAny _ _ (binaryOp _ (Value.ref _) (Value.ref _)) _ _ _); k_dflt (refine' k_addD ?F ?N ?a ?b ?i ?j ?_; (case F => k_asm); (case N => k_asm); (case a => k_mem); (case b => k_mem); (case i => assumption); (case j => assumption); k_whole); intro D' ws' h' F' N' l1 hI' hL' hP'; (try k_lt l1); (try k_sweep)))
local macro_rules | `(tactic| walk_at "call builtin:list.extend") => `(tactic| (k_here; (with_reducible show wpAny _ _ (call (Value.builtin _) [Value.ref _, Value.ref _]) _ _ _); k_dflt (refine' k_extD ?F ?N ?b ?i ?j ?u ?v ?e ?U ?_; (case F => k_asm); (case N => k_asm); (case U => (first | k_upd | exact Upd.tail (by k_ne) (Upd.tail (by k_ne) (Upd.head (by assumption))))); (case b => k_mem); (case i => assumption); (case j => assumption); (case u => assumption); (case v => assumption); (case e => assumption); k_whole); intro h' F' N' hI'; (try k_sweep)))
local macro_rules | `(tactic| walk_at "call builtin:list.append") => `(tactic| (k_here; (with_reducible show wpAny _ _ (call (Value.builtin _) [Value.ref _, Value.int _ _]) _ _ _); k_dflt (refine' k_appT ?F ?N ?i ?u ?U ?_; (case F => k_asm); (case N => k_asm); (case U => exact Upd.tail (by k_ne) (Upd.tail (by k_ne) (Upd.head (by assumption)))); (case i => assumption); (case u => omega); k_whole); intro h' F' N' hI'; (try k_sweep)))
set_option maxRecDepth 100000 in
set_option maxHeartbeats 8000000 in
theorem c_law {prog : Program} {w : World} {mean} {mg mb : Str → Option Value} {s : Shared} {R : Result → Shared → Prop} {l : Addr} {vs : List Value} {ns : List Int}
    (W : Wd w mean mg mb s.heap) (B : Below callerA s.heap [] s.heap) (hl : s.heap.IsList l vs.toArray) (hi : IntsAre vs ns) (hlen : ns.length ≤ 63) (hlay : (PyData.list (ns.map PyData.int)).layable0 = true)
    (HR : ∀ h' tk, s.heap.StaysIn h' → R (.ok (.ret (.bool true))) { s with heap := h', toks := tk }) :
    codeAny (model prog w) callerA (.call (.ref 114) ⟨[.ref l], []⟩) R s := by
  have KX := W.X
  have T := W.T
  obtain ⟨d0, d1, d2, d3, d4, hd⟩ := drawn5 ns
  have b0 := fmod_bd d0 (k := 27) (by decide)
  have b1 := fmod_bd d1 (k := 26) (by decide)
  have b2 := fmod_bd d2 (k := 25) (by decide)
  refine call_cells (binds := [(Str.ofString "script", .ref l)]) T.nolimit (KX 114 _ (by k_is)) rfl (codeRec_of KX (by k_is)) (by decide) (BindsTo.of_eq rfl) ?hl ?hc (fun h₁ tk₁ cells F N Y => ?_) rfl rfl rfl
  case hl => exact kindsX rfl
  case hc => decide +kernel
  k_cells Y
  (try simp only [List.cons_append, List.nil_append] at N)
  k_steps
  unfold Hold
  (rename IntsAre _ (_ ++ _) => HI)
  rw [hd] at HI
  obtain ⟨t0, t1, t2, t3, t4, rfl⟩ := ints5 HI
  (rename IsRange _ _ _ _ _ _ _ _ => RR)
  refine' kll_range rfl ?F ?N RR rfl (n := 27) rfl (by decide) ?_
  case F => k_asm
  case N => k_asm
  intro D' us c' h' tk' F' N' l1 hI'
  k_lt l1
  have hL : ((us.length : Nat) : Int) = 27 := by rw [hI'.length]; rfl
  k_steps
  unfold Hold
  (rename List.Perm _ _ => PP)
  (rename List.Pairwise _ _ => OO)
  (rename IntsAre _ _ => II)
  obtain ⟨low, mid, high, rfl, r0, r1, r2, r3, hrest⟩ := pops (by omega) (by omega) (by omega) PP.length_eq PP OO
  obtain ⟨u0, u1, u2, rfl⟩ := ints3 II
  obtain ⟨a, rfl⟩ := Int.eq_ofNat_of_zero_le r0
  obtain ⟨b, rfl⟩ := Int.eq_ofNat_of_zero_le (a := mid) (by omega)
  obtain ⟨c, rfl⟩ := Int.eq_ofNat_of_zero_le (a := high) (by omega)
  have qa := fdiv9 (a := a) (by omega)
  have qb := fdiv9 (a := b) (by omega)
  have qc := fdiv9 (a := c) (by omega)
  have b3 := fmod_bd d3 (k := 7) (by decide)
  have b4 := fmod_bd d4 (k := 8) (by decide)
  obtain ⟨A0, A1, A2⟩ := ahead_ok b4.1 b4.2
  obtain ⟨X0, X1⟩ := card_bd (f := (d3.fmod 7).toNat) (a := a) (by omega) (by omega)
  obtain ⟨Y0, Y1⟩ := card_bd (f := (d3.fmod 7).toNat) (a := b) (by omega) (by omega)
  obtain ⟨Z0, Z1⟩ := card_bd (f := (d3.fmod 7).toNat) (a := c) (by omega) (by omega)
  unfold aheadTab at A0 A1 A2
  unfold cardX at X0 X1 Y0 Y1 Z0 Z1
  k_steps
  unfold Hold
  (rename Fr _ _ _ _ => FF)
  (rename News _ _ _ _ => NN)
  with_unfolding_all refine' law_loop (y := Str.ofString "octets") (y' := Str.ofString "number") ?hand ?h27 ?hh FF NN ?ne ?ne' ?turn ?done
  case hand => exact all_hands (by omega) (by omega) (by omega)
  case h27 => omega
  case hh => rfl
  case ne => omega
  case ne' => omega
  case turn =>
    clear FF NN
    intro l O p q r k t1 t2 t3 nn tl us n u u' h tk hp hq hr hf hO oT hu hul F₁ N₁
    rename IntsAre _ (dig _) => IA
    rename IntsAre _ (suit3 _) => IS
    k_steps
    unfold Hold
    (rename Fr _ _ _ _ => FF)
    (rename News _ _ _ _ => NN)
    with_unfolding_all refine' law_inner (fun k => dig ([173, 847, 6155, 8203, 8288, 65024, 65039, 65279].getD (d4.fmod 8).toNat 0) ++ dig (cardX (suit3 (d3.fmod 7).toNat) k)) ?ig ?iD ?ih FF NN ?iturn ?idone
    case ig => intro k; rw [List.length_append]; exact Nat.add_le_add (dig_len _) (dig_len _)
    case iD => assumption
    case ih => rfl
    case iturn =>
      clear FF NN
      intro l2 k tk' tl' us' n' h' tk'' hk oD I1 L1 F₁ N₁
      have hk7 : k < 27 := by omega
      clear hk hp hq hr hu hul hf
      have qp := fdiv9 (a := k) hk7
      obtain ⟨X0, X1⟩ := card_bd (f := (d3.fmod 7).toNat) (a := k) (by omega) hk7
      unfold cardX at X0 X1
      simp only [List.cons_append] at N₁
      k_steps
      (rename Fr _ _ _ _ => FF)
      (rename News _ _ _ _ => NN)
      (rename IntsAre (_ ++ _) _ => II)
      exact ⟨rfl, _, _, _, _, _, rfl, FF, fun z hz => NN z (.tail _ (.tail _ hz)), II, fun z h1 _ _ => if_neg h1⟩
    case idone =>
      clear FF NN
      intro us' n' u' h' tk' I1 L1 F₁ N₁
      k_steps
      unfold Hold
      (rename Fr _ _ _ _ => FF)
      (rename News _ _ _ _ => NN)
      refine' k_fourth (f := (d3.fmod 7).toNat) (a1 := p) (a2 := q) (a3 := r) ?jf ?jk W B FF NN ?jl I1 ?jns ?js IS ?j7 hp hq hr rfl rfl rfl A0 A1 A2 hf ?_
      case jf => rfl
      case jk => rfl
      case jl => k_mem
      case jns => simp only [List.flatMap_cons, List.flatMap_nil, List.append_assoc, List.append_nil]
      case js => k_mem
      case j7 => omega
      intro h2 tk2 t2' F2 N2
      clear FF NN
      k_steps
      (rename Fr _ _ _ _ => FF)
      (rename News _ _ _ _ => NN)
      (rename IntsAre (_ ++ _) _ => II)
      exact ⟨rfl, _, _, _, _, _, rfl, FF, fun z hz => NN z (.tail _ (.tail _ hz)), II, fun z h1 h2 h3 => by simp only [if_neg h1, if_neg h2, if_neg h3]⟩
  case done =>
    clear FF NN
    intro us n u u' u'' h tk hu hhl F₁ N₁
    k_steps
    unfold Hold
    (rename Fr _ _ _ _ => FF)
    (rename News _ _ _ _ => NN)
    (rename IntsAre (List.eraseIdx (List.eraseIdx (List.eraseIdx _ _) _) _) _ => IR)
    rw [hrest] at IR
    with_unfolding_all refine' law_hid (y := Str.ofString "hand") IR ?kne ?kh FF NN ?kturn ?kdone
    case kne => (simp only [AllLt, and_true]; assumption)
    case kh => rfl
    case kturn =>
      clear FF NN
      intro l2 k t u' tl us2 n2 h2 tk2 oD k0 k26 I1 L1 F₁ N₁
      simp only [List.cons_append, List.nil_append] at N₁ oD
      k_steps
      unfold Hold
      (rename List.Perm _ _ => PP)
      (rename List.Pairwise _ _ => OO)
      (rename IntsAre _ _ => II)
      have e4 := ins4_eq r1 r2 PP OO
      subst e4
      clear PP OO
      have fb := fmod_bd (ins4 a b c k).sum (k := 4) (by decide)
      k_steps
      · (rename Fr _ _ _ _ => FF)
        (rename News _ _ _ _ => NN)
        (rename IntsAre (_ ++ _) _ => IJ)
        (rename List.getD _ _ _ = _ => HC)
        have e : isHid a b c k = true := beq_iff_eq.mpr HC
        rw [if_pos e]
        exact ⟨rfl, _, _, _, _, _, rfl, FF, fun z hz => NN z (.tail _ (.tail _ hz)), IJ, fun z h1 h2 _ => by simp only [if_neg h1, if_neg h2]⟩
      · (rename Fr _ _ _ _ => FF)
        (rename News _ _ _ _ => NN)
        (rename List.getD _ _ _ ≠ _ => HC)
        have e : ¬ isHid a b c k = true := fun q => HC (beq_iff_eq.mp q)
        rw [if_neg e]
        exact ⟨rfl, _, _, _, _, _, rfl, FF, fun z hz => NN z (.tail _ (.tail _ hz)), I1, fun z h1 h2 _ => by simp only [if_neg h1, if_neg h2]⟩
    case kdone =>
      clear FF NN
      intro us2 n2 u2' u3' h2 tk2 I1 F₁ N₁
      k_steps
      (rename Fr _ _ _ _ => FF)
      exact HR _ _ (fun b o e => FF.keep b o e)
end Mine
end
section
namespace Mine
section
variable (tb : String → Option Builtin) (p : Program) (w : World) (n₀ : Nat) (ann : Option Value)
def evC : Nat → Sem Fin → SharedT → Option (Flow × SharedT)
  | 0, _, _ => none
  | n + 1, x, S => match x with
    | .pure (.done f) => some (f, S)
    | .pure (.again c) => match c.quiet with
      | true => evC n (denote tb c) S
      | false => none
    | .fresh k => evC n (k S.toks) { S with toks := S.toks + 1 }
    | .rule _ k => evC n (k ()) S
    | .ask k => evC n (k ⟨p, w.params⟩) S
    | _ => none
def evS {α : Type} : Nat → Sem α → Pos → SharedT → Option (α × Pos × SharedT)
  | 0, _, _, _ => none
  | n + 1, x, q, S => match x with
    | .pure a => some (a, q, S)
    | .rule _ k => evS n (k ()) q S
    | .at q' k => evS n (k ()) q' S
    | .load a _ k => match Nat.blt a S.n with
      | true => match S.tree.get a with
        | some o => match alive o with
          | some o' => evS n (k o') q S
          | none => none
        | none => none
      | false => none
    | .update a _ f k => match (Nat.ble n₀ a || a == mainNs) with
      | true => match Nat.blt a S.n with
        | true => match S.tree.get a with
          | some o => match alive o with
            | some _ => evS n (k ()) q { S with tree := S.tree.set a f }
            | none => none
          | none => none
        | false => none
      | false => none
    | .alloc o k => match ((S.tree.ins S.n o).get S.n).isSome with
      | true => evS n (k S.n) q { S with tree := S.tree.ins S.n o, n := S.n + 1 }
      | false => none
    | .point _ k => evS n (k ()) q S
    | .fresh k => evS n (k S.toks) q { S with toks := S.toks + 1 }
    | .ask k => evS n (k ⟨p, w.params⟩) q S
    | .call c _ _ _ k => match evC tb p w 10 (denote tb c) S with
      | some (f, S') => evS n (k (.ok f)) q S'
      | none => none
    | _ => none
end
section
variable {tb : String → Option Builtin} {p : Program} {w : World} {n₀ : Nat} {ann : Option Value}
theorem segRun_mono1 : ∀ (n : Nat) (s : Shared) (t : Thread) (r : Flow × Shared × Code × Pos), segRun tb p w n₀ ann 1 n s t = some r → segRun tb p w n₀ ann 1 (n + 1) s t = some r
  | 0, _, _, _, h => by cases h
  | n + 1, s, t, r, h => by
    unfold segRun at h ⊢
    cases he : endAt 1 t with
    | some f => rw [he] at h; exact h
    | none =>
      rw [he] at h
      cases hk : stepOk n₀ ann t with
      | false => rw [hk] at h; cases h
      | true =>
        rw [hk] at h
        cases hs : step (denote tb) p w s t with
        | halt o s' => rw [hs] at h; cases h
        | go s' t' => rw [hs] at h; exact segRun_mono1 n s' t' r h
theorem segRun_mono {n : Nat} {s : Shared} {t : Thread} {r : Flow × Shared × Code × Pos} (k : Nat) (h : segRun tb p w n₀ ann 1 n s t = some r) : segRun tb p w n₀ ann 1 (n + k) s t = some r := by
  induction k with
  | zero => exact h
  | succ k ih => exact segRun_mono1 _ _ _ _ ih
theorem segRun_le {n m : Nat} {s : Shared} {t : Thread} {r : Flow × Shared × Code × Pos} (k : n ≤ m) (h : segRun tb p w n₀ ann 1 n s t = some r) : segRun tb p w n₀ ann 1 m s t = some r := by
  have := segRun_mono (m - n) h
  rwa [show n + (m - n) = m by omega] at this
theorem segRun_step {n : Nat} {s s' : Shared} {t t' : Thread} {r : Flow × Shared × Code × Pos} (he : endAt 1 t = none) (hk : stepOk n₀ ann t = true) (hs : step (denote tb) p w s t = .go s' t') (h : segRun tb p w n₀ ann 1 n s' t' = some r) :
    segRun tb p w n₀ ann 1 (n + 1) s t = some r := by
  unfold segRun
  rw [he, hk, hs]
  exact h
theorem evC_ok {kk : Result → Sem Fin} {hd : Option Value} {g : Bool} {c0 : Code} {p0 : Pos} {fr : Frame} {r : Flow × Shared × Code × Pos} : ∀ (n : Nat) (x : Sem Fin) (S : SharedT) (f : Flow) (S' : SharedT), evC tb p w n x S = some (f, S') →
    ∀ (c : Code) (q : Pos) (l kept : List Value) (N : Nat), segRun tb p w n₀ ann 1 N S'.abs ⟨kk (.ok f), c0, p0, [fr]⟩ = some r →
      segRun tb p w n₀ ann 1 (n + N) S.abs ⟨x, c, q, [.ret kk hd g l c0 p0 kept, fr]⟩ = some r
  | 0, _, _, _, _, h => by cases h
  | n + 1, x, S, f, S', h => by
    intro c q l kept N hN
    rw [show n + 1 + N = (n + N) + 1 by omega]
    cases x with
    | pure y =>
      cases y with
      | done f' =>
        cases h
        exact segRun_step rfl rfl rfl (segRun_le (by omega) hN)
      | again c' =>
        unfold evC at h
        dsimp only at h
        cases hq : c'.quiet with
        | false => rw [hq] at h; cases h
        | true =>
          rw [hq] at h
          have st : stepOk n₀ ann ⟨.pure (.again c'), c, q, [.ret kk hd g l c0 p0 kept, fr]⟩ = true := by
            show (Thread.calm _ && true) = true
            rw [Bool.and_true, Thread.calm_eq, Thread.loud_again, hq]
            rfl
          have e := fun kept' => evC_ok (hd := hd) (g := g) n _ _ _ _ h c' q l kept' N hN
          cases c' <;> cases c <;> exact segRun_step rfl st rfl (e _)
    | fresh k => exact segRun_step rfl rfl rfl (evC_ok n _ _ _ _ h c q l kept N hN)
    | rule t k => exact segRun_step rfl rfl rfl (evC_ok n _ _ _ _ h c q l kept N hN)
    | ask k => exact segRun_step rfl rfl rfl (evC_ok n _ _ _ _ h c q l kept N hN)
    | _ => cases h
def Rn (tb : String → Option Builtin) (p : Program) (w : World) (n₀ : Nat) (ann : Option Value) (c : Code) (fr : Frame) {α : Type} (B : Nat) (x : Sem α) (q : Pos) (S : SharedT) (a : α) (q' : Pos) (S' : SharedT) : Prop :=
  ∀ (K : α → Sem Fin) (H : Value → Sem Fin) (gd : Bool → Bool) (lv : List Value → List Value) (N : Nat) (r : Flow × Shared × Code × Pos),
    segRun tb p w n₀ ann 1 N S'.abs ⟨K a, c, q', [fr]⟩ = some r → segRun tb p w n₀ ann 1 (B + N) S.abs ⟨x.wrap K H gd lv, c, q, [fr]⟩ = some r
variable {c : Code} {fr : Frame}
theorem Rn.more {α : Type} {B B' : Nat} {x : Sem α} {q q' : Pos} {S S' : SharedT} {a : α} (h : Rn tb p w n₀ ann c fr B x q S a q' S') (k : B ≤ B') : Rn tb p w n₀ ann c fr B' x q S a q' S' := fun K H gd lv N r e => segRun_le (by omega) (h K H gd lv N r e)
theorem Rn.bind {α β : Type} {B B' : Nat} {x : Sem α} {f : α → Sem β} {q q' q'' : Pos} {S S' S'' : SharedT} {a : α} {b : β} (h : Rn tb p w n₀ ann c fr B x q S a q' S') (k : Rn tb p w n₀ ann c fr B' (f a) q' S' b q'' S'') :
    Rn tb p w n₀ ann c fr (B + B') (x >>= f) q S b q'' S'' := fun K H gd lv N r e => by
  rw [Sem.bind_eq_wrap', Sem.wrap_wrap]
  have := h (fun a => (f a).wrap K H gd lv) (fun e => (Sem.raise e : Sem β).wrap K H gd lv) (gd ∘ id) (lv ∘ id) (B' + N) r (k K H gd lv N r e)
  rw [show B + B' + N = B + (B' + N) by omega]
  exact this
theorem Rn.pure {α : Type} {q : Pos} {S : SharedT} {a : α} : Rn tb p w n₀ ann c fr 0 (Pure.pure a : Sem α) q S a q S := fun K H gd lv N r e => by rw [Nat.zero_add]; exact e
theorem evS_ok {α : Type} : ∀ (n : Nat) (x : Sem α) (q : Pos) (S : SharedT) (a : α) (q' : Pos) (S' : SharedT), evS tb p w n₀ n x q S = some (a, q', S') → Rn tb p w n₀ ann c fr (12 * n) x q S a q' S'
  | 0, _, _, _, _, _, _, h => by cases h
  | n + 1, x, q, S, a, q', S', h => by
    intro K H gd lv N r hN
    have one : ∀ {s : Shared} {t : Thread} {s' : Shared} {t' : Thread}, endAt 1 t = none → stepOk n₀ ann t = true → step (denote tb) p w s t = .go s' t' → segRun tb p w n₀ ann 1 (12 * n + N) s' t' = some r → segRun tb p w n₀ ann 1 (12 * (n + 1) + N) s t = some r :=
      fun he hk hs h => segRun_le (by omega) (segRun_step he hk hs h)
    obtain ⟨T, m, life, gens, drawn, toks, os⟩ := S
    cases x with
    | pure b =>
      cases h
      exact segRun_le (by omega) hN
    | rule t k => exact one rfl rfl rfl (evS_ok n _ _ _ _ _ _ h K H gd lv N r hN)
    | «at» t k => exact one rfl rfl rfl (evS_ok n _ _ _ _ _ _ h K H gd lv N r hN)
    | point t k => exact one rfl rfl rfl (evS_ok n _ _ _ _ _ _ h K H gd lv N r hN)
    | fresh k => exact one rfl rfl rfl (evS_ok n _ _ _ _ _ _ h K H gd lv N r hN)
    | ask k => exact one rfl rfl rfl (evS_ok n _ _ _ _ _ _ h K H gd lv N r hN)
    | load b part k =>
      unfold evS at h
      dsimp only at h
      split at h
      · rename_i h1
        split at h
        · rename_i o h2
          split at h
          · rename_i o' h3
            refine one rfl rfl ?_ (evS_ok n _ _ _ _ _ _ h K H gd lv N r hN)
            refine stepT_spec (s := ⟨T, m, life, gens, drawn, toks, os⟩) (t := ⟨(Sem.load b part k).wrap K H gd lv, c, q, [fr]⟩) (s' := ⟨T, m, life, gens, drawn, toks, os⟩) ?_
            simp only [Sem.wrap, stepT, h1, h2, h3]
          · cases h
        · cases h
      · cases h
    | update b part f k =>
      unfold evS at h
      dsimp only at h
      split at h
      · rename_i h0
        split at h
        · rename_i h1
          split at h
          · rename_i o h2
            split at h
            · rename_i o' h3
              refine one rfl ?_ ?_ (evS_ok n _ _ _ _ _ _ h K H gd lv N r hN)
              · show (true && (Nat.ble n₀ b || b == mainNs || b == cStatics || ann == some (.ref b))) = true
                rw [h0]; rfl
              · refine stepT_spec (s := ⟨T, m, life, gens, drawn, toks, os⟩) (t := ⟨(Sem.update b part f k).wrap K H gd lv, c, q, [fr]⟩) (s' := ⟨T.set b f, m, life, gens, drawn, toks, os⟩) ?_
                simp only [Sem.wrap, stepT, h1, h2, h3]
            · cases h
          · cases h
        · cases h
      · cases h
    | alloc o k =>
      unfold evS at h
      dsimp only at h
      split at h
      · rename_i h1
        refine one rfl rfl ?_ (evS_ok n _ _ _ _ _ _ h K H gd lv N r hN)
        refine stepT_spec (s := ⟨T, m, life, gens, drawn, toks, os⟩) (t := ⟨(Sem.alloc o k).wrap K H gd lv, c, q, [fr]⟩) (s' := ⟨T.ins m o, m + 1, life, gens, drawn, toks, os⟩) ?_
        simp only [Sem.wrap, stepT, h1]
      · cases h
    | call c' hd g l k =>
      unfold evS at h
      dsimp only at h
      split at h
      · rename_i f S₂ h1
        have e := evS_ok n _ _ _ _ _ _ h K H gd lv N r hN
        have e2 := fun kept => evC_ok (ann := ann) (n₀ := n₀) (kk := fun x => (k x).wrap K H gd lv) (hd := hd) (g := gd g) (c0 := c) (p0 := q) (fr := fr) 10 _ _ _ _ h1 c' q (lv l) kept _ e
        refine segRun_le (n := (10 + (12 * n + N)) + 1) (by omega) (segRun_step rfl rfl rfl (e2 _))
      · cases h
    | _ => cases h
end
end Mine
end
section
namespace Mine
structure RC where
  tb : String → Option Builtin
  p : Program
  w : World
  n₀ : Nat
  ann : Option Value
  c : Code
  fr : Frame
def Go {α : Type} (R : RC) (B : Nat) (x : Sem α) (q : Pos) (s : Shared) (a : α) (q' : Pos) (s' : Shared) : Prop :=
  ∀ (K : α → Sem Fin) (H : Value → Sem Fin) (gd : Bool → Bool) (lv : List Value → List Value) (N : Nat) (r : Flow × Shared × Code × Pos),
    segRun R.tb R.p R.w R.n₀ R.ann 1 N s' ⟨K a, R.c, q', [R.fr]⟩ = some r → segRun R.tb R.p R.w R.n₀ R.ann 1 (B + N) s ⟨x.wrap K H gd lv, R.c, q, [R.fr]⟩ = some r
section
variable {R : RC} {α β : Type} {B B' C : Nat} {q q' q'' : Pos} {s s' s'' : Shared} {a : α} {b : β}
theorem go_of {S S' : SharedT} {x : Sem α} (h : Rn R.tb R.p R.w R.n₀ R.ann R.c R.fr B x q S a q' S') : Go R B x q S.abs a q' S'.abs := h
theorem go_more {x : Sem α} (h : Go R B x q s a q' s') (k : B ≤ B') : Go R B' x q s a q' s' := fun K H gd lv N r e => segRun_le (by omega) (h K H gd lv N r e)
theorem go_bind {x : Sem α} {f : α → Sem β} (h : Go R B x q s a q' s') (k : Go R B' (f a) q' s' b q'' s'') : Go R (B + B') (x >>= f) q s b q'' s'' := fun K H gd lv N r e => by
  rw [Sem.bind_eq_wrap', Sem.wrap_wrap]
  have := h (fun a => (f a).wrap K H gd lv) (fun e => (Sem.raise e : Sem β).wrap K H gd lv) (gd ∘ id) (lv ∘ id) (B' + N) r (k K H gd lv N r e)
  rw [show B + B' + N = B + (B' + N) by omega]
  exact this
theorem go_pure : Go R 0 (Pure.pure a : Sem α) q s a q s := fun K H gd lv N r e => by rw [Nat.zero_add]; exact e
theorem go_keep {x : Sem α} {vs : List Value} (h : Go R B x q s a q' s') : Go R B (x.keep vs) q s a q' s' := fun K H gd lv N r e => by
  rw [Sem.keep_eq_wrap, Sem.wrap_wrap]
  exact h _ _ _ _ N r e
theorem go_hold {x : Sem α} {vs : List Value} (h : Go R B x q s a q' s') : Go R B (holding vs x) q s a q' s' := by
  unfold holding
  split
  · exact h
  · exact go_keep h
theorem go_onRaise {x : Sem α} {f : Value → Sem Unit} (h : Go R B x q s a q' s') : Go R B (x.onRaise f) q s a q' s' := fun K H gd lv N r e => by
  rw [Sem.onRaise_eq_wrap, Sem.wrap_wrap]
  exact h _ _ _ _ N r e
theorem go_load {p : Addr} {part : Option Value} {o : Obj} (h : s.heap.get? p = some o) : Go R 1 (loadPart p part) q s o q s := fun K H gd lv N r e => by
  rw [Nat.add_comm]
  refine segRun_step (s' := s) (t' := ⟨K o, R.c, q, [R.fr]⟩) rfl rfl ?_ e
  obtain ⟨hp, g, d, t, os⟩ := s
  show step (denote R.tb) R.p R.w ⟨hp, g, d, t, os⟩ ⟨.load p part _, _, _, _⟩ = _
  unfold step
  have h : hp.get? p = some o := h
  simp only [h]
  rfl
theorem go_update {p : Addr} {part : Option Value} {o : Obj} {f : Obj → Obj} (h0 : Nat.ble R.n₀ p = true) (h : s.heap.get? p = some o) : Go R 1 (updatePart p part f) q s () q { s with heap := s.heap.update p f } := fun K H gd lv N r e => by
  rw [Nat.add_comm]
  refine segRun_step (s' := { s with heap := s.heap.update p f }) (t' := ⟨K (), R.c, q, [R.fr]⟩) rfl ?_ ?_ e
  · show (true && (Nat.ble R.n₀ p || p == mainNs || p == cStatics || R.ann == some (.ref p))) = true
    rw [h0]; rfl
  · obtain ⟨hp, g, d, t, os⟩ := s
    show step (denote R.tb) R.p R.w ⟨hp, g, d, t, os⟩ ⟨.update p part f _, _, _, _⟩ = _
    unfold step
    have h : hp.get? p = some o := h
    simp only [h]
    rfl
theorem go_alloc {o : Obj} : Go R 1 (alloc o) q s s.heap.objs.size q { s with heap := s.heap.push o } := fun K H gd lv N r e => by
  rw [Nat.add_comm]
  exact segRun_step rfl rfl rfl e
theorem go_rule {t : String} : Go R 1 (rule t) q s () q s := fun K H gd lv N r e => by
  rw [Nat.add_comm]
  exact segRun_step rfl rfl rfl e
theorem go_fresh : Go R 1 fresh q s s.toks q { s with toks := s.toks + 1 } := fun K H gd lv N r e => by
  rw [Nat.add_comm]
  exact segRun_step rfl rfl rfl e
theorem go_at : Go R 1 (standAt q') q s () q' s := fun K H gd lv N r e => by
  rw [Nat.add_comm]
  exact segRun_step rfl rfl rfl e
-- a loop
theorem go_forIn {γ δ σ : Type} {f : γ → β → Sem (ForInStep β)} (g : δ → γ) (st : σ → β × Pos × Shared) (nx : σ → δ → σ) (P : σ → List δ → Prop)
    (h : ∀ u x l, P u (x :: l) → Go R C (f (g x) (st u).1) (st u).2.1 (st u).2.2 (.yield (st (nx u x)).1) (st (nx u x)).2.1 (st (nx u x)).2.2 ∧ P (nx u x) l) :
    ∀ (l : List δ) (u : σ), P u l → Go R (C * l.length) (forIn (l.map g) (st u).1 f) (st u).2.1 (st u).2.2 (st (l.foldl nx u)).1 (st (l.foldl nx u)).2.1 (st (l.foldl nx u)).2.2
  | [], u, _ => by
    rw [List.map_nil, List.forIn_nil]
    exact go_more go_pure (Nat.zero_le _)
  | x :: l, u, hp => by
    obtain ⟨h1, h2⟩ := h u x l hp
    rw [List.map_cons, List.forIn_cons, List.foldl_cons]
    exact go_more (go_bind h1 (go_forIn g st nx P h l (nx u x) h2)) (by rw [List.length_cons, Nat.mul_succ]; omega)
end
-- pure rounds: tokens alone
section
variable (tb : String → Option Builtin) (p : Program) (w : World)
def evT : Nat → Sem Fin → Nat → Option (Flow × Nat)
  | 0, _, _ => none
  | n + 1, x, k => match x with
    | .pure (.done f) => some (f, k)
    | .pure (.again c) => match c.quiet with
      | true => evT n (denote tb c) k
      | false => none
    | .fresh f => evT n (f k) (k + 1)
    | .rule _ f => evT n (f ()) k
    | .ask f => evT n (f ⟨p, w.params⟩) k
    | _ => none
def evQ {α : Type} : Nat → Sem α → Nat → Option (α × Nat)
  | 0, _, _ => none
  | n + 1, x, k => match x with
    | .pure a => some (a, k)
    | .rule _ f => evQ n (f ()) k
    | .point _ f => evQ n (f ()) k
    | .fresh f => evQ n (f k) (k + 1)
    | .ask f => evQ n (f ⟨p, w.params⟩) k
    | .call c _ _ _ f => match evT tb p w 10 (denote tb c) k with
      | some (r, k') => evQ n (f (.ok r)) k'
      | none => none
    | _ => none
end
section
variable {tb : String → Option Builtin} {p : Program} {w : World} {n₀ : Nat} {ann : Option Value}
theorem evT_ok {kk : Result → Sem Fin} {hd : Option Value} {g : Bool} {c0 : Code} {p0 : Pos} {fr : Frame} {r : Flow × Shared × Code × Pos} : ∀ (n : Nat) (x : Sem Fin) (s : Shared) (f : Flow) (k : Nat), evT tb p w n x s.toks = some (f, k) →
    ∀ (c : Code) (q : Pos) (l kept : List Value) (N : Nat), segRun tb p w n₀ ann 1 N { s with toks := k } ⟨kk (.ok f), c0, p0, [fr]⟩ = some r →
      segRun tb p w n₀ ann 1 (n + N) s ⟨x, c, q, [.ret kk hd g l c0 p0 kept, fr]⟩ = some r
  | 0, _, _, _, _, h => by cases h
  | n + 1, x, s, f, m, h => by
    intro c q l kept N hN
    rw [show n + 1 + N = (n + N) + 1 by omega]
    cases x with
    | pure y =>
      cases y with
      | done f' =>
        cases h
        exact segRun_step rfl rfl rfl (segRun_le (by omega) hN)
      | again c' =>
        unfold evT at h
        dsimp only at h
        cases hq : c'.quiet with
        | false => rw [hq] at h; cases h
        | true =>
          rw [hq] at h
          have st : stepOk n₀ ann ⟨.pure (.again c'), c, q, [.ret kk hd g l c0 p0 kept, fr]⟩ = true := by
            show (Thread.calm _ && true) = true
            rw [Bool.and_true, Thread.calm_eq, Thread.loud_again, hq]
            rfl
          have e := fun kept' => evT_ok (hd := hd) (g := g) n _ s _ _ h c' q l kept' N hN
          cases c' <;> cases c <;> exact segRun_step rfl st rfl (e _)
    | fresh k => exact segRun_step rfl rfl rfl (evT_ok n _ { s with toks := s.toks + 1 } _ _ h c q l kept N hN)
    | rule t k => exact segRun_step rfl rfl rfl (evT_ok n _ s _ _ h c q l kept N hN)
    | ask k => exact segRun_step rfl rfl rfl (evT_ok n _ s _ _ h c q l kept N hN)
    | _ => cases h
end
theorem go_evQ {R : RC} {α : Type} {q : Pos} : ∀ (n : Nat) (x : Sem α) (s : Shared) (a : α) (k : Nat), evQ R.tb R.p R.w n x s.toks = some (a, k) → Go R (12 * n) x q s a q { s with toks := k }
  | 0, _, _, _, _, h => by cases h
  | n + 1, x, s, a, m, h => by
    intro K H gd lv N r hN
    have one : ∀ {s' : Shared} {t t' : Thread}, endAt 1 t = none → stepOk R.n₀ R.ann t = true → step (denote R.tb) R.p R.w s t = .go s' t' → segRun R.tb R.p R.w R.n₀ R.ann 1 (12 * n + N) s' t' = some r → segRun R.tb R.p R.w R.n₀ R.ann 1 (12 * (n + 1) + N) s t = some r :=
      fun he hk hs h => segRun_le (by omega) (segRun_step he hk hs h)
    cases x with
    | pure b =>
      cases h
      exact segRun_le (by omega) hN
    | rule t k => exact one rfl rfl rfl (go_evQ n _ s _ _ h K H gd lv N r hN)
    | point t k => exact one rfl rfl rfl (go_evQ n _ s _ _ h K H gd lv N r hN)
    | fresh k => exact one rfl rfl rfl (go_evQ n _ { s with toks := s.toks + 1 } _ _ h K H gd lv N r hN)
    | ask k => exact one rfl rfl rfl (go_evQ n _ s _ _ h K H gd lv N r hN)
    | call c' hd g l k =>
      unfold evQ at h
      dsimp only at h
      split at h
      · rename_i f k' h1
        have e := go_evQ n _ { s with toks := k' } _ _ h K H gd lv N r hN
        have e2 := fun kept => evT_ok (ann := R.ann) (n₀ := R.n₀) (kk := fun x => (k x).wrap K H gd lv) (hd := hd) (g := gd g) (c0 := R.c) (p0 := q) (fr := R.fr) 10 _ s _ _ h1 c' q (lv l) kept _ e
        refine segRun_le (n := (10 + (12 * n + N)) + 1) (by omega) (segRun_step rfl rfl rfl (e2 _))
      · cases h
    | _ => cases h
end Mine
end
section
namespace Mine
noncomputable section
def envE : Env := { scope := pw.main.scope, locals := mainNs, globals := mainNs, cells := [], code := .ref 13, frame := some 14 }
def bodE : List Stmt := behindTheImports pw
def cE : Code := Code.body bodE envE
abbrev p0 : Pos := ⟨0, 0, 0, 0⟩
abbrev B0 : List Frame := [topFrame p0]
abbrev annE : Option Value := some (.ref 6)
def hSa (w : World) (os : OsState) : SharedT := ⟨hTa w.params, 15, {}, #[], ⟨0, 0, 0, 0⟩, 187, os⟩
def hSb (w : World) (os : OsState) : SharedT := ⟨hTb w.params, 47, {}, #[], ⟨0, 0, 0, 0⟩, 277, os⟩
def hSc (w : World) (os : OsState) : SharedT := ⟨hTc w.params, 86, {}, #[], ⟨0, 0, 0, 0⟩, 2228, os⟩
def hSd (w : World) (os : OsState) : SharedT := ⟨hTd w.params, 115, {}, #[], ⟨0, 0, 0, 0⟩, 2264, os⟩
set_option maxRecDepth 100000
theorem h_pre (w : World) (os : OsState) : topGo treeTable pw w 11 annE 12 ⟨boot_heap w.params, #[], boot_drawn, boot_toks, os⟩ (topStub pw) = some ((hSa w os).abs, ⟨denote treeTable cE, cE, p0, B0⟩) := by kernel_rfl
theorem h_block (w : World) (os : OsState) : segRun treeTable pw w 11 annE 1 1 (hSa w os).abs (blockOf bodE envE cE p0 B0) = some (.next, (hSa w os).abs, cE, p0) := by kernel_rfl
def hSp (w : World) (os : OsState) : SharedT := ⟨hTp w.params, 86, {}, #[], ⟨0, 0, 0, 0⟩, 2227, os⟩
def hSe (w : World) (os : OsState) : SharedT := ⟨hTe w.params, 29, {}, #[], ⟨0, 0, 0, 0⟩, 210, os⟩
def hSf (w : World) (os : OsState) : SharedT := ⟨hTf w.params, 40, {}, #[], ⟨0, 0, 0, 0⟩, 270, os⟩
theorem h_a1 (w : World) (os : OsState) : segRunT treeTable pw w 11 annE 1 89 (hSa w os) (piecesOf (bodE.take 5) envE cE p0 B0) = some (.next, hSe w os, cE, ⟨13, 0, 13, 8⟩) := by kernel_rfl
theorem h_a2ff (w : World) (os : OsState) : segRunT treeTable pw ((w.withFollow "special-get-raises" false).withFollow "set-order" false) 11 annE 1 1100 (hSe ((w.withFollow "special-get-raises" false).withFollow "set-order" false) os) (piecesOf ((bodE.drop 5).take 1) envE cE ⟨13, 0, 13, 8⟩ B0) = some (.next, hSf ((w.withFollow "special-get-raises" false).withFollow "set-order" false) os, cE, ⟨14, 0, 14, 6⟩) := by unfold piecesOf; rw [PySem.W.Fast.te10110043849684766642, PySem.W.Fast.te14364793385576792824, PySem.W.Fast.te12563942051412417395]; kernel_rfl
theorem h_a2ft (w : World) (os : OsState) : segRunT treeTable pw ((w.withFollow "special-get-raises" true).withFollow "set-order" false) 11 annE 1 1100 (hSe ((w.withFollow "special-get-raises" true).withFollow "set-order" false) os) (piecesOf ((bodE.drop 5).take 1) envE cE ⟨13, 0, 13, 8⟩ B0) = some (.next, hSf ((w.withFollow "special-get-raises" true).withFollow "set-order" false) os, cE, ⟨14, 0, 14, 6⟩) := by unfold piecesOf; rw [PySem.W.Fast.te10110043849684766642, PySem.W.Fast.te14364793385576792824, PySem.W.Fast.te12563942051412417395]; kernel_rfl
theorem h_a2tf (w : World) (os : OsState) : segRunT treeTable pw ((w.withFollow "special-get-raises" false).withFollow "set-order" true) 11 annE 1 1100 (hSe ((w.withFollow "special-get-raises" false).withFollow "set-order" true) os) (piecesOf ((bodE.drop 5).take 1) envE cE ⟨13, 0, 13, 8⟩ B0) = some (.next, hSf ((w.withFollow "special-get-raises" false).withFollow "set-order" true) os, cE, ⟨14, 0, 14, 6⟩) := by unfold piecesOf; rw [PySem.W.Fast.te10110043849684766642, PySem.W.Fast.te14364793385576792824, PySem.W.Fast.te12563942051412417395]; kernel_rfl
theorem h_a2tt (w : World) (os : OsState) : segRunT treeTable pw ((w.withFollow "special-get-raises" true).withFollow "set-order" true) 11 annE 1 1100 (hSe ((w.withFollow "special-get-raises" true).withFollow "set-order" true) os) (piecesOf ((bodE.drop 5).take 1) envE cE ⟨13, 0, 13, 8⟩ B0) = some (.next, hSf ((w.withFollow "special-get-raises" true).withFollow "set-order" true) os, cE, ⟨14, 0, 14, 6⟩) := by unfold piecesOf; rw [PySem.W.Fast.te10110043849684766642, PySem.W.Fast.te14364793385576792824, PySem.W.Fast.te12563942051412417395]; kernel_rfl
theorem h_a2 : ∀ (w : World) (os : OsState), segRunT treeTable pw (w) 11 annE 1 1100 (hSe (w) os) (piecesOf ((bodE.drop 5).take 1) envE cE ⟨13, 0, 13, 8⟩ B0) = some (.next, hSf (w) os, cE, ⟨14, 0, 14, 6⟩) :=
  byRow2 "set-order" (P := fun w => ∀ (os : OsState), segRunT treeTable pw (w) 11 annE 1 1100 (hSe (w) os) (piecesOf ((bodE.drop 5).take 1) envE cE ⟨13, 0, 13, 8⟩ B0) = some (.next, hSf (w) os, cE, ⟨14, 0, 14, 6⟩))
    (byRow2 "special-get-raises" (P := fun w => ∀ (os : OsState), segRunT treeTable pw (w.withFollow "set-order" false) 11 annE 1 1100 (hSe (w.withFollow "set-order" false) os) (piecesOf ((bodE.drop 5).take 1) envE cE ⟨13, 0, 13, 8⟩ B0) = some (.next, hSf (w.withFollow "set-order" false) os, cE, ⟨14, 0, 14, 6⟩)) h_a2ff h_a2ft)
    (byRow2 "special-get-raises" (P := fun w => ∀ (os : OsState), segRunT treeTable pw (w.withFollow "set-order" true) 11 annE 1 1100 (hSe (w.withFollow "set-order" true) os) (piecesOf ((bodE.drop 5).take 1) envE cE ⟨13, 0, 13, 8⟩ B0) = some (.next, hSf (w.withFollow "set-order" true) os, cE, ⟨14, 0, 14, 6⟩)) h_a2tf h_a2tt)
theorem h_a3 (w : World) (os : OsState) : segRunT treeTable pw w 11 annE 1 30 (hSf w os) (piecesOf ((bodE.drop 6).take 1) envE cE ⟨14, 0, 14, 6⟩ B0) = some (.next, hSb w os, cE, ⟨15, 0, 16, 30⟩) := by kernel_rfl
theorem h_c (w : World) (os : OsState) : segRunT treeTable pw w 11 annE 1 149 (hSc w os) (piecesOf (bodE.drop 8) envE cE ⟨17, 0, 17, 13⟩ B0) = some (.next, hSd w os, cE, ⟨49, 0, 68, 25⟩) := by kernel_rfl
theorem h_fin (w : World) (os : OsState) : topRun treeTable pw w 11 annE 2 (hSd w os).abs ⟨doneF .next, cE, ⟨49, 0, 68, 25⟩, B0⟩ = some (hSd w os).abs := by kernel_rfl
end
end Mine
end
section
namespace Mine
section
variable {R : RC} {α β : Type} {B : Nat} {q : Pos} {s : Shared} {d : Addr} {part : Option Value} {es : Array DictEntry} {n : Nat} {k m : Int} {t : Tok}
def dOb (es : Array DictEntry) (n : Nat) : Obj := { cls := .type "dict", data := .dict es n }
theorem go_entries (h : s.heap.get? d = some (dOb es n)) : Go R 1 (dictEntries d part) q s es q s := by
  unfold dictEntries
  refine go_bind (B := 1) (B' := 0) (go_load h) ?_
  exact go_pure
theorem go_epoch (h : s.heap.get? d = some (dOb es n)) : Go R 1 (dictEpoch d part) q s n q s := by
  unfold dictEpoch
  refine go_bind (B := 1) (B' := 0) (go_load h) ?_
  exact go_pure
theorem places_nil (h : ∀ e ∈ es.toList, e.hash ≠ k) : placesWithHash es.size (fun i => es[i]?.map (·.hash)) k = [] := by
  unfold placesWithHash
  rw [List.filter_eq_nil_iff]
  intro i hi
  have hi := List.mem_range.mp hi
  dsimp only
  rw [Array.getElem?_eq_getElem hi]
  simp only [Option.map_some, beq_iff_eq, Option.some.injEq]
  exact h _ (by simp)
theorem go_find (h : s.heap.get? d = some (dOb es n)) (hk : ∀ e ∈ es.toList, e.hash ≠ k) : Go R 1 (dictFind d (.int m t) k) q s none q s := by
  unfold dictFind
  refine go_hold (go_bind (go_entries h) (B' := 0) ?_)
  simp only [places_nil hk]
  exact go_pure
theorem go_push {e : DictEntry} (h : s.heap.get? d = some (dOb es n)) (h0 : Nat.ble R.n₀ d = true) (hz : es.size ≤ 1000) (h' : (s.heap.update d (Obj.mapDictKeys (·.push e))).get? d = some (dOb (es.push e) (n + 1))) :
    Go R 3 (updateDictKeys d (·.push e) part) q s () q { s with heap := s.heap.update d (Obj.mapDictKeys (·.push e)) } := by
  unfold updateDictKeys
  refine go_bind (B := 1) (B' := 2) (go_load h) ?_
  refine go_bind (B := 1) (B' := 1) (go_update h0 h) ?_
  unfold lookBehind
  refine go_bind (B := 1) (B' := 0) (go_load h') ?_
  have e : (dOb (es.push e) (n + 1)).data.pastItsLine = none := by
    show (if (es.push e).size > sizeLine + 1 then some "dict:memory" else none) = none
    rw [if_neg]
    rw [Array.size_push, sizeLine_eq]
    omega
  rw [e]
  exact go_pure
end
def shH (os : OsState) (l : List Obj) (tk : Nat) : Shared := ⟨⟨l.toArray, {}⟩, #[], ⟨0, 0, 0, 0⟩, tk, os⟩
def HK (R : RC) (m : Int) : Prop := ∀ (t : Tok) (k : Nat), evQ R.tb R.p R.w 20 (pyHash (.int m t)) k = some (m, k + 1)
def ents : Nat → List (Int × Str) → List DictEntry
  | _, [] => []
  | tk, (m, x) :: r => ⟨m, .int m tk, .str x (tk + 1)⟩ :: ents (tk + 3) r
section
variable {R : RC} {B : Nat} {q : Pos} {os : OsState} {tk n : Nat} {es : Array DictEntry} {pre post : List Obj} {part : Option Value} {v : Value} {m k : Int} {t : Tok} {o : Obj} {f : Obj → Obj}
theorem sh_get : (shH os (pre ++ dOb es n :: post) tk).heap.get? pre.length = some (dOb es n) := by
  unfold Heap.get?
  have e : (shH os (pre ++ dOb es n :: post) tk).heap.objs[pre.length]? = some (dOb es n) := by
    show (pre ++ dOb es n :: post).toArray[pre.length]? = _
    rw [List.getElem?_toArray, List.getElem?_append_right (Nat.le_refl _), Nat.sub_self]
    rfl
  rw [e]
  rfl
theorem sh_upd : (shH os (pre ++ o :: post) tk).heap.update pre.length f = (shH os (pre ++ f o :: post) tk).heap := by
  show Heap.mk _ _ = Heap.mk _ _
  congr 1
  show ((pre ++ o :: post).toArray.modify pre.length f) = (pre ++ f o :: post).toArray
  apply Array.ext_getElem?
  intro i
  rw [Array.getElem?_modify, List.getElem?_toArray, List.getElem?_toArray]
  by_cases h : pre.length = i
  · subst h
    simp
  · rw [if_neg h]
    rcases Nat.lt_or_gt_of_ne h with h | h
    · obtain ⟨j, rfl⟩ : ∃ j, i = pre.length + (j + 1) := ⟨i - pre.length - 1, by omega⟩
      rw [List.getElem?_append_right (by omega), List.getElem?_append_right (by omega)]
      rw [show pre.length + (j + 1) - pre.length = j + 1 by omega]
      rfl
    · rw [List.getElem?_append_left h, List.getElem?_append_left h]
theorem map_keys {e : DictEntry} : Obj.mapDictKeys (·.push e) (dOb es n) = dOb (es.push e) (n + 1) := rfl
theorem go_pushH {e : DictEntry} (h0 : Nat.ble R.n₀ pre.length = true) (hz : es.size ≤ 1000) :
    Go R 3 (updateDictKeys pre.length (·.push e) part) q (shH os (pre ++ dOb es n :: post) tk) () q (shH os (pre ++ dOb (es.push e) (n + 1) :: post) tk) := by
  have u := sh_upd (os := os) (tk := tk) (pre := pre) (post := post) (o := dOb es n) (f := Obj.mapDictKeys (·.push e))
  have g := go_push (R := R) (q := q) (part := part) (e := e) (sh_get (os := os) (tk := tk) (es := es) (n := n) (pre := pre) (post := post)) h0 hz (by rw [u]; exact sh_get (tk := tk))
  rw [u] at g
  exact g
theorem go_put (h0 : Nat.ble R.n₀ pre.length = true) (hz : es.size ≤ 1000) (hk : ∀ e ∈ es.toList, e.hash ≠ k) :
    Go R 4 (dictPut pre.length k (.int m t) v) q (shH os (pre ++ dOb es n :: post) tk) () q (shH os (pre ++ dOb (es.push ⟨k, .int m t, v⟩) (n + 1) :: post) tk) := by
  unfold dictPut
  exact go_bind (B := 1) (B' := 3) (go_find sh_get hk) (go_pushH h0 hz)
theorem go_setHashed (h0 : Nat.ble R.n₀ pre.length = true) (hz : es.size ≤ 1000) (hk : ∀ e ∈ es.toList, e.hash ≠ k) :
    Go R 5 (dictSetHashed pre.length (.int m t) k v) q (shH os (pre ++ dOb es n :: post) tk) () q (shH os (pre ++ dOb (es.push ⟨k, .int m t, v⟩) (n + 1) :: post) tk) := by
  unfold dictSetHashed
  exact go_hold (go_bind (B := 1) (B' := 4) (go_find sh_get hk) (go_bind (B := 1) (B' := 3) go_rule (go_pushH h0 hz)))
theorem go_set (hh : HK R m) (h0 : Nat.ble R.n₀ pre.length = true) (hz : es.size ≤ 1000) (hk : ∀ e ∈ es.toList, e.hash ≠ m) :
    Go R 245 (dictSet pre.length (.int m t) v) q (shH os (pre ++ dOb es n :: post) tk) () q (shH os (pre ++ dOb (es.push ⟨m, .int m t, v⟩) (n + 1) :: post) (tk + 1)) := by
  unfold dictSet
  exact go_hold (go_bind (B := 240) (B' := 5) (go_evQ 20 _ (shH os (pre ++ dOb es n :: post) tk) _ _ (hh t tk)) (go_setHashed (tk := tk + 1) h0 hz hk))
end
end Mine
end
section
namespace Mine
def KT (env : Env) (m : Int) : Sem Value := constValue env (.int m)
def VT (env : Env) (dp : Pos) (x : Str) : Sem Value := do let v ← constValue env (.str x); standAt dp; pure v
def mkT (env : Env) (dp : Pos) (p : Int × Str) : Sem Value × Sem Value := (KT env p.1, VT env dp p.2)
section
variable {R : RC} {B : Nat} {q dp : Pos} {env : Env} {os : OsState} {tk n : Nat} {es : Array DictEntry} {l pre post : List Obj} {part : Option Value} {v : Value} {m k : Int} {x : Str} {t : Tok} {o : Obj} {f : Obj → Obj} {ps r : List (Int × Str)} {u : List DictEntry × Nat} {p : Int × Str}
theorem go_KT : Go R 1 (KT env m) q (shH os l tk) (.int m tk) q (shH os l (tk + 1)) := go_bind (B := 1) (B' := 0) (go_fresh (s := shH os l tk)) go_pure
theorem go_VT : Go R 2 (VT env dp x) q (shH os l tk) (.str x tk) dp (shH os l (tk + 1)) :=
  go_bind (B := 1) (B' := 1) (go_bind (B := 1) (B' := 0) (go_fresh (s := shH os l tk)) go_pure) (go_bind (B := 1) (B' := 0) go_at go_pure)
theorem go_allocH : Go R 1 (alloc o) q (shH os l tk) l.length q (shH os (l ++ [o]) tk) := by
  have g := go_alloc (R := R) (q := q) (s := shH os l tk) (o := o)
  have e : ((shH os l tk).heap.push o) = (shH os (l ++ [o]) tk).heap := by
    show Heap.mk (l.toArray.push o) _ = Heap.mk _ _
    rw [List.push_toArray]
    rfl
  rw [e] at g
  exact g
def nxE (u : List DictEntry × Nat) (p : Int × Str) : List DictEntry × Nat := (u.1 ++ [⟨p.1, .int p.1 u.2, .str p.2 (u.2 + 1)⟩], u.2 + 3)
theorem foldE : ∀ (ps : List (Int × Str)) (L : List DictEntry) (tk : Nat), ps.foldl nxE (L, tk) = (L ++ ents tk ps, tk + 3 * ps.length)
  | [], L, tk => by simp [ents]
  | p :: r, L, tk => by
    rw [List.foldl_cons]
    show r.foldl nxE (L ++ [_], tk + 3) = _
    rw [foldE r]
    simp only [ents, List.append_assoc, List.cons_append, List.nil_append, List.length_cons, Prod.mk.injEq, true_and]
    omega
def PE (R : RC) (u : List DictEntry × Nat) (l : List (Int × Str)) : Prop :=
  (∀ e ∈ u.1, ∀ p ∈ l, e.hash < p.1) ∧ l.Pairwise (fun a b => a.1 < b.1) ∧ (∀ p ∈ l, HK R p.1) ∧ u.1.length + l.length ≤ 1000
theorem PE.next {u : List DictEntry × Nat} {p : Int × Str} {l : List (Int × Str)} (h : PE R u (p :: l)) : PE R (nxE u p) l := by
  obtain ⟨h1, h2, h3, h4⟩ := h
  obtain ⟨h5, h6⟩ := List.pairwise_cons.mp h2
  refine ⟨fun e he p' hp => ?_, h6, fun p' hp => h3 p' (.tail _ hp), ?_⟩
  · rcases List.mem_append.mp he with he | he
    · exact h1 e he p' (.tail _ hp)
    · rw [List.mem_singleton.mp he]; exact h5 p' hp
  · show (u.1 ++ [_]).length + l.length ≤ 1000
    simp only [List.length_append, List.length_cons, List.length_nil] at h4 ⊢
    omega
theorem ents_len : ∀ (ps : List (Int × Str)) (tk : Nat), (ents tk ps).length = ps.length
  | [], _ => rfl
  | p :: r, tk => by simp only [ents, List.length_cons, ents_len r]
theorem go_loopE {f : Sem Value × Sem Value → PUnit → Sem (ForInStep PUnit)} (hp : PE R ([], tk) ps)
    (h : ∀ (u : List DictEntry × Nat) p l, PE R u (p :: l) → Go R 248 (f (mkT env dp p) PUnit.unit) dp (shH os (pre ++ [dOb u.1.toArray u.1.length]) u.2) (.yield PUnit.unit) dp (shH os (pre ++ [dOb (nxE u p).1.toArray (nxE u p).1.length]) (nxE u p).2)) :
    Go R (248 * ps.length) (forIn (ps.map (mkT env dp)) PUnit.unit f) dp (shH os (pre ++ [dOb #[] 0]) tk) PUnit.unit dp (shH os (pre ++ [dOb (ents tk ps).toArray ps.length]) (tk + 3 * ps.length)) := by
  have key := go_forIn (R := R) (C := 248) (f := f) (mkT env dp) (fun u : List DictEntry × Nat => (PUnit.unit, dp, shH os (pre ++ [dOb u.1.toArray u.1.length]) u.2)) nxE (PE R) (fun u p l hu => ⟨h u p l hu, hu.next⟩) ps ([], tk) hp
  rw [foldE, List.nil_append] at key
  have e := ents_len ps tk
  simp only [e] at key
  exact key
theorem go_entry (hu : PE R u (p :: r)) (h0 : Nat.ble R.n₀ pre.length = true) :
    Go R 248 (do let kv ← (mkT env dp p).1; let vv ← holding [kv] (mkT env dp p).2; holding [kv, vv] (dictSet pre.length kv vv); pure (ForInStep.yield PUnit.unit)) dp (shH os (pre ++ [dOb u.1.toArray u.1.length]) u.2) (.yield PUnit.unit) dp (shH os (pre ++ [dOb (nxE u p).1.toArray (nxE u p).1.length]) (nxE u p).2) := by
  obtain ⟨L, tk⟩ := u
  obtain ⟨h1, h2, h3, h4⟩ := hu
  refine go_bind (B := 1) (B' := 247) (go_KT (env := env)) ?_
  refine go_bind (B := 2) (B' := 245) (go_hold (go_VT (env := env))) ?_
  refine go_bind (B := 245) (B' := 0) (a := ()) (go_hold ?_) go_pure
  have g := go_set (R := R) (q := dp) (os := os) (tk := tk + 1 + 1) (n := L.length) (es := L.toArray) (pre := pre) (post := []) (v := .str p.2 (tk + 1)) (t := tk) (h3 p (.head _)) h0 (by simp only [List.size_toArray, List.length_cons] at h4 ⊢; omega) (fun e he => Int.ne_of_lt (h1 e (by simpa using he) p (.head _)))
  rw [List.push_toArray] at g
  have e : (L ++ [(⟨p.1, .int p.1 tk, .str p.2 (tk + 1)⟩ : DictEntry)]).length = L.length + 1 := by simp
  show Go R 245 _ _ _ _ _ (shH os (pre ++ [dOb (L ++ [(⟨p.1, .int p.1 tk, .str p.2 (tk + 1)⟩ : DictEntry)]).toArray (L ++ [(⟨p.1, .int p.1 tk, .str p.2 (tk + 1)⟩ : DictEntry)]).length]) (tk + 3))
  rw [e]
  exact g
theorem go_subLong (hl : 15 < ps.length) (hp : PE R ([], tk) ps) (h0 : Nat.ble R.n₀ pre.length = true) :
    Go R (248 * ps.length + 2) (subDict (ps.map (mkT env dp))) dp (shH os pre tk) pre.length dp (shH os (pre ++ [dOb (ents tk ps).toArray ps.length]) (tk + 3 * ps.length)) := by
  unfold subDict
  refine go_more (go_bind (B := 1) (B' := 248 * ps.length + 1) go_allocH ?_) (by omega)
  refine go_bind (B := 248 * ps.length + 1) (B' := 0) (a := ()) (go_hold ?_) go_pure
  rw [if_neg (by rw [List.length_map]; omega)]
  refine go_more (go_bind (B := 1) (B' := 248 * ps.length) go_rule ?_) (by omega)
  exact go_bind (B := 248 * ps.length) (B' := 0) (a := PUnit.unit) (go_loopE hp fun u p l hu => go_entry hu h0) go_pure
end
end Mine
end
section
namespace Mine
theorem sub_dict : isSubtype (.type "dict") (.type "dict") = pure true := by kernel_rfl
section
variable {R : RC} {q : Pos} {os : OsState} {tk n n' : Nat} {es es' : Array DictEntry} {pre mid : List Obj} {L L' : List DictEntry} {a : Addr}
theorem sh_get2 (ha : a = pre.length + 1 + mid.length) : (shH os (pre ++ dOb es n :: (mid ++ [dOb es' n'])) tk).heap.get? a = some (dOb es' n') := by
  have e : pre ++ dOb es n :: (mid ++ [dOb es' n']) = (pre ++ dOb es n :: mid) ++ dOb es' n' :: [] := by simp
  have e2 : a = (pre ++ dOb es n :: mid).length := by rw [ha, List.length_append, List.length_cons, Nat.add_assoc, Nat.add_comm 1]
  rw [e, e2]
  exact sh_get
theorem go_typeOf {s : Shared} {d : Addr} (h : s.heap.get? d = some (dOb es n)) : Go R 1 (typeOf (.ref d)) q s (.type "dict") q s :=
  go_bind (B := 1) (B' := 0) (go_load h) go_pure
theorem go_isDict {s : Shared} {d : Addr} (h : s.heap.get? d = some (dOb es n)) : Go R 1 (isInstance (.ref d) (.type "dict")) q s true q s := by
  unfold isInstance
  refine go_bind (B := 1) (B' := 0) (go_typeOf h) ?_
  rw [sub_dict]
  exact go_pure
theorem go_iterOf {s : Shared} {d : Addr} (h : s.heap.get? d = some (dOb es n)) : Go R 1 (specialOf (.ref d) "__iter__") q s (some (.builtin "dict.__iter__")) q s := by
  unfold specialOf
  refine go_bind (B := 1) (B' := 0) (go_typeOf h) ?_
  rw [F.slot_dict_iter.lookup]
  exact go_pure
theorem drop_range {N i : Nat} {x : Nat} {l : List Nat} (h : x :: l = List.range' i (N - i)) : x = i ∧ i < N ∧ l = List.range' (i + 1) (N - (i + 1)) := by
  cases e : N - i with
  | zero => rw [e] at h; cases h
  | succ k =>
    rw [e, List.range'_succ] at h
    obtain ⟨h1, h2⟩ := List.cons.inj h
    exact ⟨h1, by omega, by rw [h2]; congr 1; omega⟩
theorem go_mergeLoop {f : Nat → PUnit → Sem (ForInStep PUnit)}
    (h : ∀ i, i < L'.length → Go R 20 (f i PUnit.unit) q (shH os (pre ++ dOb (L ++ L'.take i).toArray (n + i) :: (mid ++ [dOb L'.toArray n'])) tk) (.yield PUnit.unit) q (shH os (pre ++ dOb (L ++ L'.take (i + 1)).toArray (n + (i + 1)) :: (mid ++ [dOb L'.toArray n'])) tk)) :
    Go R (20 * L'.length) (forIn (List.range L'.length) PUnit.unit f) q (shH os (pre ++ dOb L.toArray n :: (mid ++ [dOb L'.toArray n'])) tk) PUnit.unit q (shH os (pre ++ dOb (L ++ L').toArray (n + L'.length) :: (mid ++ [dOb L'.toArray n'])) tk) := by
  have key := go_forIn (R := R) (C := 20) (f := f) (id : Nat → Nat) (fun i : Nat => (PUnit.unit, q, shH os (pre ++ dOb (L ++ L'.take i).toArray (n + i) :: (mid ++ [dOb L'.toArray n'])) tk)) (fun i _ => i + 1) (fun i l => l = List.range' i (L'.length - i))
    (fun i x l hl => by obtain ⟨rfl, hi, hl⟩ := drop_range hl; exact ⟨h _ hi, hl⟩) (List.range L'.length) 0 (by rw [List.range_eq_range']; rfl)
  rw [List.map_id, List.length_range] at key
  have e : ∀ (l : List Nat) (i : Nat), l.foldl (fun i _ => i + 1) i = i + l.length := by
    intro l
    induction l with
    | nil => intro i; rfl
    | cons x l ih => intro i; rw [List.foldl_cons, ih, List.length_cons]; omega
  rw [e, List.length_range, Nat.zero_add] at key
  simpa using key
theorem go_merge (ha : a = pre.length + 1 + mid.length) (hs : a ≠ sysModules) (hL : ∀ e ∈ L, ∀ e' ∈ L', e.hash < e'.hash) (hL' : L'.Pairwise (fun a b => a.hash < b.hash)) (hk : ∀ e ∈ L', ∃ m t, e.key = .int m t)
    (h0 : Nat.ble R.n₀ pre.length = true) (hne : L ≠ []) (hz : L.length + L'.length ≤ 1000) :
    Go R (20 * L'.length + 20) (mergeMapping pre.length (.ref a) false) q (shH os (pre ++ dOb L.toArray n :: (mid ++ [dOb L'.toArray n'])) tk) () q
      (shH os (pre ++ dOb (L ++ L').toArray (n + L'.length) :: (mid ++ [dOb L'.toArray n'])) tk) := by
  have hm : ∀ (E : Array DictEntry) (k : Nat), (shH os (pre ++ dOb E k :: (mid ++ [dOb L'.toArray n'])) tk).heap.get? pre.length = some (dOb E k) := fun E k => sh_get
  have hg : ∀ (E : Array DictEntry) (k : Nat), (shH os (pre ++ dOb E k :: (mid ++ [dOb L'.toArray n'])) tk).heap.get? a = some (dOb L'.toArray n') := fun E k => sh_get2 ha
  unfold mergeMapping
  refine go_more (go_bind (B := 1) (B' := 20 * L'.length + 19) (go_isDict (hg _ _)) ?_) (by omega)
  dsimp only
  rw [if_pos rfl]
  refine go_more (go_bind (B := 1) (B' := 20 * L'.length + 18) (go_iterOf (hg _ _)) ?_) (by omega)
  simp only [beq_self_eq_true]
  refine go_more (go_bind (B := 0) (B' := 20 * L'.length + 18) (a := true) go_pure ?_) (by omega)
  dsimp only
  rw [if_neg (by simpa using hs)]
  refine go_more (go_bind (B := 1) (B' := 20 * L'.length + 17) (go_entries (hm _ _)) ?_) (by omega)
  rw [if_neg (by cases L <;> simp_all)]
  refine go_more (go_bind (B := 1) (B' := 20 * L'.length + 16) (go_entries (hg _ _)) ?_) (by omega)
  refine go_more (go_bind (B := 1) (B' := 20 * L'.length + 15) (go_epoch (hg _ _)) ?_) (by omega)
  refine go_more (go_bind (B := 20 * L'.length) (B' := 0) (a := PUnit.unit) ?_ go_pure) (by omega)
  rw [List.size_toArray]
  refine go_mergeLoop fun i hi => ?_
  refine go_more (go_bind (B := 1) (B' := 18) (go_entries (hg _ _)) ?_) (by omega)
  rw [List.getElem?_toArray, List.getElem?_eq_getElem hi]
  dsimp only
  obtain ⟨m, t, hkey⟩ := hk _ (List.getElem_mem hi)
  refine go_more (go_bind (B := 4) (B' := 1) (a := ()) (q' := q) (s' := shH os (pre ++ dOb (L ++ L'.take (i + 1)).toArray (n + (i + 1)) :: (mid ++ [dOb L'.toArray n'])) tk) (go_hold ?_) ?_) (by omega)
  · rw [if_neg (by simp), hkey]
    have g := go_put (R := R) (q := q) (os := os) (tk := tk) (pre := pre) (post := mid ++ [dOb L'.toArray n']) (es := (L ++ L'.take i).toArray) (n := n + i) (k := L'[i].hash) (m := m) (t := t) (v := L'[i].val) h0
      (by simp only [List.size_toArray, List.length_append, List.length_take]; omega)
      (fun e he => by
        rcases List.mem_append.mp (by simpa using he) with he | he
        · exact Int.ne_of_lt (hL e he _ (List.getElem_mem hi))
        · obtain ⟨j, hj, rfl⟩ := List.getElem_of_mem he
          rw [List.length_take] at hj
          rw [List.getElem_take]
          exact Int.ne_of_lt (List.pairwise_iff_getElem.mp hL' j i (by omega) hi (by omega)))
    have e : (L ++ L'.take i).toArray.push ⟨L'[i].hash, .int m t, L'[i].val⟩ = (L ++ L'.take (i + 1)).toArray := by
      have e1 : (⟨L'[i].hash, .int m t, L'[i].val⟩ : DictEntry) = L'[i] := by rw [← hkey]
      rw [e1, List.push_toArray, List.append_assoc, List.take_add_one, List.getElem?_eq_getElem hi]
      rfl
    rw [e] at g
    exact g
  · refine go_bind (B := 1) (B' := 0) (go_epoch (hg _ _)) ?_
    rw [if_neg (by simp)]
    exact go_pure
end
end Mine
end
section
namespace Mine
def vt : Nat → List (Int × Str) → List (Int × Str × Nat)
  | _, [] => []
  | tk, (m, x) :: r => (m, x, tk) :: vt (tk + 2) r
def gV (z : Int × Str × Nat) : Value × Value := (.int z.1 z.2.2, .str z.2.1 (z.2.2 + 1))
def eV (z : Int × Str × Nat) : DictEntry := ⟨z.1, .int z.1 z.2.2, .str z.2.1 (z.2.2 + 1)⟩
theorem vt_len : ∀ (ps : List (Int × Str)) (tk : Nat), (vt tk ps).length = ps.length
  | [], _ => rfl
  | p :: r, tk => by simp only [vt, List.length_cons, vt_len r]
theorem vt_mem : ∀ (ps : List (Int × Str)) (tk : Nat) (z : Int × Str × Nat), z ∈ vt tk ps → (z.1, z.2.1) ∈ ps
  | [], _, _, h => (nomatch h)
  | (m, x) :: r, tk, z, h => by
    rcases List.mem_cons.mp h with rfl | h
    · exact .head _
    · exact .tail _ (vt_mem r _ z h)
theorem vt_asc : ∀ (ps : List (Int × Str)) (tk : Nat), ps.Pairwise (fun a b => a.1 < b.1) → (vt tk ps).Pairwise (fun a b => a.1 < b.1)
  | [], _, _ => .nil
  | (m, x) :: r, tk, h => by
    obtain ⟨h1, h2⟩ := List.pairwise_cons.mp h
    exact List.pairwise_cons.mpr ⟨fun z hz => h1 _ (vt_mem r _ z hz), vt_asc r _ h2⟩
section
variable {R : RC} {B : Nat} {q dp : Pos} {env : Env} {os : OsState} {tk n : Nat} {l pre post : List Obj} {ps r : List (Int × Str)}
theorem go_evalPairs : ∀ (ps : List (Int × Str)) (tk : Nat), Go R (3 * ps.length) (evalPairs (ps.map (mkT env dp))) dp (shH os l tk) ((vt tk ps).map gV) dp (shH os l (tk + 2 * ps.length))
  | [], tk => go_pure
  | (m, x) :: r, tk => by
    have ih := go_evalPairs r (tk + 2)
    rw [show tk + 2 + 2 * r.length = tk + 2 * ((m, x) :: r).length by rw [List.length_cons]; omega] at ih
    refine go_more (B := 1 + (2 + (3 * r.length + 0))) ?_ (by rw [List.length_cons]; omega)
    exact go_bind (go_KT (env := env)) (go_bind (go_hold (go_VT (env := env))) (go_bind (go_hold ih) go_pure))
def nxV (u : List DictEntry × Nat) (z : Int × Str × Nat) : List DictEntry × Nat := (u.1 ++ [eV z], u.2 + 1)
theorem foldV : ∀ (zs : List (Int × Str × Nat)) (L : List DictEntry) (tk : Nat), zs.foldl nxV (L, tk) = (L ++ zs.map eV, tk + zs.length)
  | [], L, tk => by simp
  | z :: r, L, tk => by
    rw [List.foldl_cons]
    show r.foldl nxV (L ++ [_], tk + 1) = _
    rw [foldV r]
    simp only [List.map_cons, List.append_assoc, List.cons_append, List.nil_append, List.length_cons, Prod.mk.injEq, true_and]
    omega
def PV (R : RC) (u : List DictEntry × Nat) (l : List (Int × Str × Nat)) : Prop :=
  (∀ e ∈ u.1, ∀ p ∈ l, e.hash < p.1) ∧ l.Pairwise (fun a b => a.1 < b.1) ∧ (∀ p ∈ l, HK R p.1) ∧ u.1.length + l.length ≤ 1000
theorem PV.next {u : List DictEntry × Nat} {p : Int × Str × Nat} {l : List (Int × Str × Nat)} (h : PV R u (p :: l)) : PV R (nxV u p) l := by
  obtain ⟨h1, h2, h3, h4⟩ := h
  obtain ⟨h5, h6⟩ := List.pairwise_cons.mp h2
  refine ⟨fun e he p' hp => ?_, h6, fun p' hp => h3 p' (.tail _ hp), ?_⟩
  · rcases List.mem_append.mp he with he | he
    · exact h1 e he p' (.tail _ hp)
    · rw [List.mem_singleton.mp he]; exact h5 p' hp
  · show (u.1 ++ [_]).length + l.length ≤ 1000
    simp only [List.length_append, List.length_cons, List.length_nil] at h4 ⊢
    omega
theorem go_loopV {f : Value × Value → PUnit → Sem (ForInStep PUnit)} {zs : List (Int × Str × Nat)} (hp : PV R ([], tk) zs)
    (h : ∀ (u : List DictEntry × Nat) z l, PV R u (z :: l) → Go R 245 (f (gV z) PUnit.unit) dp (shH os (pre ++ [dOb u.1.toArray u.1.length]) u.2) (.yield PUnit.unit) dp (shH os (pre ++ [dOb (nxV u z).1.toArray (nxV u z).1.length]) (nxV u z).2)) :
    Go R (245 * zs.length) (forIn (zs.map gV) PUnit.unit f) dp (shH os (pre ++ [dOb #[] 0]) tk) PUnit.unit dp (shH os (pre ++ [dOb (zs.map eV).toArray zs.length]) (tk + zs.length)) := by
  have key := go_forIn (R := R) (C := 245) (f := f) gV (fun u : List DictEntry × Nat => (PUnit.unit, dp, shH os (pre ++ [dOb u.1.toArray u.1.length]) u.2)) nxV (PV R) (fun u p l hu => ⟨h u p l hu, hu.next⟩) zs ([], tk) hp
  rw [foldV, List.nil_append] at key
  simp only [List.length_map] at key
  exact key
theorem go_setV {u : List DictEntry × Nat} {z : Int × Str × Nat} {zs : List (Int × Str × Nat)} (hu : PV R u (z :: zs)) (h0 : Nat.ble R.n₀ pre.length = true) :
    Go R 245 (dictSet pre.length (gV z).1 (gV z).2) dp (shH os (pre ++ [dOb u.1.toArray u.1.length]) u.2) () dp (shH os (pre ++ [dOb (nxV u z).1.toArray (nxV u z).1.length]) (nxV u z).2) := by
  obtain ⟨L, tk⟩ := u
  obtain ⟨h1, h2, h3, h4⟩ := hu
  have g := go_set (R := R) (q := dp) (os := os) (tk := tk) (n := L.length) (es := L.toArray) (pre := pre) (post := []) (v := .str z.2.1 (z.2.2 + 1)) (t := z.2.2) (h3 z (.head _)) h0 (by simp only [List.size_toArray, List.length_cons] at h4 ⊢; omega) (fun e he => Int.ne_of_lt (h1 e (by simpa using he) z (.head _)))
  rw [List.push_toArray] at g
  have e : (L ++ [eV z]).length = L.length + 1 := by simp
  show Go R 245 _ _ _ _ _ (shH os (pre ++ [dOb (L ++ [eV z]).toArray (L ++ [eV z]).length]) (tk + 1))
  rw [e]
  exact g
theorem go_subShort (hl : ps.length ≤ 15) (asc : ps.Pairwise (fun a b => a.1 < b.1)) (hh : ∀ p ∈ ps, HK R p.1) (h0 : Nat.ble R.n₀ pre.length = true) :
    Go R (248 * ps.length + 2) (subDict (ps.map (mkT env dp))) dp (shH os pre tk) pre.length dp (shH os (pre ++ [dOb ((vt tk ps).map eV).toArray ps.length]) (tk + 2 * ps.length + ps.length)) := by
  unfold subDict
  refine go_more (go_bind (B := 1) (B' := 248 * ps.length + 1) go_allocH ?_) (by omega)
  refine go_bind (B := 248 * ps.length + 1) (B' := 0) (a := ()) (go_hold ?_) go_pure
  rw [if_pos (by rw [List.length_map]; exact hl)]
  refine go_more (go_bind (B := 3 * ps.length) (B' := 245 * ps.length) (go_evalPairs ps tk) ?_) (by omega)
  have e := vt_len ps tk
  have key := go_loopV (R := R) (dp := dp) (os := os) (pre := pre) (tk := tk + 2 * ps.length) (zs := vt tk ps) (f := fun x _ => do dictSet pre.length x.1 x.2; pure (ForInStep.yield PUnit.unit))
    ⟨fun e he => (nomatch he), vt_asc ps tk asc, fun z hz => hh (z.1, z.2.1) (vt_mem ps tk z hz), by rw [vt_len]; show 0 + ps.length ≤ 1000; omega⟩
    (fun u z l hu => by
      have g := go_setV (dp := dp) (os := os) hu h0
      refine go_more (B := 245 + 0) ?_ (Nat.le_refl _)
      exact go_bind (a := ()) g go_pure)
  rw [e] at key
  refine go_hold ?_
  refine go_more (B := 245 * ps.length + 0) ?_ (Nat.le_refl _)
  refine go_bind (a := PUnit.unit) (q' := dp) (s' := shH os (pre ++ [dOb ((vt tk ps).map eV).toArray ps.length]) (tk + 2 * ps.length + ps.length)) ?_ go_pure
  exact key
end
end Mine
end
section
namespace Mine
def mkI (env : Env) (dp : Pos) (p : Int × Str) : Option (Sem Value) × Sem Value := (some (KT env p.1), VT env dp p.2)
structure US where
  done : List (Int × Str)
  run : List (Int × Str)
  subs : List Obj
theorem ents_app : ∀ (a b : List (Int × Str)) (tk : Nat), ents tk (a ++ b) = ents tk a ++ ents (tk + 3 * a.length) b
  | [], b, tk => rfl
  | p :: a, b, tk => by
    simp only [List.cons_append, ents, ents_app a b (tk + 3), List.length_cons]
    rw [show tk + 3 + 3 * a.length = tk + 3 * (a.length + 1) by omega]
theorem ents_mem : ∀ (ps : List (Int × Str)) (tk : Nat) (e : DictEntry), e ∈ ents tk ps → ∃ p ∈ ps, e.hash = p.1 ∧ ∃ t, e.key = .int p.1 t
  | [], _, _, h => (nomatch h)
  | (m, x) :: r, tk, e, h => by
    rcases List.mem_cons.mp h with rfl | h
    · exact ⟨(m, x), .head _, rfl, tk, rfl⟩
    · obtain ⟨p, hp, h1⟩ := ents_mem r _ e h; exact ⟨p, .tail _ hp, h1⟩
theorem ents_asc : ∀ (ps : List (Int × Str)) (tk : Nat), ps.Pairwise (fun a b => a.1 < b.1) → (ents tk ps).Pairwise (fun a b => a.hash < b.hash)
  | [], _, _ => .nil
  | (m, x) :: r, tk, h => by
    obtain ⟨h1, h2⟩ := List.pairwise_cons.mp h
    refine List.pairwise_cons.mpr ⟨fun e he => ?_, ents_asc r _ h2⟩
    obtain ⟨p, hp, e1, _⟩ := ents_mem r _ e he
    rw [e1]; exact h1 p hp
def chunkO (tk : Nat) (c : List (Int × Str)) : Obj := dOb (ents tk c).toArray c.length
def mainO (tk : Nat) (u : US) : List Obj := match u.done with
  | [] => []
  | _ => chunkO tk u.done :: u.subs
def mainU (b : Nat) (u : US) : Option Addr := match u.done with
  | [] => none
  | _ => some b
def nxU (tk : Nat) (u : US) (p : Int × Str) : US := if u.run.length = 16 then ⟨u.done ++ (u.run ++ [p]), [], match u.done with | [] => [] | _ => u.subs ++ [chunkO (tk + 3 * u.done.length) (u.run ++ [p])]⟩ else ⟨u.done, u.run ++ [p], u.subs⟩
def stU (env : Env) (dp : Pos) (os : OsState) (base : List Obj) (tk : Nat) (u : US) : (Option Addr × List (Sem Value × Sem Value)) × Pos × Shared :=
  ((mainU base.length u, u.run.map (mkT env dp)), dp, shH os (base ++ mainO tk u) (tk + 3 * u.done.length))
structure PU (R : RC) (base : List Obj) (u : US) (l : List (Int × Str)) : Prop where
  run : u.run.length ≤ 16
  subs : u.done = [] → u.subs = []
  asc : (u.done ++ (u.run ++ l)).Pairwise fun a b => a.1 < b.1
  hk : ∀ p ∈ u.run ++ l, HK R p.1
  len : u.done.length + (u.run.length + l.length) ≤ 1000
  sys : sysModules < base.length
  ble : Nat.ble R.n₀ base.length = true
section
variable {R : RC} {B B' : Nat} {q q' q'' dp : Pos} {env : Env} {os : OsState} {tk n : Nat} {base : List Obj} {ps l : List (Int × Str)} {s s' s'' : Shared} {v : Value} {u : US} {p : Int × Str} {run : List (Sem Value × Sem Value)} {a d : Addr} {g : Value → Sem Unit}
theorem PU.next (h : PU R base u (p :: l)) : PU R base (nxU tk u p) l := by
  obtain ⟨h1, h2, h3, h4, h5, h6, h7⟩ := h
  unfold nxU
  by_cases e : u.run.length = 16
  · rw [if_pos e]
    refine ⟨Nat.zero_le _, fun z => ?_, ?_, fun p' hp => h4 p' (List.mem_append.mpr (.inr (.tail _ hp))), ?_, h6, h7⟩
    · have z : u.done ++ (u.run ++ [p]) = [] := z
      simp at z
    · simpa using h3
    · simp only [List.length_append, List.length_cons, List.length_nil] at h5 ⊢
      omega
  · rw [if_neg e]
    refine ⟨?_, h2, ?_, ?_, ?_, h6, h7⟩
    · simp only [List.length_append, List.length_cons, List.length_nil]; omega
    · simpa using h3
    · intro p' hp
      refine h4 p' ?_
      simpa using hp
    · simp only [List.length_append, List.length_cons, List.length_nil] at h5 ⊢
      omega
theorem go_flush0 (hr : run.isEmpty = false) (h : Go R B (subDict run) q s a q' s') : Go R B (if run.isEmpty = true then pure (none : Option Addr) else (do let x ← subDict run; pure (some x))) q s (some a) q' s' := by
  rw [if_neg (by simp [hr])]
  exact go_bind (B' := 0) h go_pure
theorem go_flush1 (hr : run.isEmpty = false) (h : Go R B (subDict run) q s a q' s') (h2 : Go R B' (mergeMapping d (.ref a) false) q' s' () q'' s'') :
    Go R (B + B') (if run.isEmpty = true then pure (some d) else (do let sub ← holding [.ref d] (subDict run); (holding [.ref d, .ref sub] (mergeMapping d (.ref sub) false)).onRaise g; pure (some d))) q s (some d) q'' s'' := by
  rw [if_neg (by simp [hr])]
  exact go_bind (go_hold h) (go_bind (B' := 0) (go_onRaise (go_hold h2)) go_pure)
end
end Mine
end
section
namespace Mine
section
variable {R : RC} {B B' : Nat} {q q' q'' dp : Pos} {env : Env} {os : OsState} {tk n n' t t' : Nat} {base subs : List Obj} {ps l c : List (Int × Str)} {s s' s'' : Shared} {v : Value} {u : US} {p : Int × Str} {run : List (Sem Value × Sem Value)} {a d : Addr} {g : Value → Sem Unit} {L L' : List DictEntry}
theorem go_chunk (hr : run.isEmpty = false) (h : Go R B (subDict run) dp (shH os (base ++ dOb L.toArray n :: subs) t) (base ++ dOb L.toArray n :: subs).length dp (shH os ((base ++ dOb L.toArray n :: subs) ++ [dOb L'.toArray n']) t'))
    (hs : sysModules < base.length) (hL : ∀ e ∈ L, ∀ e' ∈ L', e.hash < e'.hash) (hL' : L'.Pairwise (fun a b => a.hash < b.hash)) (hk : ∀ e ∈ L', ∃ m t, e.key = .int m t)
    (h0 : Nat.ble R.n₀ base.length = true) (hne : L ≠ []) (hz : L.length + L'.length ≤ 1000) :
    Go R (B + (20 * L'.length + 20)) (if run.isEmpty = true then pure (some base.length) else (do let sub ← holding [.ref base.length] (subDict run); (holding [.ref base.length, .ref sub] (mergeMapping base.length (.ref sub) false)).onRaise g; pure (some base.length)))
      dp (shH os (base ++ dOb L.toArray n :: subs) t) (some base.length) dp (shH os (base ++ dOb (L ++ L').toArray (n + L'.length) :: (subs ++ [dOb L'.toArray n'])) t') := by
  have e : (base ++ dOb L.toArray n :: subs) ++ [dOb L'.toArray n'] = base ++ dOb L.toArray n :: (subs ++ [dOb L'.toArray n']) := by simp
  rw [e] at h
  have ha : (base ++ dOb L.toArray n :: subs).length = base.length + 1 + subs.length := by rw [List.length_append, List.length_cons]; omega
  have hb : (base ++ dOb L.toArray n :: subs).length ≠ sysModules := Nat.ne_of_gt (Nat.lt_of_lt_of_le hs (by rw [ha]; omega))
  exact go_flush1 hr h (go_merge ha hb hL hL' hk h0 hne hz)
theorem mainO_cons {x : Int × Str} {r : List (Int × Str)} (h : u.done = x :: r) : mainO tk u = chunkO tk u.done :: u.subs := by unfold mainO; rw [h]
theorem mainU_cons {b : Nat} {x : Int × Str} {r : List (Int × Str)} (h : u.done = x :: r) : mainU b u = some b := by unfold mainU; rw [h]
theorem mainO_nil (h : u.done = []) : mainO tk u = [] := by unfold mainO; rw [h]
theorem mainU_nil {b : Nat} (h : u.done = []) : mainU b u = none := by unfold mainU; rw [h]
theorem PU.ents (h : PU R base u (p :: l)) (hr : c = u.run ++ [p]) (t : Nat) : PE R ([], t) c := by
  subst hr
  have h3 := h.asc
  rw [show u.run ++ p :: l = (u.run ++ [p]) ++ l by simp] at h3
  refine ⟨fun e he => (nomatch he), ?_, fun p' hp => h.hk p' ?_, ?_⟩
  · exact (List.pairwise_append.mp (List.pairwise_append.mp h3).2.1).1
  · rw [show u.run ++ p :: l = (u.run ++ [p]) ++ l by simp]; exact List.mem_append.mpr (.inl hp)
  · have := h.len
    simp only [List.length_append, List.length_cons, List.length_nil] at this ⊢
    omega
theorem PU.below (h : PU R base u (p :: l)) (hr : c = u.run ++ [p]) (t t' : Nat) : ∀ e ∈ Mine.ents t u.done, ∀ e' ∈ Mine.ents t' c, e.hash < e'.hash := by
  subst hr
  have h3 := h.asc
  rw [show u.run ++ p :: l = (u.run ++ [p]) ++ l by simp, ← List.append_assoc] at h3
  have h4 := (List.pairwise_append.mp (List.pairwise_append.mp h3).1).2.2
  intro e he e' he'
  obtain ⟨x, hx, e1, _⟩ := ents_mem _ _ e he
  obtain ⟨y, hy, e2, _⟩ := ents_mem _ _ e' he'
  rw [e1, e2]
  exact h4 x hx y hy
theorem run_map : (u.run.map (mkT env dp) ++ [(KT env p.1, VT env dp p.2)]) = (u.run ++ [p]).map (mkT env dp) := by rw [List.map_append]; rfl
theorem nxU_nil (e : u.run.length = 16) (hd : u.done = []) : nxU tk u p = ⟨u.run ++ [p], [], []⟩ := by
  unfold nxU
  rw [if_pos e, hd]
  rfl
theorem nxU_cons {x : Int × Str} {r : List (Int × Str)} (e : u.run.length = 16) (hd : u.done = x :: r) : nxU tk u p = ⟨u.done ++ (u.run ++ [p]), [], u.subs ++ [chunkO (tk + 3 * u.done.length) (u.run ++ [p])]⟩ := by
  unfold nxU
  rw [if_pos e, hd]
theorem nxU_less (e : u.run.length ≠ 16) : nxU tk u p = ⟨u.done, u.run ++ [p], u.subs⟩ := by
  unfold nxU
  rw [if_neg e]
theorem go_flushNil (hu : PU R base u (p :: l)) (e : u.run.length = 16) (hd : u.done = []) :
    Go R 5000 (if (List.map (mkT env dp) (u.run ++ [p])).isEmpty = true then pure (none : Option Addr) else (do let x ← subDict (List.map (mkT env dp) (u.run ++ [p])); pure (some x)))
      dp (shH os (base ++ mainO tk u) (tk + 3 * u.done.length)) (some base.length) dp (shH os (base ++ mainO tk (nxU tk u p)) (tk + 3 * (nxU tk u p).done.length)) := by
  have hc : (u.run ++ [p]).length = 17 := by rw [List.length_append, e]; rfl
  have em : (List.map (mkT env dp) (u.run ++ [p])).isEmpty = false := by rw [List.isEmpty_eq_false_iff]; simp
  have g := go_subLong (R := R) (dp := dp) (env := env) (os := os) (tk := tk) (pre := base) (ps := u.run ++ [p]) (by omega) (hu.ents rfl tk) hu.ble
  rw [mainO_nil hd, hd, nxU_nil e hd, List.append_nil]
  have m : mainO tk ⟨u.run ++ [p], [], []⟩ = [chunkO tk (u.run ++ [p])] := by
    cases h : u.run ++ [p] with
    | nil => rw [h] at hc; cases hc
    | cons x r => rfl
  rw [m]
  exact go_more (go_flush0 em g) (by omega)
theorem go_flushCons {x : Int × Str} {r : List (Int × Str)} (hu : PU R base u (p :: l)) (e : u.run.length = 16) (hd : u.done = x :: r) :
    Go R 5000 (if (List.map (mkT env dp) (u.run ++ [p])).isEmpty = true then pure (some base.length) else (do let sub ← holding [.ref base.length] (subDict (List.map (mkT env dp) (u.run ++ [p]))); (holding [.ref base.length, .ref sub] (mergeMapping base.length (.ref sub) false)).onRaise g; pure (some base.length)))
      dp (shH os (base ++ mainO tk u) (tk + 3 * u.done.length)) (some base.length) dp (shH os (base ++ mainO tk (nxU tk u p)) (tk + 3 * (nxU tk u p).done.length)) := by
  have hc : (u.run ++ [p]).length = 17 := by rw [List.length_append, e]; rfl
  have em : (List.map (mkT env dp) (u.run ++ [p])).isEmpty = false := by rw [List.isEmpty_eq_false_iff]; simp
  have hl : (base ++ chunkO tk u.done :: u.subs).length ≥ base.length := by rw [List.length_append]; omega
  have hb : Nat.ble R.n₀ (base ++ chunkO tk u.done :: u.subs).length = true := Nat.ble_eq.mpr (Nat.le_trans (Nat.ble_eq.mp hu.ble) hl)
  have s := go_subLong (R := R) (dp := dp) (env := env) (os := os) (tk := tk + 3 * u.done.length) (pre := base ++ chunkO tk u.done :: u.subs) (ps := u.run ++ [p]) (by omega) (hu.ents rfl _) hb
  have en := ents_len (u.run ++ [p]) (tk + 3 * u.done.length)
  have ed := ents_len u.done tk
  have len := hu.len
  have k := go_chunk (R := R) (g := g) (L := ents tk u.done) (L' := ents (tk + 3 * u.done.length) (u.run ++ [p])) (n := u.done.length) (n' := (u.run ++ [p]).length) (subs := u.subs) em s hu.sys (hu.below rfl _ _) (ents_asc _ _ (hu.ents rfl tk).2.1)
    (fun e he => by obtain ⟨y, _, _, t, ht⟩ := ents_mem _ _ e he; exact ⟨_, _, ht⟩) hu.ble (by rw [hd]; exact List.cons_ne_nil _ _) (by rw [en, ed, hc]; simp only [List.length_cons] at len; omega)
  rw [mainO_cons hd, nxU_cons e hd]
  have m : mainO tk ⟨u.done ++ (u.run ++ [p]), [], u.subs ++ [chunkO (tk + 3 * u.done.length) (u.run ++ [p])]⟩ = chunkO tk (u.done ++ (u.run ++ [p])) :: (u.subs ++ [chunkO (tk + 3 * u.done.length) (u.run ++ [p])]) := by
    cases h : u.done ++ (u.run ++ [p]) with
    | nil => rw [hd] at h; cases h
    | cons x r => rfl
  rw [m]
  have o : chunkO tk (u.done ++ (u.run ++ [p])) = dOb (ents tk u.done ++ ents (tk + 3 * u.done.length) (u.run ++ [p])).toArray (u.done.length + (ents (tk + 3 * u.done.length) (u.run ++ [p])).length) := by
    unfold chunkO
    rw [ents_app, en, List.length_append]
  rw [o]
  have tt : tk + 3 * (u.done ++ (u.run ++ [p])).length = tk + 3 * u.done.length + 3 * (u.run ++ [p]).length := by rw [List.length_append]; omega
  show Go R 5000 _ _ _ _ _ (shH os _ (tk + 3 * (u.done ++ (u.run ++ [p])).length))
  rw [tt]
  exact go_more k (by rw [en]; omega)
theorem go_disp {uf : US} (hp : PU R base ⟨[], [], []⟩ ps) (hf : ps.foldl (nxU tk) ⟨[], [], []⟩ = uf) (hne : uf.done ≠ []) (hlast : uf.run.length ≤ 15) (hlast0 : uf.run ≠ []) (hpf : PU R base uf []) :
    Go R (5000 * ps.length + 5000) (dictDisplay (ps.map (mkI env dp))) dp (shH os base tk) (.ref base.length) dp
      (shH os (base ++ dOb (ents tk uf.done ++ (vt (tk + 3 * uf.done.length) uf.run).map eV).toArray (uf.done.length + uf.run.length) :: (uf.subs ++ [dOb ((vt (tk + 3 * uf.done.length) uf.run).map eV).toArray uf.run.length])) (tk + 3 * uf.done.length + 2 * uf.run.length + uf.run.length)) := by
  unfold dictDisplay
  refine go_bind (B := 5000 * ps.length) (B' := 5000) (a := (stU env dp os base tk uf).1) (q' := (stU env dp os base tk uf).2.1) (s' := (stU env dp os base tk uf).2.2) ?_ ?_
  · subst hf
    have e0 : shH os base tk = (stU env dp os base tk ⟨[], [], []⟩).2.2 := by
      show _ = shH os (base ++ []) (tk + 0)
      rw [List.append_nil]; rfl
    rw [e0]
    refine go_forIn (R := R) (C := 5000) (mkI env dp) (stU env dp os base tk) (nxU tk) (PU R base) (fun u p l hu => ⟨?_, hu.next⟩) ps ⟨[], [], []⟩ hp
    dsimp only [mkI, stU]
    rw [run_map, List.length_map]
    by_cases e : u.run.length = 16
    · rw [if_pos (by rw [List.length_append, e]; rfl)]
      cases hd : u.done with
      | nil =>
        have k := go_flushNil (R := R) (env := env) (dp := dp) (os := os) (tk := tk) hu e hd
        rw [mainU_nil hd, nxU_nil e hd]
        rw [nxU_nil e hd] at k
        rw [hd] at k
        have m : mainU base.length ⟨u.run ++ [p], [], []⟩ = some base.length := by
          cases h : u.run ++ [p] with
          | nil => simp at h
          | cons x r => rfl
        rw [m]
        exact go_bind (B := 5000) (B' := 0) k go_pure
      | cons x r =>
        have k := fun g => go_flushCons (R := R) (env := env) (dp := dp) (os := os) (tk := tk) (g := g) hu e hd
        rw [mainU_cons hd, nxU_cons e hd]
        rw [nxU_cons e hd] at k
        rw [hd] at k ⊢
        have m : mainU base.length ⟨(x :: r) ++ (u.run ++ [p]), [], u.subs ++ [chunkO (tk + 3 * (x :: r).length) (u.run ++ [p])]⟩ = some base.length := rfl
        rw [m]
        exact go_bind (B := 5000) (B' := 0) (k _) go_pure
    · rw [if_neg (by rw [List.length_append]; simpa using e), nxU_less e]
      exact go_more go_pure (Nat.zero_le _)
  · dsimp only [stU]
    obtain ⟨x, r, hd⟩ : ∃ x r, uf.done = x :: r := by
      cases h : uf.done with
      | nil => exact absurd h hne
      | cons x r => exact ⟨x, r, rfl⟩
    have em : (List.map (mkT env dp) uf.run).isEmpty = false := by rw [List.isEmpty_eq_false_iff]; simpa using hlast0
    have hl : (base ++ chunkO tk uf.done :: uf.subs).length ≥ base.length := by rw [List.length_append]; omega
    have hb : Nat.ble R.n₀ (base ++ chunkO tk uf.done :: uf.subs).length = true := Nat.ble_eq.mpr (Nat.le_trans (Nat.ble_eq.mp hpf.ble) hl)
    have asc := hpf.asc
    rw [List.append_nil] at asc
    have a3 := (List.pairwise_append.mp asc).2
    have s := go_subShort (R := R) (dp := dp) (env := env) (os := os) (tk := tk + 3 * uf.done.length) (pre := base ++ chunkO tk uf.done :: uf.subs) (ps := uf.run) hlast a3.1 (fun p hp => hpf.hk p (List.mem_append.mpr (.inl hp))) hb
    have en : ((vt (tk + 3 * uf.done.length) uf.run).map eV).length = uf.run.length := by rw [List.length_map, vt_len]
    have ed := ents_len uf.done tk
    have len := hpf.len
    rw [mainU_cons hd, mainO_cons hd]
    have k := fun g => go_chunk (R := R) (g := g) (L := ents tk uf.done) (L' := (vt (tk + 3 * uf.done.length) uf.run).map eV) (n := uf.done.length) (n' := uf.run.length) (subs := uf.subs) em s hpf.sys
      (fun e he e' he' => by
        obtain ⟨x, hx, e1, _⟩ := ents_mem _ _ e he
        obtain ⟨z, hz, rfl⟩ := List.mem_map.mp he'
        rw [e1]
        exact a3.2 x hx _ (vt_mem _ _ z hz))
      (List.pairwise_map.mpr (vt_asc _ _ a3.1)) (fun e he => by obtain ⟨z, _, rfl⟩ := List.mem_map.mp he; exact ⟨_, _, rfl⟩) hpf.ble (by rw [hd]; exact List.cons_ne_nil _ _) (by rw [en, ed]; omega)
    rw [en] at k
    exact go_more (go_bind (B' := 0) (k _) go_pure) (by omega)
end
end Mine
end
section
namespace Mine
set_option maxRecDepth 100000 in
theorem hash_f (w : World) : (b3pairs.map fun (p : Int × Str) (t : Tok) (k : Nat) => evQ treeTable pw (w.withFollow "special-get-raises" false) 20 (pyHash (.int p.1 t)) k) = b3pairs.map fun p _ k => some (p.1, k + 1) := by rw [PySem.W.Fast.te14364793385576792824, PySem.W.Fast.te10540108854288196387]; kernel_rfl
set_option maxRecDepth 100000 in
theorem hash_t (w : World) : (b3pairs.map fun (p : Int × Str) (t : Tok) (k : Nat) => evQ treeTable pw (w.withFollow "special-get-raises" true) 20 (pyHash (.int p.1 t)) k) = b3pairs.map fun p _ k => some (p.1, k + 1) := by rw [PySem.W.Fast.te14364793385576792824, PySem.W.Fast.te10540108854288196387]; kernel_rfl
theorem hash_all : ∀ w : World, (b3pairs.map fun (p : Int × Str) (t : Tok) (k : Nat) => evQ treeTable pw w 20 (pyHash (.int p.1 t)) k) = b3pairs.map fun p _ k => some (p.1, k + 1) :=
  byRow2 "special-get-raises" (P := fun w => (b3pairs.map fun (p : Int × Str) (t : Tok) (k : Nat) => evQ treeTable pw w 20 (pyHash (.int p.1 t)) k) = b3pairs.map fun p _ k => some (p.1, k + 1)) hash_f hash_t
noncomputable abbrev RW (w : World) : RC := ⟨treeTable, pw, w, 11, annE, cE, topFrame p0⟩
theorem b3_hk (w : World) : ∀ p ∈ b3pairs, HK (RW w) p.1 := fun p hp t k => congrFun (congrFun (List.map_inj_left.mp (hash_all w) p hp) t) k
def ascB : List (Int × Str) → Bool
  | a :: b :: r => decide (a.1 < b.1) && ascB (b :: r)
  | _ => true
theorem asc_of : ∀ l : List (Int × Str), ascB l = true → l.Pairwise fun a b => a.1 < b.1
  | [], _ => .nil
  | [a], _ => List.pairwise_singleton _ _
  | a :: b :: r, h => by
    unfold ascB at h
    rw [Bool.and_eq_true, decide_eq_true_eq] at h
    have ih := asc_of (b :: r) h.2
    refine List.pairwise_cons.mpr ⟨fun z hz => ?_, ih⟩
    rcases List.mem_cons.mp hz with rfl | hz
    · exact h.1
    · exact Int.lt_trans h.1 ((List.pairwise_cons.mp ih).1 z hz)
theorem b3_asc : b3pairs.Pairwise fun a b => a.1 < b.1 := asc_of _ (by decide +kernel)
end Mine
end
section
namespace Mine
noncomputable section
set_option maxRecDepth 100000
def b3ks : List (Option PySem.Expr) := match (pw.main.body[7]? : Option PySem.Stmt) with
  | some (PySem.Stmt.Assign _ (PySem.Expr.Dict ks _ _) _) => ks
  | _ => []
def b3vs : List PySem.Expr := match (pw.main.body[7]? : Option PySem.Stmt) with
  | some (PySem.Stmt.Assign _ (PySem.Expr.Dict _ vs _) _) => vs
  | _ => []
abbrev dpos : Pos := ⟨17, 16, 17, 8704⟩
theorem b3_stmt : (bodE.drop 7).take 1 = [.Assign [.Name (Str.ofString "b3_exceptions") ⟨17, 0, 17, 13⟩] (.Dict b3ks b3vs dpos) ⟨17, 0, 17, 8704⟩] := by kernel_rfl
theorem b3_items : ((evalEachOpt b3ks envE).zip ((evalEach b3vs envE).map fun v => do let x ← v; standAt dpos; pure x)) = b3pairs.map (mkI envE dpos) := by kernel_rfl
theorem b3_eval : eval (.Dict b3ks b3vs dpos) envE = (do standAt dpos; dictDisplay (b3pairs.map (mkI envE dpos))) := by
  rw [← b3_items]
  rfl
def uF : US := b3pairs.foldl (nxU 277) ⟨[], [], []⟩
theorem uF_len : (uF.done.length, uF.run.length) = (646, 4) := by kernel_rfl
theorem uF_all : uF.done ++ uF.run = b3pairs := by kernel_rfl
theorem b3_heap (P : Params) : (hTb P).list 47 ++ dOb (ents 277 uF.done ++ (vt 2215 uF.run).map eV).toArray 650 :: (uF.subs ++ [dOb ((vt 2215 uF.run).map eV).toArray 4]) = (hTp P).list 86 := by kernel_rfl
end
end Mine
end
section
namespace Mine
noncomputable section
set_option maxRecDepth 100000
theorem b3_tail (w : World) (os : OsState) : evS treeTable pw w 11 40 (do standAt ⟨17, 0, 17, 13⟩; bindName envE (Str.ofString "b3_exceptions") (.ref 47); pure Flow.next) dpos (hSp w os) = some (.next, ⟨17, 0, 17, 13⟩, hSc w os) := by kernel_rfl
theorem b3_base (P : Params) : ((hTb P).list 47).length = 47 := by
  unfold BT.list
  rw [List.length_map, List.length_range]
theorem b3_pu (w : World) (base : List Obj) (h : base.length = 47) : PU (RW w) base ⟨[], [], []⟩ b3pairs :=
  ⟨Nat.zero_le _, fun _ => rfl, b3_asc, b3_hk w, by rw [b3len]; decide, by rw [h]; decide, by rw [h]; rfl⟩
theorem b3_pu' (w : World) (base : List Obj) (h : base.length = 47) : PU (RW w) base uF [] := by
  have l := uF_len
  obtain ⟨l1, l2⟩ := Prod.mk.inj l
  have a := uF_all
  refine ⟨by rw [l2]; decide, fun z => ?_, ?_, fun p hp => b3_hk w p ?_, by rw [l1, l2]; decide, by rw [h]; decide, by rw [h]; rfl⟩
  · rw [z] at l1; cases l1
  · rw [List.append_nil, a]; exact b3_asc
  · rw [List.append_nil] at hp
    rw [← a]
    exact List.mem_append.mpr (.inr hp)
theorem b3_disp (w : World) (os : OsState) : Go (RW w) 3255000 (dictDisplay (b3pairs.map (mkI envE dpos))) dpos (hSb w os).abs (.ref 47) dpos (hSp w os).abs := by
  have hb := b3_base w.params
  have l := uF_len
  obtain ⟨l1, l2⟩ := Prod.mk.inj l
  have g := go_disp (R := RW w) (base := (hTb w.params).list 47) (tk := 277) (env := envE) (dp := dpos) (os := os) (ps := b3pairs) (uf := uF) (b3_pu w _ hb) rfl (by intro z; rw [z] at l1; cases l1) (by rw [l2]; decide) (by intro z; rw [z] at l2; cases l2) (b3_pu' w _ hb)
  rw [hb, l1, l2] at g
  rw [b3_heap] at g
  exact go_more g (by rw [b3len]; decide)
theorem h_b3 (w : World) (os : OsState) : segRun treeTable pw w 11 annE 1 3260001 (hSb w os).abs (piecesOf ((bodE.drop 7).take 1) envE cE ⟨15, 0, 16, 30⟩ B0) = some (.next, (hSc w os).abs, cE, ⟨17, 0, 17, 13⟩) := by
  rw [b3_stmt]
  have g : Go (RW w) 3260000 (execs [.Assign [.Name (Str.ofString "b3_exceptions") ⟨17, 0, 17, 13⟩] (.Dict b3ks b3vs dpos) ⟨17, 0, 17, 8704⟩] envE) ⟨15, 0, 16, 30⟩ (hSb w os).abs .next ⟨17, 0, 17, 13⟩ (hSc w os).abs := by
    rw [execs_cons]
    refine go_more (B := 3256000 + 0) (go_bind (a := Flow.next) ?_ go_pure) (by decide)
    rw [exec_Assign_Name (hs := rfl)]
    refine go_more (B := 1 + (3255001 + 480)) (go_bind go_at (go_bind (a := Value.ref 47) (q' := dpos) (s' := (hSp w os).abs) ?_ ?_)) (by decide)
    · rw [b3_eval]
      exact go_more (B := 1 + 3255000) (go_bind go_at (b3_disp w os)) (by decide)
    · exact go_of (R := RW w) (evS_ok 40 _ _ _ _ _ _ (b3_tail w os))
  exact g doneF deadEnd id id 1 _ rfl
end
end Mine
end
section
namespace Mine
noncomputable section
set_option maxRecDepth 100000
theorem h_split : bodE = bodE.take 5 ++ ((bodE.drop 5).take 1 ++ ((bodE.drop 6).take 1 ++ ((bodE.drop 7).take 1 ++ (bodE.drop 8 ++ [])))) := by kernel_rfl
theorem h_run (w : World) (os : OsState) : topRun treeTable pw w 11 annE (12 + (1 + (89 + (1100 + (30 + (3260001 + (149 + 2))))))) ⟨boot_heap w.params, #[], boot_drawn, boot_toks, os⟩ (topStub pw) = some (hSd w os).abs := by
  refine go_top (h_pre w os) (piece_block (h_block w os) ?_)
  have e := h_split
  generalize hb : cE = code at *
  rw [e]
  subst hb
  exact piece_app (segRun_of (h_a1 w os)) (piece_app (segRun_of (h_a2 w os)) (piece_app (segRun_of (h_a3 w os)) (piece_app (h_b3 w os) (piece_app (segRun_of (h_c w os)) (piece_nil (h_fin w os))))))
end
end Mine
end
section
namespace Mine
noncomputable section
set_option maxRecDepth 100000
def H1f (P : Params) : Heap := ⟨List.toArray (hO0a P :: hO1a P :: hO2a P :: hO3d P :: hO4a P :: hO5a P :: hO6a P :: hO7a P :: hO8a P :: hO9a P :: hO10a P :: hO11a P :: hO12d P :: hO13a P :: hO14a P :: hO15e P :: hO16e P :: hO17e P :: hO18e P :: hO19e P :: hO20e P :: hO21e P :: hO22e P :: hO23e P :: hO24e P :: hO25e P :: hO26e P :: hO27e P :: hO28e P :: hO29f P :: hO30f P :: hO31f P :: hO32f P :: hO33f P :: hO34f P :: hO35f P :: hO36f P :: hO37f P :: hO38f P :: hO39f P :: hO40b P :: hO41b P :: hO42b P :: hO43b P :: hO44b P :: hO45b P :: hO46b P :: hO47c P :: hO48c P :: hO49c P :: hO50c P :: hO51c P :: hO52c P :: hO53c P :: hO54c P :: hO55c P :: hO56c P :: hO57c P :: hO58c P :: hO59c P :: hO60c P :: hO61c P :: hO62c P :: hO63c P :: hO64c P :: hO65c P :: hO66c P :: hO67c P :: hO68c P :: hO69c P :: hO70c P :: hO71c P :: hO72c P :: hO73c P :: hO74c P :: hO75c P :: hO76c P :: hO77c P :: hO78c P :: hO79c P :: hO80c P :: hO81c P :: hO82c P :: hO83c P :: hO84c P :: hO85c P :: hO86d P :: hO87d P :: hO88d P :: hO89d P :: hO90d P :: hO91d P :: hO92d P :: hO93d P :: hO94d P :: hO95d P :: hO96d P :: hO97d P :: hO98d P :: hO99d P :: hO100d P :: hO101d P :: hO102d P :: hO103d P :: hO104d P :: hO105d P :: hO106d P :: hO107d P :: hO108d P :: hO109d P :: hO110d P :: hO111d P :: hO112d P :: hO113d P :: hO114d P :: []), {}⟩
theorem H1_eq (P : Params) : absHeap (hTd P) 115 {} = H1f P := by kernel_rfl
theorem h_open : ∀ w : World, (fencedOpening treeTable pw w 4000000).map (fun s => (s.heap, s.gens, s.drawn, s.toks)) = some (boot_heap w.params, Array.mk [], boot_drawn, boot_toks) :=
  boot_open (p := pw) (N := 4000000) (by kernel_rfl) rfl (fun s => by kernel_rfl)
theorem h_size (w : World) : ((boot_heap w.params).isNs mainGlobals && (#[] : Array GenState).size == 0, (boot_heap w.params).objs.size, (boot_heap w.params).nsMap mainGlobals "__annotations__") = (true, 11, annE) := by kernel_rfl
theorem h_look1 (w : World) (os : OsState) : (staticsOk (importedModules pw.main.body) (boot_heap w.params) (H1f w.params) && namesBound pw (H1f w.params) && gensDone ⟨H1f w.params, #[], ⟨0, 0, 0, 0⟩, 2264, os⟩ && laidKept (boot_heap w.params) (H1f w.params)) = true := by kernel_rfl
theorem h_look2 (w : World) (os : OsState) : openSeen view LS (importedModules pw.main.body) (fun s => xlAt view [] s && recOk [] s) true ⟨H1f w.params, #[], ⟨0, 0, 0, 0⟩, 2264, os⟩ = openGood view LS := by
  rw [PySem.W.Fast.te4187177175401517315]
  kernel_rfl
theorem h_look3 (w : World) (os : OsState) : Hook.obs (kHook KH KHas KHkeys) ⟨H1f w.params, #[], ⟨0, 0, 0, 0⟩, 2264, os⟩ = Hook.val (kHook KH KHas KHkeys) w := by kernel_rfl
end
end Mine
end
section
namespace Mine
noncomputable section
theorem h_left : LeftO pw view LS (fun s => xlAt view [] s && recOk [] s) (Hook.obs (kHook KH KHas KHkeys)) (Hook.val (kHook KH KHas KHkeys)) 4000000 :=
  LeftO.of_pieces (H₀ := boot_heap) (H₁ := H1f) (gs₀ := #[]) (gs₁ := #[]) (d₀ := boot_drawn) (d₁ := ⟨0, 0, 0, 0⟩) (k₀ := boot_toks) (k₁ := 2264) (m₀ := 11) (ann := annE) (M := 12 + (1 + (89 + (1100 + (30 + (3260001 + (149 + 2)))))))
    h_open h_size (fun w os => by
      have h := h_run w os
      rw [h]
      show some (Shared.mk (absHeap (hTd w.params) 115 {}) _ _ _ _) = _
      rw [H1_eq]
      rfl) (by decide) (fun w => funext fun os => Prod.ext (h_look1 w os) (Prod.ext (h_look2 w os) (h_look3 w os)))
end
set_option maxRecDepth 100000 in
set_option maxHeartbeats 8000000 in
theorem kfillJ4 : (PySem.Challenge.rw_wb0057_01, KH) = (PySem.Challenge.rw_wb0057_01, KH) := by k_fill; rfl
set_option maxRecDepth 100000 in
set_option maxHeartbeats 8000000 in
theorem holds57 : PySem.Challenge.rw_wb0057_01.Holds := by
  w_on
  refine holds_law (by rw [PySem.W.Fast.te9446332074065402090]; kernel_rfl) fun said => ?_
  refine holds_open (q := Mine.view) (loose := LS) (Xt := fun s => xlAt Mine.view [] s && recOk [] s) (XP := XL Mine.view []) (Yf := Hook.obs (kHook Mine.KH Mine.KHas Mine.KHkeys)) (Ya := Hook.val (kHook Mine.KH Mine.KHas Mine.KHkeys)) (YP := Hook.says (kHook Mine.KH Mine.KHas Mine.KHkeys)) (N := 4000000) ?hl (Hook.of (kHook Mine.KH Mine.KHas Mine.KHkeys)) (Hook.keeps (kHook Mine.KH Mine.KHas Mine.KHkeys)) (fun s e => xl_of s (Bool.and_eq_true_iff.mp e).1) XL.keeps (by rfl) (by rfl) (by rfl) (fun s e => recFacts_of (Bool.and_eq_true_iff.mp e).2) (by rfl) (by first | assumption | decide +kernel) (by decide +kernel) ⟨rfl, rfl, rfl, rfl, rfl, by decide +kernel⟩ ?hw ?hc
  case hl => exact h_left
  case hw => w_witness2
  case hc =>
    intro w s₀ s₁ mg mb G Y fa o pm cd doc dV kV ho hd hcd hD hmg hg args vals as hpre hlay hrd hwl hlo
    have KX := kIn_of Y
    clear hd hD hcd
    refine Ground.open G ?_
    intro T B D TE TW
    clear TE TW
    have e : mg (Str.ofString "law") = some (.ref 114) := mg_of KX (Top.g T) (by k_is)
    have e2 : mg (Str.ofString "law") = some (.ref fa) := hmg
    rw [e] at e2
    have e3 : 114 = fa := Value.ref.inj (Option.some.inj e2)
    subst e3
    clear e2 hmg ho
    wrow_args hpre hlay hrd hwl hlo
    (rename Heap.IsList _ _ _ => hL)
    (rename IntsAre _ _ => hI)
    (rename ¬ _ => hc)
    refine enter_call ?_
    refine codeAny_mono ?_ (fun _ _ g => GoodW.toG g)
    have K0 := below_caller (Top.heap T)
    (rename PyData.layable0 _ = true => hY)
    have WW : Wd w (ExcName.means s₀.heap) mg mb s₁.heap := by
      refine ⟨fun a o e => KX a o ?_, T, ⟨_, KX 36 _ (by k_is)⟩, KX 47 _ (by k_is)⟩
      rw [KH_K, List.lookup_append, e]
      rfl
    clear KX Y
    refine c_law WW K0 hL hI (by omega) hY fun h' tk st => ?_
    refine ⟨.inl ⟨.bool true, .bool true, [], rfl, fun _ => rfl, .bool true, ?_, fun _ => ⟨List.nodup_nil, fun _ h => (nomatch h)⟩⟩, fun b o e => st b o e, rfl, hg⟩
    refine' postW_of ?zs ?zv ?ze
    case zs => first | assumption | o_shape | wrow_shape
    case zv => wtm_val
    case ze => first | rfl | w_fin
end Mine
end
theorem PySem.Challenge.cw_wb0057_01_holds : PySem.Challenge.rw_wb0057_01.Holds :=
  Mine.holds57
