import PyProof.Rows.All
import Wide.All
import OpenK.AllK
import Wide.FinOn
import PySem.Challenge.RW_mj0195_01
set_option Elab.async false
set_option linter.unusedVariables false
noncomputable section
open PySem PySem.W PyProof.Rows
set_option maxRecDepth 100000
namespace Mine
abbrev pp : Program := PySem.Challenge.pw_mj0195_01
def stOf (i : Nat) : Stmt := (pp.main.body[i]?).getD (.Pass default)
def fArgs : Stmt → Arguments
  | .FunctionDef _ a _ _ _ _ _ _ _ _ => a
  | _ => ⟨[], [], none, [], [], none, []⟩
def fBody : Stmt → List Stmt
  | .FunctionDef _ _ b _ _ _ _ _ _ _ => b
  | _ => []
def fScope : Stmt → Scope
  | .FunctionDef _ _ _ _ _ _ sc _ _ _ => sc
  | _ => ⟨.module, [], false, false, []⟩
def b3Ents (st : Nat) : Nat → List (Option Expr) → List Expr → List DictEntry
  | t, some (.Constant (.int k) _ _) :: ks, .Constant (.str v) _ _ :: vs => ⟨k, .int k t, .str v (t + 1)⟩ :: b3Ents st (t + st) ks vs
  | _, _, _ => []
def dKs : Stmt → List (Option Expr)
  | .Assign _ (.Dict ks _ _) _ => ks
  | _ => []
def dVs : Stmt → List Expr
  | .Assign _ (.Dict _ vs _) _ => vs
  | _ => []
def b3Of (st : Stmt) : List DictEntry := b3Ents 3 295 ((dKs st).take 646) ((dVs st).take 646) ++ b3Ents 2 2233 ((dKs st).drop 646) ((dVs st).drop 646)
def ents : List DictEntry := b3Of (stOf 9)
def oDict (n : Nat) (_ : Params) : Obj := ⟨.type "dict", none, .dict ⟨ents.take n⟩ n, #[]⟩
def oSub (j : Nat) (_ : Params) : Obj := ⟨.type "dict", none, .dict ⟨(ents.drop (17 * j)).take 17⟩ (if j = 38 then 4 else 17), #[]⟩
def life0 : Life := {}
def o11va (P : Params) : Obj := ⟨.type "tuple", none, .seq #[] 0, #[]⟩
def o12va (P : Params) : Obj := ⟨.none, none, .fields #[], #[]⟩
def o13va (P : Params) : Obj := ⟨.type "code", none, .fields #[.str (PySem.Str.ofString "<module>") 182, .str (PySem.Str.ofString "<module>") 183, .str (PySem.Str.ofString "/claim/cut.py") 184, .int 1 0, .int 0 0, .int 0 0, .int 0 0, .int 0 0, .ref 11, .bool false, .int 181 0, .ref 12, .none, .none, .none, .none, .int 185 0, .int 1 0, .str (PySem.Str.ofString "/claim/cut.py") 186], #[]⟩
def o14va (P : Params) : Obj := ⟨.type "frame", none, .plain, #[some (.ref 13), some (.ref 3), some (.ref 3), none, some (.str (PySem.Str.ofString "__main__") 164), none, some (.ref 0)]⟩
def ta (P : Params) : BT := (.node (boot_o_0 P) (.node (boot_o_1 P) (.node (boot_o_3 P) (.node (boot_o_7 P) .nil .nil) (.node (o11va P) .nil .nil)) (.node (boot_o_5 P) (.node (boot_o_9 P) .nil .nil) (.node (o13va P) .nil .nil))) (.node (boot_o_2 P) (.node (boot_o_4 P) (.node (boot_o_8 P) .nil .nil) (.node (o12va P) .nil .nil)) (.node (boot_o_6 P) (.node (boot_o_10 P) .nil .nil) (.node (o14va P) .nil .nil))))
def sa (w : World) (os : OsState) : SharedT := ⟨ta w.params, 15, life0, #[], boot_drawn, 187, os⟩
def o3v7 (P : Params) : Obj := ⟨.type "dict", none, .dict #[⟨PyData.keyHash P (PySem.Str.ofString "__name__"), .str (PySem.Str.ofString "__name__") 165, .str (PySem.Str.ofString "cpy313.stringprep") 226⟩, ⟨PyData.keyHash P (PySem.Str.ofString "__doc__"), .str (PySem.Str.ofString "__doc__") 166, .none⟩, ⟨PyData.keyHash P (PySem.Str.ofString "__package__"), .str (PySem.Str.ofString "__package__") 167, .none⟩, ⟨PyData.keyHash P (PySem.Str.ofString "__loader__"), .str (PySem.Str.ofString "__loader__") 168, .builtin "__main__.__loader__#opaque"⟩, ⟨PyData.keyHash P (PySem.Str.ofString "__spec__"), .str (PySem.Str.ofString "__spec__") 169, .none⟩, ⟨PyData.keyHash P (PySem.Str.ofString "__annotations__"), .str (PySem.Str.ofString "__annotations__") 170, .ref 6⟩, ⟨PyData.keyHash P (PySem.Str.ofString "__builtins__"), .str (PySem.Str.ofString "__builtins__") 171, .ref 4⟩, ⟨PyData.keyHash P (PySem.Str.ofString "__file__"), .str (PySem.Str.ofString "__file__") 173, .str (PySem.Str.ofString "/claim/cut.py") 172⟩, ⟨PyData.keyHash P (PySem.Str.ofString "__cached__"), .str (PySem.Str.ofString "__cached__") 174, .none⟩, ⟨PyData.keyHash P (PySem.Str.ofString "_ctoi"), .str (PySem.Str.ofString "_ctoi") 195, .ref 21⟩, ⟨PyData.keyHash P (PySem.Str.ofString "isprint"), .str (PySem.Str.ofString "isprint") 202, .ref 28⟩, ⟨PyData.keyHash P (PySem.Str.ofString "ctrl"), .str (PySem.Str.ofString "ctrl") 209, .ref 35⟩, ⟨PyData.keyHash P (PySem.Str.ofString "alt"), .str (PySem.Str.ofString "alt") 216, .ref 42⟩, ⟨PyData.keyHash P (PySem.Str.ofString "unctrl"), .str (PySem.Str.ofString "unctrl") 225, .ref 49⟩] 14, #[]⟩
def o12v7 (P : Params) : Obj := ⟨.none, none, .fields #[.int 2 0, .int 0 0, .ref 20, .int 7 0, .int 0 0, .ref 27, .int 9 0, .int 0 0, .ref 34, .int 14 0, .int 0 0, .ref 41, .int 19 0, .int 0 0, .ref 48], #[]⟩
def o15v7 (P : Params) : Obj := ⟨.type "tuple", none, .seq #[] 0, #[]⟩
def o16v7 (P : Params) : Obj := ⟨.none, none, .fields #[], #[]⟩
def o17v7 (P : Params) : Obj := ⟨.type "tuple", none, .seq #[.str (PySem.Str.ofString "c") 192] 0, #[]⟩
def o18v7 (P : Params) : Obj := ⟨.type "tuple", none, .seq #[] 0, #[]⟩
def o19v7 (P : Params) : Obj := ⟨.none, none, .func { name := (PySem.Str.ofString "_ctoi"), qualname := (PySem.Str.ofString "_ctoi"), params := fArgs (stOf 1), body := .stmts (fBody (stOf 1)), scope := fScope (stOf 1), globals := 0, closure := [], defaults := .none, kwdefaults := .none, doc := .none, pyModule := .none, annotations := none, code := .none, closureTuple := .none, builtins := 0 }, #[]⟩
def o20v7 (P : Params) : Obj := ⟨.type "code", none, .fields #[.str (PySem.Str.ofString "_ctoi") 189, .str (PySem.Str.ofString "_ctoi") 190, .str (PySem.Str.ofString "/claim/cut.py") 191, .int 2 0, .int 1 0, .int 0 0, .int 0 0, .int 3 0, .ref 15, .bool true, .int 181 0, .ref 16, .none, .ref 17, .ref 18, .ref 19, .int 193 0, .int 2 0, .str (PySem.Str.ofString "/claim/cut.py") 194], #[]⟩
def o21v7 (P : Params) : Obj := ⟨.type "function", none, .func { name := (PySem.Str.ofString "_ctoi"), qualname := (PySem.Str.ofString "_ctoi"), params := fArgs (stOf 1), body := .stmts (fBody (stOf 1)), scope := fScope (stOf 1), globals := 3, closure := [], defaults := .none, kwdefaults := .none, doc := .none, pyModule := .str (PySem.Str.ofString "cpy313.curses.ascii") 187, annotations := none, code := .ref 20, closureTuple := .none, builtins := 0 }, #[]⟩
def o22v7 (P : Params) : Obj := ⟨.type "tuple", none, .seq #[] 0, #[]⟩
def o23v7 (P : Params) : Obj := ⟨.none, none, .fields #[], #[]⟩
def o24v7 (P : Params) : Obj := ⟨.type "tuple", none, .seq #[.str (PySem.Str.ofString "c") 199] 0, #[]⟩
def o25v7 (P : Params) : Obj := ⟨.type "tuple", none, .seq #[] 0, #[]⟩
def o26v7 (P : Params) : Obj := ⟨.none, none, .func { name := (PySem.Str.ofString "isprint"), qualname := (PySem.Str.ofString "isprint"), params := fArgs (stOf 2), body := .stmts (fBody (stOf 2)), scope := fScope (stOf 2), globals := 0, closure := [], defaults := .none, kwdefaults := .none, doc := .none, pyModule := .none, annotations := none, code := .none, closureTuple := .none, builtins := 0 }, #[]⟩
def o27v7 (P : Params) : Obj := ⟨.type "code", none, .fields #[.str (PySem.Str.ofString "isprint") 196, .str (PySem.Str.ofString "isprint") 197, .str (PySem.Str.ofString "/claim/cut.py") 198, .int 7 0, .int 1 0, .int 0 0, .int 0 0, .int 3 0, .ref 22, .bool true, .int 181 0, .ref 23, .none, .ref 24, .ref 25, .ref 26, .int 200 0, .int 7 0, .str (PySem.Str.ofString "/claim/cut.py") 201], #[]⟩
def o28v7 (P : Params) : Obj := ⟨.type "function", none, .func { name := (PySem.Str.ofString "isprint"), qualname := (PySem.Str.ofString "isprint"), params := fArgs (stOf 2), body := .stmts (fBody (stOf 2)), scope := fScope (stOf 2), globals := 3, closure := [], defaults := .none, kwdefaults := .none, doc := .none, pyModule := .str (PySem.Str.ofString "cpy313.curses.ascii") 187, annotations := none, code := .ref 27, closureTuple := .none, builtins := 0 }, #[]⟩
def o29v7 (P : Params) : Obj := ⟨.type "tuple", none, .seq #[] 0, #[]⟩
def o30v7 (P : Params) : Obj := ⟨.none, none, .fields #[], #[]⟩
def o31v7 (P : Params) : Obj := ⟨.type "tuple", none, .seq #[.str (PySem.Str.ofString "c") 206] 0, #[]⟩
def o32v7 (P : Params) : Obj := ⟨.type "tuple", none, .seq #[] 0, #[]⟩
def o33v7 (P : Params) : Obj := ⟨.none, none, .func { name := (PySem.Str.ofString "ctrl"), qualname := (PySem.Str.ofString "ctrl"), params := fArgs (stOf 3), body := .stmts (fBody (stOf 3)), scope := fScope (stOf 3), globals := 0, closure := [], defaults := .none, kwdefaults := .none, doc := .none, pyModule := .none, annotations := none, code := .none, closureTuple := .none, builtins := 0 }, #[]⟩
def o34v7 (P : Params) : Obj := ⟨.type "code", none, .fields #[.str (PySem.Str.ofString "ctrl") 203, .str (PySem.Str.ofString "ctrl") 204, .str (PySem.Str.ofString "/claim/cut.py") 205, .int 9 0, .int 1 0, .int 0 0, .int 0 0, .int 3 0, .ref 29, .bool true, .int 181 0, .ref 30, .none, .ref 31, .ref 32, .ref 33, .int 207 0, .int 9 0, .str (PySem.Str.ofString "/claim/cut.py") 208], #[]⟩
def o35v7 (P : Params) : Obj := ⟨.type "function", none, .func { name := (PySem.Str.ofString "ctrl"), qualname := (PySem.Str.ofString "ctrl"), params := fArgs (stOf 3), body := .stmts (fBody (stOf 3)), scope := fScope (stOf 3), globals := 3, closure := [], defaults := .none, kwdefaults := .none, doc := .none, pyModule := .str (PySem.Str.ofString "cpy313.curses.ascii") 187, annotations := none, code := .ref 34, closureTuple := .none, builtins := 0 }, #[]⟩
def o36v7 (P : Params) : Obj := ⟨.type "tuple", none, .seq #[] 0, #[]⟩
def o37v7 (P : Params) : Obj := ⟨.none, none, .fields #[], #[]⟩
def o38v7 (P : Params) : Obj := ⟨.type "tuple", none, .seq #[.str (PySem.Str.ofString "c") 213] 0, #[]⟩
def o39v7 (P : Params) : Obj := ⟨.type "tuple", none, .seq #[] 0, #[]⟩
def o40v7 (P : Params) : Obj := ⟨.none, none, .func { name := (PySem.Str.ofString "alt"), qualname := (PySem.Str.ofString "alt"), params := fArgs (stOf 4), body := .stmts (fBody (stOf 4)), scope := fScope (stOf 4), globals := 0, closure := [], defaults := .none, kwdefaults := .none, doc := .none, pyModule := .none, annotations := none, code := .none, closureTuple := .none, builtins := 0 }, #[]⟩
def o41v7 (P : Params) : Obj := ⟨.type "code", none, .fields #[.str (PySem.Str.ofString "alt") 210, .str (PySem.Str.ofString "alt") 211, .str (PySem.Str.ofString "/claim/cut.py") 212, .int 14 0, .int 1 0, .int 0 0, .int 0 0, .int 3 0, .ref 36, .bool true, .int 181 0, .ref 37, .none, .ref 38, .ref 39, .ref 40, .int 214 0, .int 14 0, .str (PySem.Str.ofString "/claim/cut.py") 215], #[]⟩
def o42v7 (P : Params) : Obj := ⟨.type "function", none, .func { name := (PySem.Str.ofString "alt"), qualname := (PySem.Str.ofString "alt"), params := fArgs (stOf 4), body := .stmts (fBody (stOf 4)), scope := fScope (stOf 4), globals := 3, closure := [], defaults := .none, kwdefaults := .none, doc := .none, pyModule := .str (PySem.Str.ofString "cpy313.curses.ascii") 187, annotations := none, code := .ref 41, closureTuple := .none, builtins := 0 }, #[]⟩
def o43v7 (P : Params) : Obj := ⟨.type "tuple", none, .seq #[] 0, #[]⟩
def o44v7 (P : Params) : Obj := ⟨.none, none, .fields #[], #[]⟩
def o45v7 (P : Params) : Obj := ⟨.type "tuple", none, .seq #[.str (PySem.Str.ofString "c") 220, .str (PySem.Str.ofString "bits") 221, .str (PySem.Str.ofString "rep") 222] 0, #[]⟩
def o46v7 (P : Params) : Obj := ⟨.type "tuple", none, .seq #[] 0, #[]⟩
def o47v7 (P : Params) : Obj := ⟨.none, none, .func { name := (PySem.Str.ofString "unctrl"), qualname := (PySem.Str.ofString "unctrl"), params := fArgs (stOf 5), body := .stmts (fBody (stOf 5)), scope := fScope (stOf 5), globals := 0, closure := [], defaults := .none, kwdefaults := .none, doc := .none, pyModule := .none, annotations := none, code := .none, closureTuple := .none, builtins := 0 }, #[]⟩
def o48v7 (P : Params) : Obj := ⟨.type "code", none, .fields #[.str (PySem.Str.ofString "unctrl") 217, .str (PySem.Str.ofString "unctrl") 218, .str (PySem.Str.ofString "/claim/cut.py") 219, .int 19 0, .int 1 0, .int 0 0, .int 0 0, .int 3 0, .ref 43, .bool true, .int 181 0, .ref 44, .none, .ref 45, .ref 46, .ref 47, .int 223 0, .int 19 0, .str (PySem.Str.ofString "/claim/cut.py") 224], #[]⟩
def o49v7 (P : Params) : Obj := ⟨.type "function", none, .func { name := (PySem.Str.ofString "unctrl"), qualname := (PySem.Str.ofString "unctrl"), params := fArgs (stOf 5), body := .stmts (fBody (stOf 5)), scope := fScope (stOf 5), globals := 3, closure := [], defaults := .none, kwdefaults := .none, doc := .none, pyModule := .str (PySem.Str.ofString "cpy313.curses.ascii") 187, annotations := none, code := .ref 48, closureTuple := .none, builtins := 0 }, #[]⟩
def t7 (P : Params) : BT := (.node (boot_o_0 P) (.node (boot_o_1 P) (.node (o3v7 P) (.node (boot_o_7 P) (.node (o15v7 P) (.node (o31v7 P) .nil .nil) (.node (o47v7 P) .nil .nil)) (.node (o23v7 P) (.node (o39v7 P) .nil .nil) .nil)) (.node (o11va P) (.node (o19v7 P) (.node (o35v7 P) .nil .nil) .nil) (.node (o27v7 P) (.node (o43v7 P) .nil .nil) .nil))) (.node (boot_o_5 P) (.node (boot_o_9 P) (.node (o17v7 P) (.node (o33v7 P) .nil .nil) (.node (o49v7 P) .nil .nil)) (.node (o25v7 P) (.node (o41v7 P) .nil .nil) .nil)) (.node (o13va P) (.node (o21v7 P) (.node (o37v7 P) .nil .nil) .nil) (.node (o29v7 P) (.node (o45v7 P) .nil .nil) .nil)))) (.node (boot_o_2 P) (.node (boot_o_4 P) (.node (boot_o_8 P) (.node (o16v7 P) (.node (o32v7 P) .nil .nil) (.node (o48v7 P) .nil .nil)) (.node (o24v7 P) (.node (o40v7 P) .nil .nil) .nil)) (.node (o12v7 P) (.node (o20v7 P) (.node (o36v7 P) .nil .nil) .nil) (.node (o28v7 P) (.node (o44v7 P) .nil .nil) .nil))) (.node (boot_o_6 P) (.node (boot_o_10 P) (.node (o18v7 P) (.node (o34v7 P) .nil .nil) .nil) (.node (o26v7 P) (.node (o42v7 P) .nil .nil) .nil)) (.node (o14va P) (.node (o22v7 P) (.node (o38v7 P) .nil .nil) .nil) (.node (o30v7 P) (.node (o46v7 P) .nil .nil) .nil)))))
def s7 (w : World) (os : OsState) : SharedT := ⟨t7 w.params, 50, life0, #[], boot_drawn, 228, os⟩
def o3v8 (P : Params) : Obj := ⟨.type "dict", none, .dict #[⟨PyData.keyHash P (PySem.Str.ofString "__name__"), .str (PySem.Str.ofString "__name__") 165, .str (PySem.Str.ofString "cpy313.stringprep") 226⟩, ⟨PyData.keyHash P (PySem.Str.ofString "__doc__"), .str (PySem.Str.ofString "__doc__") 166, .none⟩, ⟨PyData.keyHash P (PySem.Str.ofString "__package__"), .str (PySem.Str.ofString "__package__") 167, .none⟩, ⟨PyData.keyHash P (PySem.Str.ofString "__loader__"), .str (PySem.Str.ofString "__loader__") 168, .builtin "__main__.__loader__#opaque"⟩, ⟨PyData.keyHash P (PySem.Str.ofString "__spec__"), .str (PySem.Str.ofString "__spec__") 169, .none⟩, ⟨PyData.keyHash P (PySem.Str.ofString "__annotations__"), .str (PySem.Str.ofString "__annotations__") 170, .ref 6⟩, ⟨PyData.keyHash P (PySem.Str.ofString "__builtins__"), .str (PySem.Str.ofString "__builtins__") 171, .ref 4⟩, ⟨PyData.keyHash P (PySem.Str.ofString "__file__"), .str (PySem.Str.ofString "__file__") 173, .str (PySem.Str.ofString "/claim/cut.py") 172⟩, ⟨PyData.keyHash P (PySem.Str.ofString "__cached__"), .str (PySem.Str.ofString "__cached__") 174, .none⟩, ⟨PyData.keyHash P (PySem.Str.ofString "_ctoi"), .str (PySem.Str.ofString "_ctoi") 195, .ref 21⟩, ⟨PyData.keyHash P (PySem.Str.ofString "isprint"), .str (PySem.Str.ofString "isprint") 202, .ref 28⟩, ⟨PyData.keyHash P (PySem.Str.ofString "ctrl"), .str (PySem.Str.ofString "ctrl") 209, .ref 35⟩, ⟨PyData.keyHash P (PySem.Str.ofString "alt"), .str (PySem.Str.ofString "alt") 216, .ref 42⟩, ⟨PyData.keyHash P (PySem.Str.ofString "unctrl"), .str (PySem.Str.ofString "unctrl") 225, .ref 49⟩, ⟨PyData.keyHash P (PySem.Str.ofString "b1_set"), .str (PySem.Str.ofString "b1_set") 287, .ref 57⟩] 15, #[]⟩
def o50v8 (P : Params) : Obj := ⟨.type "list", none, .seq #[.int 173 228, .int 847 229, .int 6150 230, .int 6155 231, .int 6156 232, .int 6157 233, .int 8203 234, .int 8204 235, .int 8205 236, .int 8288 237, .int 65279 238] 0, #[]⟩
def o51v8 (P : Params) : Obj := ⟨.type "range", none, .fields #[.int 65024 239, .int 65040 240, .int 1 241], #[]⟩
def o52v8 (P : Params) : Obj := ⟨.type "list", none, .seq #[.int 65024 244, .int 65025 245, .int 65026 246, .int 65027 247, .int 65028 248, .int 65029 249, .int 65030 250, .int 65031 251, .int 65032 252, .int 65033 253, .int 65034 254, .int 65035 255, .int 65036 256, .int 65037 257, .int 65038 258, .int 65039 259] 18, #[]⟩
def o53v8 (P : Params) : Obj := ⟨.type "range_iterator", none, .fields #[.int 65040 0, .int 0 0, .int 1 0], #[]⟩
def o54v8 (P : Params) : Obj := ⟨.type "tuple", none, .seq #[] 0, #[]⟩
def o55v8 (P : Params) : Obj := ⟨.type "StopIteration", none, .fields #[.ref 54, .none, .none, .none, .bool false, .none], #[]⟩
def o56v8 (P : Params) : Obj := ⟨.type "list", none, .seq #[.int 173 228, .int 847 229, .int 6150 230, .int 6155 231, .int 6156 232, .int 6157 233, .int 8203 234, .int 8204 235, .int 8205 236, .int 8288 237, .int 65279 238, .int 65024 244, .int 65025 245, .int 65026 246, .int 65027 247, .int 65028 248, .int 65029 249, .int 65030 250, .int 65031 251, .int 65032 252, .int 65033 253, .int 65034 254, .int 65035 255, .int 65036 256, .int 65037 257, .int 65038 258, .int 65039 259] 0, #[]⟩
def o57v8 (P : Params) : Obj := ⟨.type "set", none, .set #[(65024, .int 65024 244), (65025, .int 65025 245), (65026, .int 65026 246), (65027, .int 65027 247), (65028, .int 65028 248), (65029, .int 65029 249), (6150, .int 6150 230), (65030, .int 65030 250), (65031, .int 65031 251), (65032, .int 65032 252), (65033, .int 65033 253), (6155, .int 6155 231), (6156, .int 6156 232), (6157, .int 6157 233), (8203, .int 8203 234), (8204, .int 8204 235), (8205, .int 8205 236), (65034, .int 65034 254), (65035, .int 65035 255), (65036, .int 65036 256), (65037, .int 65037 257), (65038, .int 65038 258), (65039, .int 65039 259), (173, .int 173 228), (847, .int 847 229), (8288, .int 8288 237), (65279, .int 65279 238)] 29 { mask := 127, place := #[0, 1, 2, 3, 4, 5, 6, 7, 8, 9, 10, 11, 12, 13, 14, 15, 16, 17, 18, 19, 20, 21, 22, 45, 79, 96, 127], dummies := #[], finger := 0, led := !P.followText "set-order", moves := 2, plain := true }, #[]⟩
def o58v8 (P : Params) : Obj := ⟨.type "list_iterator", none, .fields #[.none, .int 27 0], #[]⟩
def o59v8 (P : Params) : Obj := ⟨.type "tuple", none, .seq #[] 0, #[]⟩
def o60v8 (P : Params) : Obj := ⟨.type "StopIteration", none, .fields #[.ref 59, .none, .none, .none, .bool false, .none], #[]⟩
def t8 (P : Params) : BT := (.node (boot_o_0 P) (.node (boot_o_1 P) (.node (o3v8 P) (.node (boot_o_7 P) (.node (o15v7 P) (.node (o31v7 P) .nil .nil) (.node (o47v7 P) .nil .nil)) (.node (o23v7 P) (.node (o39v7 P) .nil .nil) (.node (o55v8 P) .nil .nil))) (.node (o11va P) (.node (o19v7 P) (.node (o35v7 P) .nil .nil) (.node (o51v8 P) .nil .nil)) (.node (o27v7 P) (.node (o43v7 P) .nil .nil) (.node (o59v8 P) .nil .nil)))) (.node (boot_o_5 P) (.node (boot_o_9 P) (.node (o17v7 P) (.node (o33v7 P) .nil .nil) (.node (o49v7 P) .nil .nil)) (.node (o25v7 P) (.node (o41v7 P) .nil .nil) (.node (o57v8 P) .nil .nil))) (.node (o13va P) (.node (o21v7 P) (.node (o37v7 P) .nil .nil) (.node (o53v8 P) .nil .nil)) (.node (o29v7 P) (.node (o45v7 P) .nil .nil) .nil)))) (.node (boot_o_2 P) (.node (boot_o_4 P) (.node (boot_o_8 P) (.node (o16v7 P) (.node (o32v7 P) .nil .nil) (.node (o48v7 P) .nil .nil)) (.node (o24v7 P) (.node (o40v7 P) .nil .nil) (.node (o56v8 P) .nil .nil))) (.node (o12v7 P) (.node (o20v7 P) (.node (o36v7 P) .nil .nil) (.node (o52v8 P) .nil .nil)) (.node (o28v7 P) (.node (o44v7 P) .nil .nil) (.node (o60v8 P) .nil .nil)))) (.node (boot_o_6 P) (.node (boot_o_10 P) (.node (o18v7 P) (.node (o34v7 P) .nil .nil) (.node (o50v8 P) .nil .nil)) (.node (o26v7 P) (.node (o42v7 P) .nil .nil) (.node (o58v8 P) .nil .nil))) (.node (o14va P) (.node (o22v7 P) (.node (o38v7 P) .nil .nil) (.node (o54v8 P) .nil .nil)) (.node (o30v7 P) (.node (o46v7 P) .nil .nil) .nil)))))
def s8 (w : World) (os : OsState) : SharedT := ⟨t8 w.params, 61, life0, #[], boot_drawn, 288, os⟩
def o3v9 (P : Params) : Obj := ⟨.type "dict", none, .dict #[⟨PyData.keyHash P (PySem.Str.ofString "__name__"), .str (PySem.Str.ofString "__name__") 165, .str (PySem.Str.ofString "cpy313.stringprep") 226⟩, ⟨PyData.keyHash P (PySem.Str.ofString "__doc__"), .str (PySem.Str.ofString "__doc__") 166, .none⟩, ⟨PyData.keyHash P (PySem.Str.ofString "__package__"), .str (PySem.Str.ofString "__package__") 167, .none⟩, ⟨PyData.keyHash P (PySem.Str.ofString "__loader__"), .str (PySem.Str.ofString "__loader__") 168, .builtin "__main__.__loader__#opaque"⟩, ⟨PyData.keyHash P (PySem.Str.ofString "__spec__"), .str (PySem.Str.ofString "__spec__") 169, .none⟩, ⟨PyData.keyHash P (PySem.Str.ofString "__annotations__"), .str (PySem.Str.ofString "__annotations__") 170, .ref 6⟩, ⟨PyData.keyHash P (PySem.Str.ofString "__builtins__"), .str (PySem.Str.ofString "__builtins__") 171, .ref 4⟩, ⟨PyData.keyHash P (PySem.Str.ofString "__file__"), .str (PySem.Str.ofString "__file__") 173, .str (PySem.Str.ofString "/claim/cut.py") 172⟩, ⟨PyData.keyHash P (PySem.Str.ofString "__cached__"), .str (PySem.Str.ofString "__cached__") 174, .none⟩, ⟨PyData.keyHash P (PySem.Str.ofString "_ctoi"), .str (PySem.Str.ofString "_ctoi") 195, .ref 21⟩, ⟨PyData.keyHash P (PySem.Str.ofString "isprint"), .str (PySem.Str.ofString "isprint") 202, .ref 28⟩, ⟨PyData.keyHash P (PySem.Str.ofString "ctrl"), .str (PySem.Str.ofString "ctrl") 209, .ref 35⟩, ⟨PyData.keyHash P (PySem.Str.ofString "alt"), .str (PySem.Str.ofString "alt") 216, .ref 42⟩, ⟨PyData.keyHash P (PySem.Str.ofString "unctrl"), .str (PySem.Str.ofString "unctrl") 225, .ref 49⟩, ⟨PyData.keyHash P (PySem.Str.ofString "b1_set"), .str (PySem.Str.ofString "b1_set") 287, .ref 57⟩, ⟨PyData.keyHash P (PySem.Str.ofString "in_table_b1"), .str (PySem.Str.ofString "in_table_b1") 294, .ref 67⟩] 16, #[]⟩
def o12v9 (P : Params) : Obj := ⟨.none, none, .fields #[.int 2 0, .int 0 0, .ref 20, .int 7 0, .int 0 0, .ref 27, .int 9 0, .int 0 0, .ref 34, .int 14 0, .int 0 0, .ref 41, .int 19 0, .int 0 0, .ref 48, .int 32 0, .int 0 0, .ref 66], #[]⟩
def o61v9 (P : Params) : Obj := ⟨.type "tuple", none, .seq #[] 0, #[]⟩
def o62v9 (P : Params) : Obj := ⟨.none, none, .fields #[], #[]⟩
def o63v9 (P : Params) : Obj := ⟨.type "tuple", none, .seq #[.str (PySem.Str.ofString "code") 291] 0, #[]⟩
def o64v9 (P : Params) : Obj := ⟨.type "tuple", none, .seq #[] 0, #[]⟩
def o65v9 (P : Params) : Obj := ⟨.none, none, .func { name := (PySem.Str.ofString "in_table_b1"), qualname := (PySem.Str.ofString "in_table_b1"), params := fArgs (stOf 8), body := .stmts (fBody (stOf 8)), scope := fScope (stOf 8), globals := 0, closure := [], defaults := .none, kwdefaults := .none, doc := .none, pyModule := .none, annotations := none, code := .none, closureTuple := .none, builtins := 0 }, #[]⟩
def o66v9 (P : Params) : Obj := ⟨.type "code", none, .fields #[.str (PySem.Str.ofString "in_table_b1") 288, .str (PySem.Str.ofString "in_table_b1") 289, .str (PySem.Str.ofString "/claim/cut.py") 290, .int 32 0, .int 1 0, .int 0 0, .int 0 0, .int 3 0, .ref 61, .bool true, .int 181 0, .ref 62, .none, .ref 63, .ref 64, .ref 65, .int 292 0, .int 32 0, .str (PySem.Str.ofString "/claim/cut.py") 293], #[]⟩
def o67v9 (P : Params) : Obj := ⟨.type "function", none, .func { name := (PySem.Str.ofString "in_table_b1"), qualname := (PySem.Str.ofString "in_table_b1"), params := fArgs (stOf 8), body := .stmts (fBody (stOf 8)), scope := fScope (stOf 8), globals := 3, closure := [], defaults := .none, kwdefaults := .none, doc := .none, pyModule := .str (PySem.Str.ofString "cpy313.stringprep") 226, annotations := none, code := .ref 66, closureTuple := .none, builtins := 0 }, #[]⟩
def t9 (P : Params) : BT := (.node (boot_o_0 P) (.node (boot_o_1 P) (.node (o3v9 P) (.node (boot_o_7 P) (.node (o15v7 P) (.node (o31v7 P) (.node (o63v9 P) .nil .nil) .nil) (.node (o47v7 P) .nil .nil)) (.node (o23v7 P) (.node (o39v7 P) .nil .nil) (.node (o55v8 P) .nil .nil))) (.node (o11va P) (.node (o19v7 P) (.node (o35v7 P) (.node (o67v9 P) .nil .nil) .nil) (.node (o51v8 P) .nil .nil)) (.node (o27v7 P) (.node (o43v7 P) .nil .nil) (.node (o59v8 P) .nil .nil)))) (.node (boot_o_5 P) (.node (boot_o_9 P) (.node (o17v7 P) (.node (o33v7 P) (.node (o65v9 P) .nil .nil) .nil) (.node (o49v7 P) .nil .nil)) (.node (o25v7 P) (.node (o41v7 P) .nil .nil) (.node (o57v8 P) .nil .nil))) (.node (o13va P) (.node (o21v7 P) (.node (o37v7 P) .nil .nil) (.node (o53v8 P) .nil .nil)) (.node (o29v7 P) (.node (o45v7 P) .nil .nil) (.node (o61v9 P) .nil .nil))))) (.node (boot_o_2 P) (.node (boot_o_4 P) (.node (boot_o_8 P) (.node (o16v7 P) (.node (o32v7 P) (.node (o64v9 P) .nil .nil) .nil) (.node (o48v7 P) .nil .nil)) (.node (o24v7 P) (.node (o40v7 P) .nil .nil) (.node (o56v8 P) .nil .nil))) (.node (o12v9 P) (.node (o20v7 P) (.node (o36v7 P) .nil .nil) (.node (o52v8 P) .nil .nil)) (.node (o28v7 P) (.node (o44v7 P) .nil .nil) (.node (o60v8 P) .nil .nil)))) (.node (boot_o_6 P) (.node (boot_o_10 P) (.node (o18v7 P) (.node (o34v7 P) (.node (o66v9 P) .nil .nil) .nil) (.node (o50v8 P) .nil .nil)) (.node (o26v7 P) (.node (o42v7 P) .nil .nil) (.node (o58v8 P) .nil .nil))) (.node (o14va P) (.node (o22v7 P) (.node (o38v7 P) .nil .nil) (.node (o54v8 P) .nil .nil)) (.node (o30v7 P) (.node (o46v7 P) .nil .nil) (.node (o62v9 P) .nil .nil))))))
def s9 (w : World) (os : OsState) : SharedT := ⟨t9 w.params, 68, life0, #[], boot_drawn, 295, os⟩
def o3v10 (P : Params) : Obj := ⟨.type "dict", none, .dict #[⟨PyData.keyHash P (PySem.Str.ofString "__name__"), .str (PySem.Str.ofString "__name__") 165, .str (PySem.Str.ofString "cpy313.stringprep") 226⟩, ⟨PyData.keyHash P (PySem.Str.ofString "__doc__"), .str (PySem.Str.ofString "__doc__") 166, .none⟩, ⟨PyData.keyHash P (PySem.Str.ofString "__package__"), .str (PySem.Str.ofString "__package__") 167, .none⟩, ⟨PyData.keyHash P (PySem.Str.ofString "__loader__"), .str (PySem.Str.ofString "__loader__") 168, .builtin "__main__.__loader__#opaque"⟩, ⟨PyData.keyHash P (PySem.Str.ofString "__spec__"), .str (PySem.Str.ofString "__spec__") 169, .none⟩, ⟨PyData.keyHash P (PySem.Str.ofString "__annotations__"), .str (PySem.Str.ofString "__annotations__") 170, .ref 6⟩, ⟨PyData.keyHash P (PySem.Str.ofString "__builtins__"), .str (PySem.Str.ofString "__builtins__") 171, .ref 4⟩, ⟨PyData.keyHash P (PySem.Str.ofString "__file__"), .str (PySem.Str.ofString "__file__") 173, .str (PySem.Str.ofString "/claim/cut.py") 172⟩, ⟨PyData.keyHash P (PySem.Str.ofString "__cached__"), .str (PySem.Str.ofString "__cached__") 174, .none⟩, ⟨PyData.keyHash P (PySem.Str.ofString "_ctoi"), .str (PySem.Str.ofString "_ctoi") 195, .ref 21⟩, ⟨PyData.keyHash P (PySem.Str.ofString "isprint"), .str (PySem.Str.ofString "isprint") 202, .ref 28⟩, ⟨PyData.keyHash P (PySem.Str.ofString "ctrl"), .str (PySem.Str.ofString "ctrl") 209, .ref 35⟩, ⟨PyData.keyHash P (PySem.Str.ofString "alt"), .str (PySem.Str.ofString "alt") 216, .ref 42⟩, ⟨PyData.keyHash P (PySem.Str.ofString "unctrl"), .str (PySem.Str.ofString "unctrl") 225, .ref 49⟩, ⟨PyData.keyHash P (PySem.Str.ofString "b1_set"), .str (PySem.Str.ofString "b1_set") 287, .ref 57⟩, ⟨PyData.keyHash P (PySem.Str.ofString "in_table_b1"), .str (PySem.Str.ofString "in_table_b1") 294, .ref 67⟩, ⟨PyData.keyHash P (PySem.Str.ofString "b3_exceptions"), .str (PySem.Str.ofString "b3_exceptions") 2245, .ref 68⟩] 17, #[]⟩
def t10 (P : Params) : BT := (.node (boot_o_0 P) (.node (boot_o_1 P) (.node (o3v10 P) (.node (boot_o_7 P) (.node (o15v7 P) (.node (o31v7 P) (.node (o63v9 P) .nil .nil) (.node (oSub 27 P) .nil .nil)) (.node (o47v7 P) (.node (oSub 11 P) .nil .nil) .nil)) (.node (o23v7 P) (.node (o39v7 P) (.node (oSub 3 P) .nil .nil) (.node (oSub 35 P) .nil .nil)) (.node (o55v8 P) (.node (oSub 19 P) .nil .nil) .nil))) (.node (o11va P) (.node (o19v7 P) (.node (o35v7 P) (.node (o67v9 P) .nil .nil) (.node (oSub 31 P) .nil .nil)) (.node (o51v8 P) (.node (oSub 15 P) .nil .nil) .nil)) (.node (o27v7 P) (.node (o43v7 P) (.node (oSub 7 P) .nil .nil) .nil) (.node (o59v8 P) (.node (oSub 23 P) .nil .nil) .nil)))) (.node (boot_o_5 P) (.node (boot_o_9 P) (.node (o17v7 P) (.node (o33v7 P) (.node (o65v9 P) .nil .nil) (.node (oSub 29 P) .nil .nil)) (.node (o49v7 P) (.node (oSub 13 P) .nil .nil) .nil)) (.node (o25v7 P) (.node (o41v7 P) (.node (oSub 5 P) .nil .nil) (.node (oSub 37 P) .nil .nil)) (.node (o57v8 P) (.node (oSub 21 P) .nil .nil) .nil))) (.node (o13va P) (.node (o21v7 P) (.node (o37v7 P) (.node (oSub 1 P) .nil .nil) (.node (oSub 33 P) .nil .nil)) (.node (o53v8 P) (.node (oSub 17 P) .nil .nil) .nil)) (.node (o29v7 P) (.node (o45v7 P) (.node (oSub 9 P) .nil .nil) .nil) (.node (o61v9 P) (.node (oSub 25 P) .nil .nil) .nil))))) (.node (boot_o_2 P) (.node (boot_o_4 P) (.node (boot_o_8 P) (.node (o16v7 P) (.node (o32v7 P) (.node (o64v9 P) .nil .nil) (.node (oSub 28 P) .nil .nil)) (.node (o48v7 P) (.node (oSub 12 P) .nil .nil) .nil)) (.node (o24v7 P) (.node (o40v7 P) (.node (oSub 4 P) .nil .nil) (.node (oSub 36 P) .nil .nil)) (.node (o56v8 P) (.node (oSub 20 P) .nil .nil) .nil))) (.node (o12v9 P) (.node (o20v7 P) (.node (o36v7 P) (.node (oDict 650 P) .nil .nil) (.node (oSub 32 P) .nil .nil)) (.node (o52v8 P) (.node (oSub 16 P) .nil .nil) .nil)) (.node (o28v7 P) (.node (o44v7 P) (.node (oSub 8 P) .nil .nil) .nil) (.node (o60v8 P) (.node (oSub 24 P) .nil .nil) .nil)))) (.node (boot_o_6 P) (.node (boot_o_10 P) (.node (o18v7 P) (.node (o34v7 P) (.node (o66v9 P) .nil .nil) (.node (oSub 30 P) .nil .nil)) (.node (o50v8 P) (.node (oSub 14 P) .nil .nil) .nil)) (.node (o26v7 P) (.node (o42v7 P) (.node (oSub 6 P) .nil .nil) (.node (oSub 38 P) .nil .nil)) (.node (o58v8 P) (.node (oSub 22 P) .nil .nil) .nil))) (.node (o14va P) (.node (o22v7 P) (.node (o38v7 P) (.node (oSub 2 P) .nil .nil) (.node (oSub 34 P) .nil .nil)) (.node (o54v8 P) (.node (oSub 18 P) .nil .nil) .nil)) (.node (o30v7 P) (.node (o46v7 P) (.node (oSub 10 P) .nil .nil) .nil) (.node (o62v9 P) (.node (oSub 26 P) .nil .nil) .nil))))))
def s10 (w : World) (os : OsState) : SharedT := ⟨t10 w.params, 107, life0, #[], boot_drawn, 2246, os⟩
def o3vf (P : Params) : Obj := ⟨.type "dict", none, .dict #[⟨PyData.keyHash P (PySem.Str.ofString "__name__"), .str (PySem.Str.ofString "__name__") 165, .str (PySem.Str.ofString "law_mj0195_01") 2261⟩, ⟨PyData.keyHash P (PySem.Str.ofString "__doc__"), .str (PySem.Str.ofString "__doc__") 166, .none⟩, ⟨PyData.keyHash P (PySem.Str.ofString "__package__"), .str (PySem.Str.ofString "__package__") 167, .none⟩, ⟨PyData.keyHash P (PySem.Str.ofString "__loader__"), .str (PySem.Str.ofString "__loader__") 168, .builtin "__main__.__loader__#opaque"⟩, ⟨PyData.keyHash P (PySem.Str.ofString "__spec__"), .str (PySem.Str.ofString "__spec__") 169, .none⟩, ⟨PyData.keyHash P (PySem.Str.ofString "__annotations__"), .str (PySem.Str.ofString "__annotations__") 170, .ref 6⟩, ⟨PyData.keyHash P (PySem.Str.ofString "__builtins__"), .str (PySem.Str.ofString "__builtins__") 171, .ref 4⟩, ⟨PyData.keyHash P (PySem.Str.ofString "__file__"), .str (PySem.Str.ofString "__file__") 173, .str (PySem.Str.ofString "/claim/cut.py") 172⟩, ⟨PyData.keyHash P (PySem.Str.ofString "__cached__"), .str (PySem.Str.ofString "__cached__") 174, .none⟩, ⟨PyData.keyHash P (PySem.Str.ofString "_ctoi"), .str (PySem.Str.ofString "_ctoi") 195, .ref 21⟩, ⟨PyData.keyHash P (PySem.Str.ofString "isprint"), .str (PySem.Str.ofString "isprint") 202, .ref 28⟩, ⟨PyData.keyHash P (PySem.Str.ofString "ctrl"), .str (PySem.Str.ofString "ctrl") 209, .ref 35⟩, ⟨PyData.keyHash P (PySem.Str.ofString "alt"), .str (PySem.Str.ofString "alt") 216, .ref 42⟩, ⟨PyData.keyHash P (PySem.Str.ofString "unctrl"), .str (PySem.Str.ofString "unctrl") 225, .ref 49⟩, ⟨PyData.keyHash P (PySem.Str.ofString "b1_set"), .str (PySem.Str.ofString "b1_set") 287, .ref 57⟩, ⟨PyData.keyHash P (PySem.Str.ofString "in_table_b1"), .str (PySem.Str.ofString "in_table_b1") 294, .ref 67⟩, ⟨PyData.keyHash P (PySem.Str.ofString "b3_exceptions"), .str (PySem.Str.ofString "b3_exceptions") 2245, .ref 68⟩, ⟨PyData.keyHash P (PySem.Str.ofString "map_table_b3"), .str (PySem.Str.ofString "map_table_b3") 2253, .ref 113⟩, ⟨PyData.keyHash P (PySem.Str.ofString "in_table_c11"), .str (PySem.Str.ofString "in_table_c11") 2260, .ref 120⟩, ⟨PyData.keyHash P (PySem.Str.ofString "_law_behind"), .str (PySem.Str.ofString "_law_behind") 2270, .ref 127⟩, ⟨PyData.keyHash P (PySem.Str.ofString "_law_nothing"), .str (PySem.Str.ofString "_law_nothing") 2276, .ref 132⟩, ⟨PyData.keyHash P (PySem.Str.ofString "_law_key"), .str (PySem.Str.ofString "_law_key") 2292, .ref 139⟩, ⟨PyData.keyHash P (PySem.Str.ofString "_law_names"), .str (PySem.Str.ofString "_law_names") 2302, .ref 146⟩, ⟨PyData.keyHash P (PySem.Str.ofString "_law_read"), .str (PySem.Str.ofString "_law_read") 2309, .ref 153⟩, ⟨PyData.keyHash P (PySem.Str.ofString "law"), .str (PySem.Str.ofString "law") 2315, .ref 158⟩] 25, #[]⟩
def o12vf (P : Params) : Obj := ⟨.none, none, .fields #[.int 2 0, .int 0 0, .ref 20, .int 7 0, .int 0 0, .ref 27, .int 9 0, .int 0 0, .ref 34, .int 14 0, .int 0 0, .ref 41, .int 19 0, .int 0 0, .ref 48, .int 32 0, .int 0 0, .ref 66, .int 35 0, .int 0 0, .ref 112, .int 40 0, .int 0 0, .ref 119, .int 43 0, .int 0 0, .ref 126, .int 53 0, .int 0 0, .ref 131, .int 56 0, .int 0 0, .ref 138, .int 74 0, .int 0 0, .ref 145, .int 85 0, .int 0 0, .ref 152, .int 95 0, .int 0 0, .ref 157], #[]⟩
def o107vf (P : Params) : Obj := ⟨.type "tuple", none, .seq #[] 0, #[]⟩
def o108vf (P : Params) : Obj := ⟨.none, none, .fields #[], #[]⟩
def o109vf (P : Params) : Obj := ⟨.type "tuple", none, .seq #[.str (PySem.Str.ofString "code") 2249, .str (PySem.Str.ofString "r") 2250] 0, #[]⟩
def o110vf (P : Params) : Obj := ⟨.type "tuple", none, .seq #[] 0, #[]⟩
def o111vf (P : Params) : Obj := ⟨.none, none, .func { name := (PySem.Str.ofString "map_table_b3"), qualname := (PySem.Str.ofString "map_table_b3"), params := fArgs (stOf 10), body := .stmts (fBody (stOf 10)), scope := fScope (stOf 10), globals := 0, closure := [], defaults := .none, kwdefaults := .none, doc := .none, pyModule := .none, annotations := none, code := .none, closureTuple := .none, builtins := 0 }, #[]⟩
def o112vf (P : Params) : Obj := ⟨.type "code", none, .fields #[.str (PySem.Str.ofString "map_table_b3") 2246, .str (PySem.Str.ofString "map_table_b3") 2247, .str (PySem.Str.ofString "/claim/cut.py") 2248, .int 35 0, .int 1 0, .int 0 0, .int 0 0, .int 3 0, .ref 107, .bool true, .int 181 0, .ref 108, .none, .ref 109, .ref 110, .ref 111, .int 2251 0, .int 35 0, .str (PySem.Str.ofString "/claim/cut.py") 2252], #[]⟩
def o113vf (P : Params) : Obj := ⟨.type "function", none, .func { name := (PySem.Str.ofString "map_table_b3"), qualname := (PySem.Str.ofString "map_table_b3"), params := fArgs (stOf 10), body := .stmts (fBody (stOf 10)), scope := fScope (stOf 10), globals := 3, closure := [], defaults := .none, kwdefaults := .none, doc := .none, pyModule := .str (PySem.Str.ofString "cpy313.stringprep") 226, annotations := none, code := .ref 112, closureTuple := .none, builtins := 0 }, #[]⟩
def o114vf (P : Params) : Obj := ⟨.type "tuple", none, .seq #[] 0, #[]⟩
def o115vf (P : Params) : Obj := ⟨.none, none, .fields #[], #[]⟩
def o116vf (P : Params) : Obj := ⟨.type "tuple", none, .seq #[.str (PySem.Str.ofString "code") 2257] 0, #[]⟩
def o117vf (P : Params) : Obj := ⟨.type "tuple", none, .seq #[] 0, #[]⟩
def o118vf (P : Params) : Obj := ⟨.none, none, .func { name := (PySem.Str.ofString "in_table_c11"), qualname := (PySem.Str.ofString "in_table_c11"), params := fArgs (stOf 11), body := .stmts (fBody (stOf 11)), scope := fScope (stOf 11), globals := 0, closure := [], defaults := .none, kwdefaults := .none, doc := .none, pyModule := .none, annotations := none, code := .none, closureTuple := .none, builtins := 0 }, #[]⟩
def o119vf (P : Params) : Obj := ⟨.type "code", none, .fields #[.str (PySem.Str.ofString "in_table_c11") 2254, .str (PySem.Str.ofString "in_table_c11") 2255, .str (PySem.Str.ofString "/claim/cut.py") 2256, .int 40 0, .int 1 0, .int 0 0, .int 0 0, .int 3 0, .ref 114, .bool true, .int 181 0, .ref 115, .none, .ref 116, .ref 117, .ref 118, .int 2258 0, .int 40 0, .str (PySem.Str.ofString "/claim/cut.py") 2259], #[]⟩
def o120vf (P : Params) : Obj := ⟨.type "function", none, .func { name := (PySem.Str.ofString "in_table_c11"), qualname := (PySem.Str.ofString "in_table_c11"), params := fArgs (stOf 11), body := .stmts (fBody (stOf 11)), scope := fScope (stOf 11), globals := 3, closure := [], defaults := .none, kwdefaults := .none, doc := .none, pyModule := .str (PySem.Str.ofString "cpy313.stringprep") 226, annotations := none, code := .ref 119, closureTuple := .none, builtins := 0 }, #[]⟩
def o121vf (P : Params) : Obj := ⟨.type "tuple", none, .seq #[] 0, #[]⟩
def o122vf (P : Params) : Obj := ⟨.none, none, .fields #[], #[]⟩
def o123vf (P : Params) : Obj := ⟨.type "tuple", none, .seq #[.str (PySem.Str.ofString "low") 2266, .str (PySem.Str.ofString "way") 2267] 0, #[]⟩
def o124vf (P : Params) : Obj := ⟨.type "tuple", none, .seq #[] 0, #[]⟩
def o125vf (P : Params) : Obj := ⟨.none, none, .func { name := (PySem.Str.ofString "_law_behind"), qualname := (PySem.Str.ofString "_law_behind"), params := fArgs (stOf 13), body := .stmts (fBody (stOf 13)), scope := fScope (stOf 13), globals := 0, closure := [], defaults := .none, kwdefaults := .none, doc := .none, pyModule := .none, annotations := none, code := .none, closureTuple := .none, builtins := 0 }, #[]⟩
def o126vf (P : Params) : Obj := ⟨.type "code", none, .fields #[.str (PySem.Str.ofString "_law_behind") 2263, .str (PySem.Str.ofString "_law_behind") 2264, .str (PySem.Str.ofString "/claim/cut.py") 2265, .int 43 0, .int 2 0, .int 0 0, .int 0 0, .int 3 0, .ref 121, .bool true, .int 181 0, .ref 122, .none, .ref 123, .ref 124, .ref 125, .int 2268 0, .int 43 0, .str (PySem.Str.ofString "/claim/cut.py") 2269], #[]⟩
def o127vf (P : Params) : Obj := ⟨.type "function", none, .func { name := (PySem.Str.ofString "_law_behind"), qualname := (PySem.Str.ofString "_law_behind"), params := fArgs (stOf 13), body := .stmts (fBody (stOf 13)), scope := fScope (stOf 13), globals := 3, closure := [], defaults := .none, kwdefaults := .none, doc := .none, pyModule := .str (PySem.Str.ofString "law_mj0195_01") 2261, annotations := none, code := .ref 126, closureTuple := .none, builtins := 0 }, #[]⟩
def o128vf (P : Params) : Obj := ⟨.type "tuple", none, .seq #[] 0, #[]⟩
def o129vf (P : Params) : Obj := ⟨.none, none, .fields #[], #[]⟩
def o130vf (P : Params) : Obj := ⟨.none, none, .func { name := (PySem.Str.ofString "_law_nothing"), qualname := (PySem.Str.ofString "_law_nothing"), params := fArgs (stOf 14), body := .stmts (fBody (stOf 14)), scope := fScope (stOf 14), globals := 0, closure := [], defaults := .none, kwdefaults := .none, doc := .none, pyModule := .none, annotations := none, code := .none, closureTuple := .none, builtins := 0 }, #[]⟩
def o131vf (P : Params) : Obj := ⟨.type "code", none, .fields #[.str (PySem.Str.ofString "_law_nothing") 2271, .str (PySem.Str.ofString "_law_nothing") 2272, .str (PySem.Str.ofString "/claim/cut.py") 2273, .int 53 0, .int 1 0, .int 0 0, .int 0 0, .int 3 0, .ref 128, .bool true, .int 181 0, .ref 129, .none, .none, .none, .ref 130, .int 2274 0, .int 53 0, .str (PySem.Str.ofString "/claim/cut.py") 2275], #[]⟩
def o132vf (P : Params) : Obj := ⟨.type "function", none, .func { name := (PySem.Str.ofString "_law_nothing"), qualname := (PySem.Str.ofString "_law_nothing"), params := fArgs (stOf 14), body := .stmts (fBody (stOf 14)), scope := fScope (stOf 14), globals := 3, closure := [], defaults := .none, kwdefaults := .none, doc := .none, pyModule := .str (PySem.Str.ofString "law_mj0195_01") 2261, annotations := none, code := .ref 131, closureTuple := .none, builtins := 0 }, #[]⟩
def o133vf (P : Params) : Obj := ⟨.type "tuple", none, .seq #[] 0, #[]⟩
def o134vf (P : Params) : Obj := ⟨.none, none, .fields #[], #[]⟩
def o135vf (P : Params) : Obj := ⟨.type "tuple", none, .seq #[.str (PySem.Str.ofString "x") 2280, .str (PySem.Str.ofString "number") 2281, .str (PySem.Str.ofString "low") 2282, .str (PySem.Str.ofString "meta") 2283, .str (PySem.Str.ofString "one_way") 2284, .str (PySem.Str.ofString "name") 2285, .str (PySem.Str.ofString "dust") 2286, .str (PySem.Str.ofString "spelled") 2287, .str (PySem.Str.ofString "k") 2288, .str (PySem.Str.ofString "sign") 2289] 0, #[]⟩
def o136vf (P : Params) : Obj := ⟨.type "tuple", none, .seq #[] 0, #[]⟩
def o137vf (P : Params) : Obj := ⟨.none, none, .func { name := (PySem.Str.ofString "_law_key"), qualname := (PySem.Str.ofString "_law_key"), params := fArgs (stOf 15), body := .stmts (fBody (stOf 15)), scope := fScope (stOf 15), globals := 0, closure := [], defaults := .none, kwdefaults := .none, doc := .none, pyModule := .none, annotations := none, code := .none, closureTuple := .none, builtins := 0 }, #[]⟩
def o138vf (P : Params) : Obj := ⟨.type "code", none, .fields #[.str (PySem.Str.ofString "_law_key") 2277, .str (PySem.Str.ofString "_law_key") 2278, .str (PySem.Str.ofString "/claim/cut.py") 2279, .int 56 0, .int 1 0, .int 0 0, .int 0 0, .int 3 0, .ref 133, .bool true, .int 181 0, .ref 134, .none, .ref 135, .ref 136, .ref 137, .int 2290 0, .int 56 0, .str (PySem.Str.ofString "/claim/cut.py") 2291], #[]⟩
def o139vf (P : Params) : Obj := ⟨.type "function", none, .func { name := (PySem.Str.ofString "_law_key"), qualname := (PySem.Str.ofString "_law_key"), params := fArgs (stOf 15), body := .stmts (fBody (stOf 15)), scope := fScope (stOf 15), globals := 3, closure := [], defaults := .none, kwdefaults := .none, doc := .none, pyModule := .str (PySem.Str.ofString "law_mj0195_01") 2261, annotations := none, code := .ref 138, closureTuple := .none, builtins := 0 }, #[]⟩
def o140vf (P : Params) : Obj := ⟨.type "tuple", none, .seq #[] 0, #[]⟩
def o141vf (P : Params) : Obj := ⟨.none, none, .fields #[], #[]⟩
def o142vf (P : Params) : Obj := ⟨.type "tuple", none, .seq #[.str (PySem.Str.ofString "page") 2296, .str (PySem.Str.ofString "names") 2297, .str (PySem.Str.ofString "name") 2298, .str (PySem.Str.ofString "sign") 2299] 0, #[]⟩
def o143vf (P : Params) : Obj := ⟨.type "tuple", none, .seq #[] 0, #[]⟩
def o144vf (P : Params) : Obj := ⟨.none, none, .func { name := (PySem.Str.ofString "_law_names"), qualname := (PySem.Str.ofString "_law_names"), params := fArgs (stOf 16), body := .stmts (fBody (stOf 16)), scope := fScope (stOf 16), globals := 0, closure := [], defaults := .none, kwdefaults := .none, doc := .none, pyModule := .none, annotations := none, code := .none, closureTuple := .none, builtins := 0 }, #[]⟩
def o145vf (P : Params) : Obj := ⟨.type "code", none, .fields #[.str (PySem.Str.ofString "_law_names") 2293, .str (PySem.Str.ofString "_law_names") 2294, .str (PySem.Str.ofString "/claim/cut.py") 2295, .int 74 0, .int 1 0, .int 0 0, .int 0 0, .int 3 0, .ref 140, .bool true, .int 181 0, .ref 141, .none, .ref 142, .ref 143, .ref 144, .int 2300 0, .int 74 0, .str (PySem.Str.ofString "/claim/cut.py") 2301], #[]⟩
def o146vf (P : Params) : Obj := ⟨.type "function", none, .func { name := (PySem.Str.ofString "_law_names"), qualname := (PySem.Str.ofString "_law_names"), params := fArgs (stOf 16), body := .stmts (fBody (stOf 16)), scope := fScope (stOf 16), globals := 3, closure := [], defaults := .none, kwdefaults := .none, doc := .none, pyModule := .str (PySem.Str.ofString "law_mj0195_01") 2261, annotations := none, code := .ref 145, closureTuple := .none, builtins := 0 }, #[]⟩
def o147vf (P : Params) : Obj := ⟨.type "tuple", none, .seq #[] 0, #[]⟩
def o148vf (P : Params) : Obj := ⟨.none, none, .fields #[], #[]⟩
def o149vf (P : Params) : Obj := ⟨.type "tuple", none, .seq #[.str (PySem.Str.ofString "name") 2306] 0, #[]⟩
def o150vf (P : Params) : Obj := ⟨.type "tuple", none, .seq #[] 0, #[]⟩
def o151vf (P : Params) : Obj := ⟨.none, none, .func { name := (PySem.Str.ofString "_law_read"), qualname := (PySem.Str.ofString "_law_read"), params := fArgs (stOf 17), body := .stmts (fBody (stOf 17)), scope := fScope (stOf 17), globals := 0, closure := [], defaults := .none, kwdefaults := .none, doc := .none, pyModule := .none, annotations := none, code := .none, closureTuple := .none, builtins := 0 }, #[]⟩
def o152vf (P : Params) : Obj := ⟨.type "code", none, .fields #[.str (PySem.Str.ofString "_law_read") 2303, .str (PySem.Str.ofString "_law_read") 2304, .str (PySem.Str.ofString "/claim/cut.py") 2305, .int 85 0, .int 1 0, .int 0 0, .int 0 0, .int 3 0, .ref 147, .bool true, .int 181 0, .ref 148, .none, .ref 149, .ref 150, .ref 151, .int 2307 0, .int 85 0, .str (PySem.Str.ofString "/claim/cut.py") 2308], #[]⟩
def o153vf (P : Params) : Obj := ⟨.type "function", none, .func { name := (PySem.Str.ofString "_law_read"), qualname := (PySem.Str.ofString "_law_read"), params := fArgs (stOf 17), body := .stmts (fBody (stOf 17)), scope := fScope (stOf 17), globals := 3, closure := [], defaults := .none, kwdefaults := .none, doc := .none, pyModule := .str (PySem.Str.ofString "law_mj0195_01") 2261, annotations := none, code := .ref 152, closureTuple := .none, builtins := 0 }, #[]⟩
def o154vf (P : Params) : Obj := ⟨.type "tuple", none, .seq #[] 0, #[]⟩
def o155vf (P : Params) : Obj := ⟨.none, none, .fields #[], #[]⟩
def o156vf (P : Params) : Obj := ⟨.none, none, .func { name := (PySem.Str.ofString "law"), qualname := (PySem.Str.ofString "law"), params := fArgs (stOf 18), body := .stmts (fBody (stOf 18)), scope := fScope (stOf 18), globals := 0, closure := [], defaults := .none, kwdefaults := .none, doc := .none, pyModule := .none, annotations := none, code := .none, closureTuple := .none, builtins := 0 }, #[]⟩
def o157vf (P : Params) : Obj := ⟨.type "code", none, .fields #[.str (PySem.Str.ofString "law") 2310, .str (PySem.Str.ofString "law") 2311, .str (PySem.Str.ofString "/claim/cut.py") 2312, .int 95 0, .int 1 0, .int 0 0, .int 0 0, .int 3 0, .ref 154, .bool true, .int 181 0, .ref 155, .none, .none, .none, .ref 156, .int 2313 0, .int 95 0, .str (PySem.Str.ofString "/claim/cut.py") 2314], #[]⟩
def o158vf (P : Params) : Obj := ⟨.type "function", none, .func { name := (PySem.Str.ofString "law"), qualname := (PySem.Str.ofString "law"), params := fArgs (stOf 18), body := .stmts (fBody (stOf 18)), scope := fScope (stOf 18), globals := 3, closure := [], defaults := .none, kwdefaults := .none, doc := .none, pyModule := .str (PySem.Str.ofString "law_mj0195_01") 2261, annotations := none, code := .ref 157, closureTuple := .none, builtins := 0 }, #[]⟩
def tf (P : Params) : BT := (.node (boot_o_0 P) (.node (boot_o_1 P) (.node (o3vf P) (.node (boot_o_7 P) (.node (o15v7 P) (.node (o31v7 P) (.node (o63v9 P) (.node (o127vf P) .nil .nil) .nil) (.node (oSub 27 P) .nil .nil)) (.node (o47v7 P) (.node (oSub 11 P) (.node (o143vf P) .nil .nil) .nil) (.node (o111vf P) .nil .nil))) (.node (o23v7 P) (.node (o39v7 P) (.node (oSub 3 P) (.node (o135vf P) .nil .nil) .nil) (.node (oSub 35 P) .nil .nil)) (.node (o55v8 P) (.node (oSub 19 P) (.node (o151vf P) .nil .nil) .nil) (.node (o119vf P) .nil .nil)))) (.node (o11va P) (.node (o19v7 P) (.node (o35v7 P) (.node (o67v9 P) (.node (o131vf P) .nil .nil) .nil) (.node (oSub 31 P) .nil .nil)) (.node (o51v8 P) (.node (oSub 15 P) (.node (o147vf P) .nil .nil) .nil) (.node (o115vf P) .nil .nil))) (.node (o27v7 P) (.node (o43v7 P) (.node (oSub 7 P) (.node (o139vf P) .nil .nil) .nil) (.node (o107vf P) .nil .nil)) (.node (o59v8 P) (.node (oSub 23 P) (.node (o155vf P) .nil .nil) .nil) (.node (o123vf P) .nil .nil))))) (.node (boot_o_5 P) (.node (boot_o_9 P) (.node (o17v7 P) (.node (o33v7 P) (.node (o65v9 P) (.node (o129vf P) .nil .nil) .nil) (.node (oSub 29 P) .nil .nil)) (.node (o49v7 P) (.node (oSub 13 P) (.node (o145vf P) .nil .nil) .nil) (.node (o113vf P) .nil .nil))) (.node (o25v7 P) (.node (o41v7 P) (.node (oSub 5 P) (.node (o137vf P) .nil .nil) .nil) (.node (oSub 37 P) .nil .nil)) (.node (o57v8 P) (.node (oSub 21 P) (.node (o153vf P) .nil .nil) .nil) (.node (o121vf P) .nil .nil)))) (.node (o13va P) (.node (o21v7 P) (.node (o37v7 P) (.node (oSub 1 P) (.node (o133vf P) .nil .nil) .nil) (.node (oSub 33 P) .nil .nil)) (.node (o53v8 P) (.node (oSub 17 P) (.node (o149vf P) .nil .nil) .nil) (.node (o117vf P) .nil .nil))) (.node (o29v7 P) (.node (o45v7 P) (.node (oSub 9 P) (.node (o141vf P) .nil .nil) .nil) (.node (o109vf P) .nil .nil)) (.node (o61v9 P) (.node (oSub 25 P) (.node (o157vf P) .nil .nil) .nil) (.node (o125vf P) .nil .nil)))))) (.node (boot_o_2 P) (.node (boot_o_4 P) (.node (boot_o_8 P) (.node (o16v7 P) (.node (o32v7 P) (.node (o64v9 P) (.node (o128vf P) .nil .nil) .nil) (.node (oSub 28 P) .nil .nil)) (.node (o48v7 P) (.node (oSub 12 P) (.node (o144vf P) .nil .nil) .nil) (.node (o112vf P) .nil .nil))) (.node (o24v7 P) (.node (o40v7 P) (.node (oSub 4 P) (.node (o136vf P) .nil .nil) .nil) (.node (oSub 36 P) .nil .nil)) (.node (o56v8 P) (.node (oSub 20 P) (.node (o152vf P) .nil .nil) .nil) (.node (o120vf P) .nil .nil)))) (.node (o12vf P) (.node (o20v7 P) (.node (o36v7 P) (.node (oDict 650 P) (.node (o132vf P) .nil .nil) .nil) (.node (oSub 32 P) .nil .nil)) (.node (o52v8 P) (.node (oSub 16 P) (.node (o148vf P) .nil .nil) .nil) (.node (o116vf P) .nil .nil))) (.node (o28v7 P) (.node (o44v7 P) (.node (oSub 8 P) (.node (o140vf P) .nil .nil) .nil) (.node (o108vf P) .nil .nil)) (.node (o60v8 P) (.node (oSub 24 P) (.node (o156vf P) .nil .nil) .nil) (.node (o124vf P) .nil .nil))))) (.node (boot_o_6 P) (.node (boot_o_10 P) (.node (o18v7 P) (.node (o34v7 P) (.node (o66v9 P) (.node (o130vf P) .nil .nil) .nil) (.node (oSub 30 P) .nil .nil)) (.node (o50v8 P) (.node (oSub 14 P) (.node (o146vf P) .nil .nil) .nil) (.node (o114vf P) .nil .nil))) (.node (o26v7 P) (.node (o42v7 P) (.node (oSub 6 P) (.node (o138vf P) .nil .nil) .nil) (.node (oSub 38 P) .nil .nil)) (.node (o58v8 P) (.node (oSub 22 P) (.node (o154vf P) .nil .nil) .nil) (.node (o122vf P) .nil .nil)))) (.node (o14va P) (.node (o22v7 P) (.node (o38v7 P) (.node (oSub 2 P) (.node (o134vf P) .nil .nil) .nil) (.node (oSub 34 P) .nil .nil)) (.node (o54v8 P) (.node (oSub 18 P) (.node (o150vf P) .nil .nil) .nil) (.node (o118vf P) .nil .nil))) (.node (o30v7 P) (.node (o46v7 P) (.node (oSub 10 P) (.node (o142vf P) .nil .nil) .nil) (.node (o110vf P) .nil .nil)) (.node (o62v9 P) (.node (oSub 26 P) (.node (o158vf P) .nil .nil) .nil) (.node (o126vf P) .nil .nil)))))))
def sf (w : World) (os : OsState) : SharedT := ⟨tf w.params, 159, life0, #[], boot_drawn, 2316, os⟩
def tc39 (P : Params) : BT := (.node (boot_o_0 P) (.node (boot_o_1 P) (.node (o3v9 P) (.node (boot_o_7 P) (.node (o15v7 P) (.node (o31v7 P) (.node (o63v9 P) .nil .nil) (.node (oSub 27 P) .nil .nil)) (.node (o47v7 P) (.node (oSub 11 P) .nil .nil) .nil)) (.node (o23v7 P) (.node (o39v7 P) (.node (oSub 3 P) .nil .nil) (.node (oSub 35 P) .nil .nil)) (.node (o55v8 P) (.node (oSub 19 P) .nil .nil) .nil))) (.node (o11va P) (.node (o19v7 P) (.node (o35v7 P) (.node (o67v9 P) .nil .nil) (.node (oSub 31 P) .nil .nil)) (.node (o51v8 P) (.node (oSub 15 P) .nil .nil) .nil)) (.node (o27v7 P) (.node (o43v7 P) (.node (oSub 7 P) .nil .nil) .nil) (.node (o59v8 P) (.node (oSub 23 P) .nil .nil) .nil)))) (.node (boot_o_5 P) (.node (boot_o_9 P) (.node (o17v7 P) (.node (o33v7 P) (.node (o65v9 P) .nil .nil) (.node (oSub 29 P) .nil .nil)) (.node (o49v7 P) (.node (oSub 13 P) .nil .nil) .nil)) (.node (o25v7 P) (.node (o41v7 P) (.node (oSub 5 P) .nil .nil) (.node (oSub 37 P) .nil .nil)) (.node (o57v8 P) (.node (oSub 21 P) .nil .nil) .nil))) (.node (o13va P) (.node (o21v7 P) (.node (o37v7 P) (.node (oSub 1 P) .nil .nil) (.node (oSub 33 P) .nil .nil)) (.node (o53v8 P) (.node (oSub 17 P) .nil .nil) .nil)) (.node (o29v7 P) (.node (o45v7 P) (.node (oSub 9 P) .nil .nil) .nil) (.node (o61v9 P) (.node (oSub 25 P) .nil .nil) .nil))))) (.node (boot_o_2 P) (.node (boot_o_4 P) (.node (boot_o_8 P) (.node (o16v7 P) (.node (o32v7 P) (.node (o64v9 P) .nil .nil) (.node (oSub 28 P) .nil .nil)) (.node (o48v7 P) (.node (oSub 12 P) .nil .nil) .nil)) (.node (o24v7 P) (.node (o40v7 P) (.node (oSub 4 P) .nil .nil) (.node (oSub 36 P) .nil .nil)) (.node (o56v8 P) (.node (oSub 20 P) .nil .nil) .nil))) (.node (o12v9 P) (.node (o20v7 P) (.node (o36v7 P) (.node (oDict 650 P) .nil .nil) (.node (oSub 32 P) .nil .nil)) (.node (o52v8 P) (.node (oSub 16 P) .nil .nil) .nil)) (.node (o28v7 P) (.node (o44v7 P) (.node (oSub 8 P) .nil .nil) .nil) (.node (o60v8 P) (.node (oSub 24 P) .nil .nil) .nil)))) (.node (boot_o_6 P) (.node (boot_o_10 P) (.node (o18v7 P) (.node (o34v7 P) (.node (o66v9 P) .nil .nil) (.node (oSub 30 P) .nil .nil)) (.node (o50v8 P) (.node (oSub 14 P) .nil .nil) .nil)) (.node (o26v7 P) (.node (o42v7 P) (.node (oSub 6 P) .nil .nil) (.node (oSub 38 P) .nil .nil)) (.node (o58v8 P) (.node (oSub 22 P) .nil .nil) .nil))) (.node (o14va P) (.node (o22v7 P) (.node (o38v7 P) (.node (oSub 2 P) .nil .nil) (.node (oSub 34 P) .nil .nil)) (.node (o54v8 P) (.node (oSub 18 P) .nil .nil) .nil)) (.node (o30v7 P) (.node (o46v7 P) (.node (oSub 10 P) .nil .nil) .nil) (.node (o62v9 P) (.node (oSub 26 P) .nil .nil) .nil))))))
def c39 (w : World) (os : OsState) : SharedT := ⟨tc39 w.params, 107, life0, #[], boot_drawn, 2245, os⟩
def env0 : Env := { scope := pp.main.scope, locals := mainNs, globals := mainNs, cells := [], code := .ref 13, frame := some 14 }
def bodyT : List Stmt := behindTheImports pp
def cE : Code := .body bodyT env0
def posZ : Pos := ⟨0, 0, 0, 0⟩
def BB : List Frame := [topFrame posZ]
def ann0 : Option Value := some (.ref 6)
end Mine
end
section
open PySem PySem.W PyProof.Rows
set_option maxRecDepth 100000
namespace Mine
abbrev Pr := Sem Value × Sem Value
/-- what a display does with a run of at most 17 pairs -/
def flush (run : List Pr) (main : Option Addr) : Sem (Option Addr) :=
  if run.isEmpty = true then .pure main else
    match main with
    | none => (subDict run).bind fun d => .pure (some d)
    | some d => (holding [.ref d] (subDict run)).bind fun sub =>
        ((holding [.ref d, .ref sub] (mergeMapping d (.ref sub) false)).onRaise fun x => (holding [.ref d, x] (runValue (.builtin "proto.let_go" {}))).bind fun _ => .pure ()).bind fun _ => .pure (some d)
def loopD : List Pr → Option Addr → List Pr → Sem (Option Addr × List Pr)
  | [], main, run => .pure (main, run)
  | x :: rest, main, run => if ((run ++ [x]).length == 17) = true then (flush (run ++ [x]) main).bind fun m => loopD rest m [] else loopD rest main (run ++ [x])
def finD (r : Option Addr × List Pr) : Sem Value := (flush r.2 r.1).bind fun d => match d with
  | some d => .pure (.ref d)
  | none => newDict
theorem sbind_assoc {α β γ : Type} (m : Sem α) (f : α → Sem β) (g : β → Sem γ) : (m.bind f).bind g = m.bind fun a => (f a).bind g := by
  induction m <;> simp only [Sem.bind, *]
theorem loop_gen (f : Option (Sem Value) × Sem Value → Option Addr × List Pr → Sem (ForInStep (Option Addr × List Pr)))
    (hf : ∀ x main run, f (some x.1, x.2) (main, run) = if ((run ++ [x]).length == 17) = true then (flush (run ++ [x]) main).bind fun m => .pure (.yield (m, [])) else .pure (.yield (main, run ++ [x]))) :
    ∀ (l : List Pr) (main : Option Addr) (run : List Pr), forIn (l.map fun x => (some x.1, x.2)) (main, run) f = loopD l main run
  | [], main, run => rfl
  | x :: rest, main, run => by
    rw [List.map_cons, List.forIn_cons, hf]
    unfold loopD
    by_cases h : ((run ++ [x]).length == 17) = true
    · rw [if_pos h, if_pos h]
      show Sem.bind (Sem.bind _ _) _ = _
      rw [sbind_assoc]
      congr 1
      funext m
      exact loop_gen f hf rest m []
    · rw [if_neg h, if_neg h]
      exact loop_gen f hf rest main (run ++ [x])
theorem dd_eq (l : List Pr) : dictDisplay (l.map fun x => (some x.1, x.2)) = (loopD l none []).bind finD := by
  unfold dictDisplay
  show Sem.bind (forIn (l.map fun x => (some x.1, x.2)) ((none : Option Addr), ([] : List Pr)) _) _ = _
  rw [loop_gen _ (fun x main run => by rfl) l none []]
  rfl
theorem loop_run : ∀ (l rest : List Pr) (main : Option Addr) (run : List Pr), run.length + l.length < 17 → loopD (l ++ rest) main run = loopD rest main (run ++ l)
  | [], rest, main, run, _ => by simp
  | x :: l, rest, main, run, h => by
    simp only [List.length_cons] at h
    have : ¬ ((run ++ [x]).length == 17) = true := by simp; omega
    rw [List.cons_append, loopD, if_neg this, loop_run l rest main (run ++ [x]) (by simp; omega)]
    simp
theorem loop_chunk (l rest : List Pr) (main : Option Addr) (h : l.length = 17) : loopD (l ++ rest) main [] = (flush l main).bind fun m => loopD rest m [] := by
  obtain ⟨i, x, rfl⟩ : ∃ i x, l = i ++ [x] := by
    rcases List.eq_nil_or_concat l with e | ⟨i, x, e⟩
    · subst e; cases h
    · exact ⟨i, x, by simpa using e⟩
  have hi : i.length = 16 := by simpa using h
  rw [List.append_assoc, loop_run i _ main [] (by simp [hi]), List.nil_append, List.singleton_append, loopD, if_pos (by simp [hi])]
theorem loop_last (l : List Pr) (main : Option Addr) (h : l.length < 17) : loopD l main [] = .pure (main, l) := by
  have := loop_run l [] main [] (by simpa using h)
  simpa [loopD] using this
end Mine
end
section
open PySem PySem.W PyProof.Rows
set_option maxRecDepth 100000
namespace Mine
section
variable {α β : Type} {w : World}
theorem segGo_trans : ∀ {n k : Nat} {s s' : Shared} {t t' : Thread} {r : Shared × Thread}, segGo treeTable pp w 11 ann0 1 n s t = some (s', t') →
    segGo treeTable pp w 11 ann0 1 k s' t' = some r → segGo treeTable pp w 11 ann0 1 (n + k) s t = some r
  | 0, k, s, s', t, t', r, h, g => by
    obtain ⟨rfl, rfl⟩ : s = s' ∧ t = t' := by simpa [segGo] using h
    rw [Nat.zero_add]; exact g
  | n + 1, k, s, s', t, t', r, h, g => by
    rw [show n + 1 + k = n + k + 1 by omega]
    unfold segGo at h ⊢
    cases he : endAt 1 t with
    | some f => rw [he] at h; cases h
    | none =>
      rw [he] at h
      cases hk : stepOk 11 ann0 t with
      | false => rw [hk] at h; cases h
      | true =>
        rw [hk] at h
        cases hs : step (denote treeTable) pp w s t with
        | halt o s₂ => rw [hs] at h; cases h
        | go s₂ t₂ => rw [hs] at h; exact segGo_trans h g
theorem go1 {t t' : Thread} {s s' : Shared} (he : endAt 1 t = none) (hk : stepOk 11 ann0 t = true) (hs : step (denote treeTable) pp w s t = .go s' t') :
    segGo treeTable pp w 11 ann0 1 1 s t = some (s', t') := by simp [segGo, he, hk, hs]
/-- the tree m runs at the module's level, without a raise, in at most N steps -/
def Goes (w : World) (N : Nat) (m : Sem α) (s : Shared) (p : Pos) (a : α) (s' : Shared) (p' : Pos) : Prop :=
  ∃ n, n ≤ N ∧ ∀ (K : α → Sem Fin) (H : Value → Sem Fin) (gd : Bool → Bool) (lv : List Value → List Value),
    segGo treeTable pp w 11 ann0 1 n s ⟨m.wrap K H gd lv, cE, p, BB⟩ = some (s', ⟨K a, cE, p', BB⟩)
theorem Goes.pure {a : α} {s : Shared} {p : Pos} : Goes w 0 (.pure a) s p a s p := ⟨0, Nat.le_refl _, fun _ _ _ _ => rfl⟩
theorem Goes.mono {N M : Nat} {m : Sem α} {s s' : Shared} {p p' : Pos} {a : α} (h : Goes w N m s p a s' p') (hle : N ≤ M) : Goes w M m s p a s' p' :=
  let ⟨n, hn, g⟩ := h; ⟨n, Nat.le_trans hn hle, g⟩
theorem Goes.bind {N M : Nat} {m : Sem α} {f : α → Sem β} {s s₁ s₂ : Shared} {p p₁ p₂ : Pos} {a : α} {b : β} (h : Goes w N m s p a s₁ p₁) (k : Goes w M (f a) s₁ p₁ b s₂ p₂) :
    Goes w (N + M) (m.bind f) s p b s₂ p₂ := by
  obtain ⟨n, hn, g⟩ := h
  obtain ⟨n', hn', g'⟩ := k
  refine ⟨n + n', by omega, fun K H gd lv => ?_⟩
  have e : (m.bind f).wrap K H gd lv = m.wrap (fun a => (f a).wrap K H gd lv) H gd lv := by
    rw [Sem.bind_eq_wrap, Sem.wrap_wrap]; rfl
  rw [e]
  exact segGo_trans (g _ H gd lv) (g' K H gd lv)
theorem Goes.keep {N : Nat} {m : Sem α} {s s₁ : Shared} {p p₁ : Pos} {a : α} {vs : List Value} (h : Goes w N m s p a s₁ p₁) : Goes w N (m.keep vs) s p a s₁ p₁ := by
  obtain ⟨n, hn, g⟩ := h
  refine ⟨n, hn, fun K H gd lv => ?_⟩
  rw [Sem.keep_eq_wrap, Sem.wrap_wrap]
  exact g K _ _ _
theorem Goes.holding {N : Nat} {m : Sem α} {s s₁ : Shared} {p p₁ : Pos} {a : α} {vs : List Value} (h : Goes w N m s p a s₁ p₁) : Goes w N (PySem.holding vs m) s p a s₁ p₁ := by
  unfold PySem.holding
  split
  · exact h
  · exact h.keep
theorem Goes.onRaise {N : Nat} {m : Sem α} {s s₁ : Shared} {p p₁ : Pos} {a : α} {x : Value → Sem Unit} (h : Goes w N m s p a s₁ p₁) : Goes w N (m.onRaise x) s p a s₁ p₁ := by
  obtain ⟨n, hn, g⟩ := h
  refine ⟨n, hn, fun K H gd lv => ?_⟩
  rw [Sem.onRaise_eq_wrap, Sem.wrap_wrap]
  exact g K _ _ _
theorem goes_load {a : Addr} {part : Option Value} {o : Obj} {s : Shared} {p : Pos} (h : s.heap.get? a = some o) : Goes w 1 (loadPart a part) s p o s p := by
  refine ⟨1, Nat.le_refl _, fun K H gd lv => go1 rfl rfl ?_⟩
  obtain ⟨heap, gens, drawn, toks, os⟩ := s
  show step _ _ _ _ ⟨.load a part fun x => K x, cE, p, BB⟩ = _
  simp only [step, show heap.get? a = some o from h]
theorem goes_update {a : Addr} {part : Option Value} {f : Obj → Obj} {s : Shared} {p : Pos} (h : (s.heap.get? a).isSome = true) (ha : Nat.ble 11 a = true) :
    Goes w 1 (updatePart a part f) s p () { s with heap := s.heap.update a f } p := by
  refine ⟨1, Nat.le_refl _, fun K H gd lv => go1 rfl ?_ ?_⟩
  · show (true && (Nat.ble 11 a || _ || _ || _)) = true
    rw [ha]; rfl
  · obtain ⟨heap, gens, drawn, toks, os⟩ := s
    show step _ _ _ _ ⟨.update a part f fun x => K x, cE, p, BB⟩ = _
    simp only [step, show (heap.get? a).isSome = true from h, if_true]
theorem goes_alloc {o : Obj} {s : Shared} {p : Pos} : Goes w 1 (alloc o) s p s.heap.objs.size { s with heap := s.heap.push o } p := by
  refine ⟨1, Nat.le_refl _, fun K H gd lv => go1 rfl rfl ?_⟩
  obtain ⟨heap, gens, drawn, toks, os⟩ := s
  rfl
theorem goes_rule {t : String} {s : Shared} {p : Pos} : Goes w 1 (rule t) s p () s p := by
  refine ⟨1, Nat.le_refl _, fun K H gd lv => go1 rfl rfl ?_⟩
  obtain ⟨heap, gens, drawn, toks, os⟩ := s
  rfl
theorem goes_at {q : Pos} {s : Shared} {p : Pos} : Goes w 1 (standAt q) s p () s q := by
  refine ⟨1, Nat.le_refl _, fun K H gd lv => go1 rfl rfl ?_⟩
  obtain ⟨heap, gens, drawn, toks, os⟩ := s
  rfl
theorem goes_fresh {s : Shared} {p : Pos} : Goes w 1 fresh s p s.toks { s with toks := s.toks + 1 } p := by
  refine ⟨1, Nat.le_refl _, fun K H gd lv => go1 rfl rfl ?_⟩
  obtain ⟨heap, gens, drawn, toks, os⟩ := s
  rfl
theorem hash_raw (b : Bool) (w : World) (heap : Heap) (gens : Array GenState) (drawn : Drawn) (toks : Nat) (os : OsState) (k : Int) (t : Tok) (p : Pos) (K : Int → Sem Fin) (H : Value → Sem Fin) (gd : Bool → Bool) (lv : List Value → List Value) :
    segGo treeTable pp (w.withFollow "special-get-raises" b) 11 ann0 1 5 ⟨heap, gens, drawn, toks, os⟩ ⟨(pyHash (.int k t)).wrap K H gd lv, cE, p, BB⟩ =
      some (⟨heap, gens, drawn, toks + 1, os⟩, ⟨(pyHashByItsType.reduced (rawHash k)).wrap K H gd lv, cE, p, BB⟩) := by
  rw [Fast.te3277212676724774461, Fast.te14364793385576792824]
  cases b
  · kernel_rfl
  · kernel_rfl
end
end Mine
end
section
open PySem PySem.W PyProof.Rows
set_option maxRecDepth 100000
namespace Mine
section
variable {w : World} {s : Shared} {p : Pos} {d : Addr} {es : List DictEntry} {k : Int} {t : Tok} {v : Value}
theorem reduced_small {k : Int} (h0 : 0 ≤ k) (h1 : k < 2 ^ 60) : pyHashByItsType.reduced (rawHash k) = .pure k := by
  have e : rawHash k = k := by
    obtain ⟨n, rfl⟩ := Int.eq_ofNat_of_zero_le h0
    have hn : n < 2 ^ 61 - 1 := by omega
    simp only [rawHash]
    have hm : ((Int.natAbs (n : Int) : Int) % ((2 ^ 61 - 1 : Nat) : Int)) = (n : Int) := by
      rw [Int.natAbs_natCast]; exact Int.emod_eq_of_lt (by omega) (by omega)
    have h2 : ¬ ((n : Int) < 0) := by omega
    have h3 : ((n : Int) == -1) = false := by rw [beq_eq_false_iff_ne]; omega
    rw [hm, if_neg h2, h3]; rfl
  rw [e]
  unfold pyHashByItsType.reduced
  have h2 : (decide (-(2 : Int) ^ 63 ≤ k) && decide (k < 2 ^ 63)) = true := by
    rw [Bool.and_eq_true, decide_eq_true_eq, decide_eq_true_eq]; constructor <;> omega
  have h3 : (k == -1) = false := by rw [beq_eq_false_iff_ne]; omega
  rw [if_pos h2, h3]; rfl
theorem goes_hash (h0 : 0 ≤ k) (h1 : k < 2 ^ 60) : Goes w 5 (pyHash (.int k t)) s p k { s with toks := s.toks + 1 } p := by
  refine ⟨5, Nat.le_refl _, fun K H gd lv => ?_⟩
  have := hash_raw (w.params.followText "special-get-raises") w s.heap s.gens s.drawn s.toks s.os k t p K H gd lv
  rw [World.withFollow_self, reduced_small h0 h1] at this
  exact this
abbrev dictO (es : List DictEntry) : Obj := ⟨.type "dict", none, .dict es.toArray es.length, #[]⟩
theorem goes_entries {part : Option Value} (h : s.heap.get? d = some (dictO es)) : Goes w 1 (dictEntries d part) s p es.toArray s p :=
  Goes.bind (M := 0) (f := fun o : Obj => match o.data with | .dict es _ => .pure es | _ => unsupported "internal:not-a-dict") (goes_load h) Goes.pure
theorem goes_epoch {part : Option Value} (h : s.heap.get? d = some (dictO es)) : Goes w 1 (dictEpoch d part) s p es.length s p :=
  Goes.bind (M := 0) (f := fun o : Obj => match o.data with | .dict _ n => .pure n | _ => unsupported "internal:not-a-dict") (goes_load h) Goes.pure
theorem places_nil (hne : ∀ e ∈ es, e.hash ≠ k) : placesWithHash es.toArray.size (fun i => es.toArray[i]?.map (·.hash)) k = [] := by
  unfold placesWithHash
  rw [List.filter_eq_nil_iff]
  intro i hi
  simp only [List.mem_range] at hi
  have hi' : i < es.length := by simpa using hi
  simp only [List.getElem?_toArray, List.getElem?_eq_getElem hi', Option.map_some]
  have := hne es[i] (List.getElem_mem hi')
  simpa using this
theorem goes_find (h : s.heap.get? d = some (dictO es)) (hne : ∀ e ∈ es, e.hash ≠ k) : Goes w 1 (dictFind d (.int k t) k) s p none s p := by
  unfold dictFind
  refine Goes.holding (Goes.bind (M := 0) (goes_entries h) ?_)
  dsimp only
  rw [places_nil hne]
  exact Goes.pure
theorem get_update {h : Heap} {o x : Obj} (g : h.get? d = some o) (hx : alive x = some x) : (h.update d fun _ => x).get? d = some x := by
  obtain ⟨objs, l⟩ := h
  have e : objs[d]? = some o := by
    unfold Heap.get? at g
    revert g
    cases hq : objs[d]? with
    | none => intro g; exact g
    | some q => obtain ⟨c, dd, dt, sl⟩ := q; cases dt <;> intro g <;> first | exact g | cases g
  unfold Heap.update Heap.get?
  simp only [Array.getElem?_modify, if_true, e, Option.map_some]
  obtain ⟨c, dd, dt, sl⟩ := x
  cases dt <;> first | rfl | cases hx
theorem update_const {h : Heap} {o : Obj} {f : Obj → Obj} (g : h.get? d = some o) : h.update d f = h.update d fun _ => f o := by
  obtain ⟨objs, l⟩ := h
  have e : objs[d]? = some o := by
    unfold Heap.get? at g
    revert g
    cases hq : objs[d]? with
    | none => intro g; exact g
    | some q => obtain ⟨c, dd, dt, sl⟩ := q; cases dt <;> intro g <;> first | exact g | cases g
  show Heap.mk _ _ = Heap.mk _ _
  refine congrArg (Heap.mk · l) ?_
  apply Array.ext_getElem?
  intro i
  simp only [Array.getElem?_modify]
  by_cases hi : d = i
  · subst hi; simp [e]
  · simp [hi]
theorem update_update {h : Heap} {x y : Obj} : (h.update d fun _ => x).update d (fun _ => y) = h.update d fun _ => y := by
  obtain ⟨objs, l⟩ := h
  show Heap.mk _ _ = Heap.mk _ _
  refine congrArg (Heap.mk · l) ?_
  apply Array.ext_getElem?
  intro i
  simp only [Array.getElem?_modify]
  by_cases hi : d = i
  · subst hi; simp only [if_true, Option.map_map]; rfl
  · simp [hi]
theorem push_update {h : Heap} {o x : Obj} : (h.push o).update h.objs.size (fun _ => x) = h.push x := by
  obtain ⟨objs, l⟩ := h
  show Heap.mk _ _ = Heap.mk _ _
  refine congrArg (Heap.mk · l) ?_
  apply Array.ext_getElem?
  intro i
  simp only [Array.getElem?_modify, Array.getElem?_push]
  by_cases hi : objs.size = i
  · subst hi; simp
  · simp [hi, Ne.symm hi]
theorem size_update {h : Heap} {f : Obj → Obj} : (h.update d f).objs.size = h.objs.size := by
  obtain ⟨objs, l⟩ := h
  simp [Heap.update]
/-- an entry more -/
theorem goes_addKey {part : Option Value} {e : DictEntry} (h : s.heap.get? d = some (dictO es)) (hd : Nat.ble 11 d = true) (hl : es.length < 1000) :
    Goes w 3 (updateDictKeys d (·.push e) part) s p () { s with heap := s.heap.update d fun _ => dictO (es ++ [e]) } p := by
  unfold updateDictKeys
  refine Goes.bind (M := 2) (goes_load h) ?_
  dsimp only
  refine Goes.bind (M := 1) (goes_update (by rw [h]; rfl) hd) ?_
  rw [update_const h]
  have e1 : Obj.mapDictKeys (·.push e) (dictO es) = dictO (es ++ [e]) := by
    simp [Obj.mapDictKeys, dictO]
  rw [e1]
  unfold lookBehind
  refine Goes.bind (M := 0) (goes_load (get_update h rfl)) ?_
  have e2 : (dictO (es ++ [e])).data.pastItsLine = none := by
    show (if (es ++ [e]).toArray.size > sizeLine + 1 then _ else none) = none
    rw [if_neg]
    rw [sizeLine_eq]; simp; omega
  rw [e2]
  exact Goes.pure
theorem goes_put (h : s.heap.get? d = some (dictO es)) (hne : ∀ e ∈ es, e.hash ≠ k) (hd : Nat.ble 11 d = true) (hl : es.length < 1000) :
    Goes w 4 (dictPut d k (.int k t) v) s p () { s with heap := s.heap.update d fun _ => dictO (es ++ [⟨k, .int k t, v⟩]) } p := by
  unfold dictPut
  refine Goes.bind (M := 3) (goes_find h hne) ?_
  exact goes_addKey h hd hl
theorem goes_set (h : s.heap.get? d = some (dictO es)) (hne : ∀ e ∈ es, e.hash ≠ k) (hd : Nat.ble 11 d = true) (hl : es.length < 1000) (h0 : 0 ≤ k) (h1 : k < 2 ^ 60) :
    Goes w 10 (dictSet d (.int k t) v) s p () { s with heap := s.heap.update d fun _ => dictO (es ++ [⟨k, .int k t, v⟩]), toks := s.toks + 1 } p := by
  unfold dictSet
  refine Goes.holding (Goes.bind (M := 5) (goes_hash h0 h1) ?_)
  unfold dictSetHashed
  refine Goes.holding (Goes.bind (M := 4) (goes_find (s := { s with toks := s.toks + 1 }) h hne) ?_)
  refine Goes.bind (M := 3) goes_rule ?_
  exact goes_addKey (s := { s with toks := s.toks + 1 }) h hd hl
end
end Mine
end
section
open PySem PySem.W PyProof.Rows
set_option maxRecDepth 100000
namespace Mine
def prs (env : Env) (pos : Pos) : List (Option Expr) → List Expr → List Pr
  | some k :: ks, v :: vs => (eval k env, (eval v env).bind fun x => (standAt pos).bind fun _ => .pure x) :: prs env pos ks vs
  | _, _ => []
def okKV : Int → List (Option Expr) → List Expr → Bool
  | lo, some (.Constant (.int k) _ _) :: ks, .Constant (.str _) _ _ :: vs => decide (lo < k) && decide (k < 2 ^ 60) && okKV k ks vs
  | _, [], [] => true
  | _, _, _ => false
def entsOK : Int → List DictEntry → Prop
  | _, [] => True
  | lo, e :: r => (∃ t v, e = ⟨e.hash, .int e.hash t, v⟩) ∧ lo < e.hash ∧ entsOK e.hash r
section
variable {w : World} {s : Shared} {p : Pos} {d a : Addr} {es : List DictEntry} {k : Int} {t : Tok} {v : Value}
theorem update_self {h : Heap} {o : Obj} (g : h.get? d = some o) : (h.update d fun _ => o) = h := by
  obtain ⟨objs, l⟩ := h
  have e : objs[d]? = some o := by
    unfold Heap.get? at g
    revert g
    cases hq : objs[d]? with
    | none => intro g; exact g
    | some q => obtain ⟨c, dd, dt, sl⟩ := q; cases dt <;> intro g <;> first | exact g | cases g
  show Heap.mk _ _ = Heap.mk _ _
  refine congrArg (Heap.mk · l) ?_
  apply Array.ext_getElem?
  intro i
  simp only [Array.getElem?_modify]
  by_cases hi : d = i
  · subst hi; simp [e]
  · simp [hi]
theorem okKV_cons {lo : Int} {a : Option Expr} {ks : List (Option Expr)} {vs : List Expr} (h : okKV lo (a :: ks) vs = true) :
    ∃ k ka kb x va vb vs', a = some (.Constant (.int k) ka kb) ∧ vs = .Constant (.str x) va vb :: vs' ∧ lo < k ∧ k < 2 ^ 60 ∧ okKV k ks vs' = true := by
  unfold okKV at h
  split at h
  · rename_i e1
    simp only [Bool.and_eq_true, decide_eq_true_eq] at h
    obtain ⟨rfl, rfl⟩ := List.cons.inj e1
    exact ⟨_, _, _, _, _, _, _, rfl, rfl, h.1.1, h.1.2, h.2⟩
  · rename_i e1; exact absurd e1 (by simp)
  · cases h
theorem okKV_nil {lo : Int} {vs : List Expr} (h : okKV lo [] vs = true) : vs = [] := by
  unfold okKV at h
  split at h
  · rename_i e1; exact absurd e1 (by simp)
  · rfl
  · cases h
/-- the entries of a run are laid into the dict at d -/
theorem goes_build {f : Pr → PUnit → Sem (ForInStep PUnit)} (hf : ∀ x u, f x u = x.1.bind fun kv => (holding [kv] x.2).bind fun vv => (holding [kv, vv] (dictSet d kv vv)).bind fun _ => .pure (.yield ⟨⟩)) (hd : Nat.ble 11 d = true) (env : Env) (pos : Pos)
    (ks : List (Option Expr)) : ∀ (vs : List Expr) (lo : Int) (es : List DictEntry) (s : Shared), okKV lo ks vs = true → -1 ≤ lo → (∀ e ∈ es, e.hash ≤ lo) → es.length + ks.length < 1000 → s.heap.get? d = some (dictO es) →
      Goes w (13 * ks.length) (forIn (prs env pos ks vs) PUnit.unit f) s pos PUnit.unit { s with heap := s.heap.update d fun _ => dictO (es ++ b3Ents 3 s.toks ks vs), toks := s.toks + 3 * ks.length } pos := by
  induction ks with
  | nil =>
    intro vs lo es s ok _ _ _ hg
    cases okKV_nil ok
    have e : ({ s with heap := s.heap.update d fun _ => dictO (es ++ b3Ents 3 s.toks [] []), toks := s.toks + 3 * ([] : List (Option Expr)).length } : Shared) = s := by
      simp only [b3Ents, List.append_nil, List.length_nil, Nat.mul_zero, Nat.add_zero, update_self hg]
    rw [e]
    exact Goes.pure
  | cons a ks ih =>
    intro vs lo es s ok hlo hes hlen hg
    obtain ⟨k, ka, kb, x, va, vb, vs, rfl, rfl, o1, o2, o3⟩ := okKV_cons ok
    simp only [List.length_cons] at hlen
    have hne : ∀ e ∈ es, e.hash ≠ k := fun e he q => by have := hes e he; omega
    rw [prs, List.forIn_cons, hf]
    refine Goes.mono (N := (1 + (1 + 1 + (10 + 0))) + 13 * ks.length) (Goes.bind (s₁ := { s with heap := s.heap.update d fun _ => dictO (es ++ [⟨k, .int k s.toks, .str x (s.toks + 1)⟩]), toks := s.toks + 3 }) (p₁ := pos) (a := ForInStep.yield PUnit.unit) ?_ ?_) (by simp only [List.length_cons]; omega)
    · refine Goes.bind (a := Value.int k s.toks) (s₁ := { s with toks := s.toks + 1 }) (Goes.bind (M := 0) (f := fun t => Sem.pure (Value.int k t)) goes_fresh Goes.pure) ?_
      refine Goes.bind (a := Value.str x (s.toks + 1)) (s₁ := { s with toks := s.toks + 2 }) (p₁ := pos) (Goes.holding ?_) ?_
      · refine Goes.bind (M := 1) (a := Value.str x (s.toks + 1)) (s₁ := { s with toks := s.toks + 2 }) (Goes.bind (M := 0) (f := fun t => Sem.pure (Value.str x t)) (goes_fresh (s := { s with toks := s.toks + 1 })) Goes.pure) ?_
        exact Goes.bind (M := 0) goes_at Goes.pure
      · refine Goes.bind (M := 0) (Goes.holding (goes_set (s := { s with toks := s.toks + 2 }) hg hne hd (by omega) (by omega) o2)) ?_
        exact Goes.pure
    · have ih := ih vs k (es ++ [⟨k, .int k s.toks, .str x (s.toks + 1)⟩]) { s with heap := s.heap.update d fun _ => dictO (es ++ [⟨k, .int k s.toks, .str x (s.toks + 1)⟩]), toks := s.toks + 3 } o3 (by omega)
        (fun e he => by
          rcases List.mem_append.mp he with h | h
          · have := hes e h; omega
          · rw [List.mem_singleton] at h; subst h; exact Int.le_refl _)
        (by simp; omega) (get_update hg rfl)
      have e1 : es ++ [(⟨k, .int k s.toks, .str x (s.toks + 1)⟩ : DictEntry)] ++ b3Ents 3 (s.toks + 3) ks vs = es ++ b3Ents 3 s.toks (some (.Constant (.int k) ka kb) :: ks) (.Constant (.str x) va vb :: vs) := by
        rw [List.append_assoc]; rfl
      rw [update_update] at ih
      dsimp only at ih
      rw [e1, show s.toks + 3 + 3 * ks.length = s.toks + 3 * (ks.length + 1) by omega] at ih
      exact ih
end
end Mine
end
section
open PySem PySem.W PyProof.Rows
set_option maxRecDepth 100000
namespace Mine
theorem sub_dict : isSubtype (.type "dict") (.type "dict") = .pure true := by kernel_rfl
theorem iter_dict : typeLookup (.type "dict") "__iter__" = .pure (some (.builtin "dict.__iter__")) := by kernel_rfl
def valsOf : Nat → List (Option Expr) → List Expr → List (Value × Value)
  | t, some (.Constant (.int k) _ _) :: ks, .Constant (.str v) _ _ :: vs => (.int k t, .str v (t + 1)) :: valsOf (t + 2) ks vs
  | _, _, _ => []
section
variable {w : World} {s : Shared} {p : Pos} {d a : Addr} {es es' : List DictEntry} {k : Int} {t : Tok} {v : Value}
theorem prs_length {env : Env} {pos : Pos} : ∀ {ks : List (Option Expr)} {vs : List Expr} {lo : Int}, okKV lo ks vs = true → (prs env pos ks vs).length = ks.length := by
  intro ks
  induction ks with
  | nil => intro vs lo h; cases okKV_nil h; rfl
  | cons a ks ih =>
    intro vs lo h
    obtain ⟨k, ka, kb, x, va, vb, vs, rfl, rfl, o1, o2, o3⟩ := okKV_cons h
    simp only [prs, List.length_cons, ih o3]
theorem ents_length {st : Nat} : ∀ {ks : List (Option Expr)} {vs : List Expr} {lo : Int} {t : Nat}, okKV lo ks vs = true → (b3Ents st t ks vs).length = ks.length := by
  intro ks
  induction ks with
  | nil => intro vs lo t h; cases okKV_nil h; rfl
  | cons a ks ih =>
    intro vs lo t h
    obtain ⟨k, ka, kb, x, va, vb, vs, rfl, rfl, o1, o2, o3⟩ := okKV_cons h
    simp only [b3Ents, List.length_cons, ih o3]
theorem ents_ok {st : Nat} : ∀ {ks : List (Option Expr)} {vs : List Expr} {lo : Int} {t : Nat}, okKV lo ks vs = true → entsOK lo (b3Ents st t ks vs) := by
  intro ks
  induction ks with
  | nil => intro vs lo t h; cases okKV_nil h; trivial
  | cons a ks ih =>
    intro vs lo t h
    obtain ⟨k, ka, kb, x, va, vb, vs, rfl, rfl, o1, o2, o3⟩ := okKV_cons h
    exact ⟨⟨_, _, rfl⟩, o1, ih o3⟩
theorem goes_pairs (env : Env) (pos : Pos) (ks : List (Option Expr)) : ∀ (vs : List Expr) (lo : Int) (s : Shared), okKV lo ks vs = true →
    Goes w (3 * ks.length) (evalPairs (prs env pos ks vs)) s pos (valsOf s.toks ks vs) { s with toks := s.toks + 2 * ks.length } pos := by
  induction ks with
  | nil => intro vs lo s ok; cases okKV_nil ok; exact Goes.pure
  | cons a ks ih =>
    intro vs lo s ok
    obtain ⟨k, ka, kb, x, va, vb, vs, rfl, rfl, o1, o2, o3⟩ := okKV_cons ok
    rw [prs, evalPairs]
    refine Goes.mono (N := 1 + ((1 + 1) + 3 * ks.length)) ?_ (by simp only [List.length_cons]; omega)
    refine Goes.bind (a := Value.int k s.toks) (s₁ := { s with toks := s.toks + 1 }) (Goes.bind (M := 0) (f := fun t => Sem.pure (Value.int k t)) goes_fresh Goes.pure) ?_
    refine Goes.bind (a := Value.str x (s.toks + 1)) (s₁ := { s with toks := s.toks + 2 }) (p₁ := pos) (Goes.holding ?_) ?_
    · refine Goes.bind (M := 1) (a := Value.str x (s.toks + 1)) (s₁ := { s with toks := s.toks + 2 }) (Goes.bind (M := 0) (f := fun t => Sem.pure (Value.str x t)) (goes_fresh (s := { s with toks := s.toks + 1 })) Goes.pure) ?_
      exact Goes.bind (M := 0) goes_at Goes.pure
    · have ih := ih vs k { s with toks := s.toks + 2 } o3
      have e : ({ s with toks := s.toks + 2 + 2 * ks.length } : Shared) = { s with toks := s.toks + 2 * (ks.length + 1) } := by
        rw [show s.toks + 2 + 2 * ks.length = s.toks + 2 * (ks.length + 1) by omega]
      dsimp only at ih
      rw [e] at ih
      exact Goes.bind (M := 0) (Goes.holding ih) Goes.pure
theorem goes_sets {f : Value × Value → PUnit → Sem (ForInStep PUnit)} (hf : ∀ x u, f x u = (dictSet d x.1 x.2).bind fun _ => .pure (.yield ⟨⟩)) (hd : Nat.ble 11 d = true)
    (ks : List (Option Expr)) : ∀ (vs : List Expr) (lo : Int) (es : List DictEntry) (t : Nat) (s : Shared), okKV lo ks vs = true → -1 ≤ lo → (∀ e ∈ es, e.hash ≤ lo) → es.length + ks.length < 1000 → s.heap.get? d = some (dictO es) →
      Goes w (10 * ks.length) (forIn (valsOf t ks vs) PUnit.unit f) s p PUnit.unit { s with heap := s.heap.update d fun _ => dictO (es ++ b3Ents 2 t ks vs), toks := s.toks + ks.length } p := by
  induction ks with
  | nil =>
    intro vs lo es t s ok _ _ _ hg
    cases okKV_nil ok
    have e : ({ s with heap := s.heap.update d fun _ => dictO (es ++ b3Ents 2 t [] []), toks := s.toks + ([] : List (Option Expr)).length } : Shared) = s := by
      simp only [b3Ents, List.append_nil, List.length_nil, Nat.add_zero, update_self hg]
    rw [e]
    exact Goes.pure
  | cons a ks ih =>
    intro vs lo es t s ok hlo hes hlen hg
    obtain ⟨k, ka, kb, x, va, vb, vs, rfl, rfl, o1, o2, o3⟩ := okKV_cons ok
    simp only [List.length_cons] at hlen
    have hne : ∀ e ∈ es, e.hash ≠ k := fun e he q => by have := hes e he; omega
    rw [valsOf, List.forIn_cons, hf]
    refine Goes.mono (N := (10 + 0) + 10 * ks.length) (Goes.bind (s₁ := { s with heap := s.heap.update d fun _ => dictO (es ++ [⟨k, .int k t, .str x (t + 1)⟩]), toks := s.toks + 1 }) (p₁ := p) (a := ForInStep.yield PUnit.unit) ?_ ?_) (by simp only [List.length_cons]; omega)
    · exact Goes.bind (M := 0) (goes_set hg hne hd (by omega) (by omega) o2) Goes.pure
    · have ih := ih vs k (es ++ [⟨k, .int k t, .str x (t + 1)⟩]) (t + 2) { s with heap := s.heap.update d fun _ => dictO (es ++ [⟨k, .int k t, .str x (t + 1)⟩]), toks := s.toks + 1 } o3 (by omega)
        (fun e he => by
          rcases List.mem_append.mp he with h | h
          · have := hes e h; omega
          · rw [List.mem_singleton] at h; subst h; exact Int.le_refl _)
        (by simp; omega) (get_update hg rfl)
      have e1 : es ++ [(⟨k, .int k t, .str x (t + 1)⟩ : DictEntry)] ++ b3Ents 2 (t + 2) ks vs = es ++ b3Ents 2 t (some (.Constant (.int k) ka kb) :: ks) (.Constant (.str x) va vb :: vs) := by
        rw [List.append_assoc]; rfl
      rw [update_update] at ih
      dsimp only at ih
      rw [e1, show s.toks + 1 + ks.length = s.toks + (ks.length + 1) by omega] at ih
      exact ih
theorem get_push {h : Heap} {o : Obj} (ho : alive o = some o) : (h.push o).get? h.objs.size = some o := by
  obtain ⟨objs, l⟩ := h
  unfold Heap.push Heap.get?
  simp only [Array.getElem?_push_size]
  obtain ⟨c, dd, dt, sl⟩ := o
  cases dt <;> first | rfl | cases ho
/-- a run of more than 15 pairs -/
theorem goes_sub17 {ks : List (Option Expr)} {vs : List Expr} {lo : Int} (env : Env) (pos : Pos) (ok : okKV lo ks vs = true) (hlo : -1 ≤ lo) (hl : 15 < ks.length) (hl' : ks.length < 1000) (hs : Nat.ble 11 s.heap.objs.size = true) :
    Goes w (2 + 13 * ks.length) (subDict (prs env pos ks vs)) s pos s.heap.objs.size { s with heap := s.heap.push (dictO (b3Ents 3 s.toks ks vs)), toks := s.toks + 3 * ks.length } pos := by
  unfold subDict
  refine Goes.mono (N := 1 + ((1 + (13 * ks.length + 0)) + 0)) (Goes.bind goes_alloc ?_) (by omega)
  refine Goes.bind (Goes.holding (a := ()) (s₁ := { s with heap := s.heap.push (dictO (b3Ents 3 s.toks ks vs)), toks := s.toks + 3 * ks.length }) ?_) Goes.pure
  rw [if_neg (by rw [prs_length ok]; omega)]
  refine Goes.bind goes_rule ?_
  have b := goes_build (w := w) (d := s.heap.objs.size) (f := fun x _ => match x with
    | (k, v) => k.bind fun kv => (holding [kv] v).bind fun vv => (holding [kv, vv] (dictSet s.heap.objs.size kv vv)).bind fun _ => .pure (.yield PUnit.unit)) (fun x u => rfl) hs env pos ks vs lo [] { s with heap := s.heap.push (dictO []) } ok hlo (by simp) (by simpa using hl') (get_push rfl)
  dsimp only at b
  rw [push_update, List.nil_append] at b
  exact Goes.bind (M := 0) b Goes.pure
theorem goes_sub4 {ks : List (Option Expr)} {vs : List Expr} {lo : Int} (env : Env) (pos : Pos) (ok : okKV lo ks vs = true) (hlo : -1 ≤ lo) (hl : ks.length ≤ 15) (hs : Nat.ble 11 s.heap.objs.size = true) :
    Goes w (1 + 13 * ks.length) (subDict (prs env pos ks vs)) s pos s.heap.objs.size { s with heap := s.heap.push (dictO (b3Ents 2 s.toks ks vs)), toks := s.toks + 3 * ks.length } pos := by
  unfold subDict
  refine Goes.mono (N := 1 + ((3 * ks.length + (10 * ks.length + 0)) + 0)) (Goes.bind goes_alloc ?_) (by omega)
  refine Goes.bind (Goes.holding (a := ()) (s₁ := { s with heap := s.heap.push (dictO (b3Ents 2 s.toks ks vs)), toks := s.toks + 3 * ks.length }) ?_) Goes.pure
  rw [if_pos (by rw [prs_length ok]; omega)]
  refine Goes.bind (goes_pairs env pos ks vs lo _ ok) (Goes.holding ?_)
  have b := goes_sets (w := w) (d := s.heap.objs.size) (p := pos) (f := fun x _ => match x with
    | (k, v) => (dictSet s.heap.objs.size k v).bind fun _ => .pure (.yield PUnit.unit)) (fun x u => rfl) hs ks vs lo [] s.toks { s with heap := s.heap.push (dictO []), toks := s.toks + 2 * ks.length } ok hlo (by simp) (by simp; omega) (get_push rfl)
  dsimp only at b
  rw [push_update, List.nil_append, show s.toks + 2 * ks.length + ks.length = s.toks + 3 * ks.length by omega] at b
  exact Goes.bind (M := 0) b Goes.pure
end
end Mine
end
section
open PySem PySem.W PyProof.Rows
set_option maxRecDepth 100000
namespace Mine
section
variable {w : World} {s : Shared} {p : Pos} {d a : Addr} {es es' : List DictEntry} {k : Int} {t : Tok} {v : Value}
theorem get_other {h : Heap} {f : Obj → Obj} (hne : a ≠ d) : (h.update d f).get? a = h.get? a := Heap.get?_update_ne h a d f hne
theorem goes_mergeLoop {f : Nat → PUnit → Sem (ForInStep PUnit)} {es' : List DictEntry} (hda : a ≠ d)
    (hf : ∀ i u, f i u = (dictEntries a).bind fun l => match l[i]? with
      | some e => (holding [e.key, e.val] (dictPut d e.hash e.key e.val)).bind fun _ => (dictEpoch a).bind fun n => if (n != es'.length) = true then (unsupported "dict.changed-during-merge" : Sem Unit).bind (fun _ => .pure (.yield ⟨⟩)) else .pure (.yield ⟨⟩)
      | none => (unsupported "dict.changed-during-merge" : Sem Unit).bind (fun _ => .pure (.yield ⟨⟩))) (hd : Nat.ble 11 d = true) (rest : List DictEntry) :
    ∀ (done : List DictEntry) (lo : Int) (es : List DictEntry) (s : Shared), es' = done ++ rest → entsOK lo rest → (∀ e ∈ es, e.hash ≤ lo) → es.length + rest.length < 1000 → s.heap.get? d = some (dictO es) → s.heap.get? a = some (dictO es') →
      Goes w (6 * rest.length) (forIn (List.range' done.length rest.length) PUnit.unit f) s p PUnit.unit { s with heap := s.heap.update d fun _ => dictO (es ++ rest) } p := by
  induction rest with
  | nil =>
    intro done lo es s _ _ _ _ hg _
    rw [List.append_nil, update_self hg]
    exact Goes.pure
  | cons e rest ih =>
    intro done lo es s he ok hes hlen hg ha
    obtain ⟨⟨t, v, hev⟩, hlo, ok'⟩ := ok
    simp only [List.length_cons] at hlen
    rw [List.length_cons, List.range'_succ, List.forIn_cons, hf]
    have hne : ∀ x ∈ es, x.hash ≠ e.hash := fun x hx q => by have := hes x hx; omega
    refine Goes.mono (N := (1 + (4 + (1 + 0))) + 6 * rest.length) (Goes.bind (s₁ := { s with heap := s.heap.update d fun _ => dictO (es ++ [e]) }) (p₁ := p) (a := ForInStep.yield PUnit.unit) ?_ ?_) (by omega)
    · refine Goes.bind (goes_entries ha) ?_
      have hi : es'.toArray[done.length]? = some e := by rw [he]; simp
      rw [hi]
      dsimp only
      refine Goes.bind (a := ()) (s₁ := { s with heap := s.heap.update d fun _ => dictO (es ++ [e]) }) (p₁ := p) (Goes.holding ?_) ?_
      · have := goes_put (w := w) (p := p) (t := t) (v := v) hg hne hd (by omega)
        rw [← hev] at this
        rw [show dictPut d e.hash e.key e.val = dictPut d e.hash (.int e.hash t) v by conv => lhs; rw [hev]]
        exact this
      · refine Goes.bind (goes_epoch (s := { s with heap := s.heap.update d fun _ => dictO (es ++ [e]) }) ((get_other hda).trans ha)) ?_
        rw [if_neg (by simp)]
        exact Goes.pure
    · have ih := ih (done ++ [e]) e.hash (es ++ [e]) { s with heap := s.heap.update d fun _ => dictO (es ++ [e]) } (by rw [he]; simp) ok'
        (fun x hx => by
          rcases List.mem_append.mp hx with h | h
          · have := hes x h; omega
          · rw [List.mem_singleton] at h; subst h; exact Int.le_refl _)
        (by simp; omega) (get_update hg rfl) ((get_other hda).trans ha)
      rw [update_update] at ih
      simp only [List.length_append, List.length_singleton, List.append_assoc, List.singleton_append] at ih
      exact ih
theorem goes_merge (hda : a ≠ d) (hd : Nat.ble 11 d = true) (ha11 : Nat.ble 11 a = true) {lo : Int} (ok : entsOK lo es') (hes : ∀ e ∈ es, e.hash ≤ lo) (hlen : es.length + es'.length < 1000) (hne : es ≠ [])
    (hg : s.heap.get? d = some (dictO es)) (ha : s.heap.get? a = some (dictO es')) :
    Goes w (5 + 6 * es'.length) (mergeMapping d (.ref a) false) s p () { s with heap := s.heap.update d fun _ => dictO (es ++ es') } p := by
  have hsys : (a == sysModules) = false := by
    rw [beq_eq_false_iff_ne]
    intro q
    rw [q] at ha11
    exact absurd ha11 (by decide)
  unfold mergeMapping isInstance specialOf
  refine Goes.mono (N := (1 + 0) + ((1 + 0) + (1 + (1 + (1 + (6 * es'.length + 0)))))) (Goes.bind (a := true) (s₁ := s) (p₁ := p) ?_ ?_) (by omega)
  · refine Goes.bind (a := Value.type "dict") (s₁ := s) (p₁ := p) (Goes.bind (M := 0) (goes_load ha) Goes.pure) ?_
    rw [sub_dict]
    exact Goes.pure
  · rw [if_pos rfl]
    refine Goes.bind (a := some (Value.builtin "dict.__iter__")) (s₁ := s) (p₁ := p) ?_ ?_
    · refine Goes.bind (a := Value.type "dict") (s₁ := s) (p₁ := p) (Goes.bind (M := 0) (goes_load ha) Goes.pure) ?_
      rw [iter_dict]
      exact Goes.pure
    · have e1 : (some (Value.builtin "dict.__iter__") == some (Value.builtin "dict.__iter__")) = true := by simp
      rw [e1]
      refine Goes.mono (N := 0 + (1 + (1 + (1 + (6 * es'.length + 0))))) (Goes.bind (a := true) Goes.pure ?_) (by omega)
      dsimp only
      rw [hsys]
      rw [if_neg Bool.false_ne_true]
      refine Goes.bind (goes_entries hg) ?_
      have e2 : es.toArray.isEmpty = false := by
        cases es with
        | nil => exact absurd rfl hne
        | cons => rfl
      rw [e2, if_neg Bool.false_ne_true]
      refine Goes.bind (goes_entries ha) ?_
      refine Goes.bind (goes_epoch ha) ?_
      refine Goes.bind (a := PUnit.unit) (M := 0) ?_ Goes.pure
      rw [List.size_toArray, List.range_eq_range']
      refine goes_mergeLoop (es' := es') hda (fun i u => ?hf) hd es' [] lo es s rfl ok hes hlen hg ha
      case hf =>
        refine congrArg (Sem.bind (dictEntries a)) (funext fun l => ?_)
        cases l[i]? <;> rfl
end
end Mine
end
section
open PySem PySem.W PyProof.Rows
set_option maxRecDepth 100000
namespace Mine
def keyMax : Int → List (Option Expr) → Int
  | lo, [] => lo
  | _, some (.Constant (.int k) _ _) :: ks => keyMax k ks
  | lo, _ :: ks => keyMax lo ks
def okN : Nat → Int → List (Option Expr) → List Expr → Bool
  | 0, lo, ks, vs => okKV lo ks vs && decide (ks.length < 16) && decide (0 < ks.length)
  | n + 1, lo, ks, vs => okKV lo (ks.take 17) (vs.take 17) && ((ks.take 17).length == 17) && okN n (keyMax lo (ks.take 17)) (ks.drop 17) (vs.drop 17)
def subsN : Nat → Nat → List (Option Expr) → List Expr → List (List DictEntry)
  | 0, t, ks, vs => [b3Ents 2 t ks vs]
  | n + 1, t, ks, vs => b3Ents 3 t (ks.take 17) (vs.take 17) :: subsN n (t + 51) (ks.drop 17) (vs.drop 17)
def lenN : Nat → List (Option Expr) → Nat
  | 0, ks => ks.length
  | n + 1, ks => 17 + lenN n (ks.drop 17)
def HR (life : Life) (base : List Obj) (es : List DictEntry) (subs : List (List DictEntry)) : Heap := ⟨(base ++ dictO es :: subs.map dictO).toArray, life⟩
section
variable {life : Life} {base : List Obj} {es es' : List DictEntry} {subs : List (List DictEntry)}
theorem HR_push : (HR life base es subs).push (dictO es') = HR life base es (subs ++ [es']) := by
  simp [HR, Heap.push]
theorem HR_update : (HR life base es subs).update base.length (fun _ => dictO es') = HR life base es' subs := by
  show Heap.mk _ _ = Heap.mk _ _
  refine congrArg (Heap.mk · life) ?_
  apply Array.ext_getElem?
  intro i
  simp only [Array.getElem?_modify, List.getElem?_toArray]
  by_cases hi : base.length = i
  · subst hi; simp
  · rw [if_neg hi]
    by_cases h2 : i < base.length
    · rw [List.getElem?_append_left h2, List.getElem?_append_left h2]
    · rw [List.getElem?_append_right (by omega), List.getElem?_append_right (by omega)]
      obtain ⟨j, hj⟩ : ∃ j, i - base.length = j + 1 := ⟨i - base.length - 1, by omega⟩
      rw [hj]; rfl
theorem HR_get : (HR life base es subs).get? base.length = some (dictO es) := by
  unfold HR Heap.get?
  simp
theorem HR_size : (HR life base es subs).objs.size = base.length + 1 + subs.length := by
  simp [HR]; omega
theorem HR_last : (HR life base es (subs ++ [es'])).get? (HR life base es subs).objs.size = some (dictO es') := by
  rw [← HR_push]; exact get_push rfl
end
section
variable {w : World} {p : Pos}
theorem keyMax_le : ∀ {ks : List (Option Expr)} {vs : List Expr} {lo : Int}, okKV lo ks vs = true → lo ≤ keyMax lo ks := by
  intro ks
  induction ks with
  | nil => intro vs lo _; exact Int.le_refl _
  | cons a ks ih =>
    intro vs lo h
    obtain ⟨k, ka, kb, x, va, vb, vs, rfl, rfl, o1, o2, o3⟩ := okKV_cons h
    have := ih o3
    show lo ≤ keyMax k ks
    omega
theorem ents_le {st : Nat} : ∀ {ks : List (Option Expr)} {vs : List Expr} {lo : Int} {t : Nat}, okKV lo ks vs = true → ∀ e ∈ b3Ents st t ks vs, e.hash ≤ keyMax lo ks := by
  intro ks
  induction ks with
  | nil => intro vs lo t h; cases okKV_nil h; intro e he; cases he
  | cons a ks ih =>
    intro vs lo t h
    obtain ⟨k, ka, kb, x, va, vb, vs, rfl, rfl, o1, o2, o3⟩ := okKV_cons h
    intro e he
    rcases List.mem_cons.mp he with rfl | he
    · exact keyMax_le o3
    · exact ih o3 e he
theorem prs_split {env : Env} {pos : Pos} : ∀ (m : Nat) (ks : List (Option Expr)) (vs : List Expr) (lo : Int), okKV lo (ks.take m) (vs.take m) = true → (ks.take m).length = m →
    prs env pos ks vs = prs env pos (ks.take m) (vs.take m) ++ prs env pos (ks.drop m) (vs.drop m) := by
  intro m
  induction m with
  | zero => intro ks vs lo _ _; rfl
  | succ m ih =>
    intro ks vs lo ok hl
    cases ks with
    | nil => cases hl
    | cons a ks =>
      rw [List.take_succ_cons] at ok
      obtain ⟨k, ka, kb, x, va, vb, vs', rfl, hv, o1, o2, o3⟩ := okKV_cons ok
      cases vs with
      | nil => cases hv
      | cons v vs =>
        rw [List.take_succ_cons] at hv
        obtain ⟨rfl, rfl⟩ := List.cons.inj hv
        have hl' : (ks.take m).length = m := by simpa using hl
        simp only [List.take_succ_cons, List.drop_succ_cons, prs, List.cons_append]
        rw [ih ks vs k o3 hl']
theorem prs_ne {env : Env} {pos : Pos} {ks : List (Option Expr)} {vs : List Expr} {lo : Int} (h : okKV lo ks vs = true) (hl : 0 < ks.length) : (prs env pos ks vs).isEmpty = false := by
  have := prs_length (env := env) (pos := pos) h
  cases hp : prs env pos ks vs with
  | nil => rw [hp] at this; simp at this; omega
  | cons => rfl
/-- a later run: a dict of its own, then merged -/
theorem goes_flush {s : Shared} {life : Life} {base : List Obj} {es sub : List DictEntry} {subs : List (List DictEntry)} {l : List Pr} {N tk : Nat} (hs : s.heap = HR life base es subs) (hb : 11 ≤ base.length) (hne : es ≠ []) {lo : Int}
    (hl : l.isEmpty = false) (hsub : Goes w N (subDict l) s p s.heap.objs.size { s with heap := s.heap.push (dictO sub), toks := tk } p)
    (ok : entsOK lo sub) (hes : ∀ e ∈ es, e.hash ≤ lo) (hlen : es.length + sub.length < 1000) :
    Goes w (N + (5 + 6 * sub.length)) (flush l (some base.length)) s p (some base.length) { s with heap := HR life base (es ++ sub) (subs ++ [sub]), toks := tk } p := by
  unfold flush
  rw [if_neg (by rw [hl]; exact Bool.false_ne_true)]
  refine Goes.bind (Goes.holding hsub) ?_
  refine Goes.bind (M := 0) (a := ()) (s₁ := { s with heap := HR life base (es ++ sub) (subs ++ [sub]), toks := tk }) (p₁ := p) (Goes.onRaise (Goes.holding ?_)) Goes.pure
  rw [hs, HR_push]
  have m := goes_merge (w := w) (p := p) (s := { s with heap := HR life base es (subs ++ [sub]), toks := tk }) (d := base.length) (a := (HR life base es subs).objs.size) (es := es) (es' := sub)
    (by rw [HR_size]; exact Nat.ne_of_gt (by omega)) (Nat.ble_eq_true_of_le hb) (Nat.ble_eq_true_of_le (by rw [HR_size]; omega)) ok hes hlen hne HR_get HR_last
  rw [HR_update] at m
  exact m
theorem goes_loop {life : Life} {base : List Obj} (env : Env) (pos : Pos) (hb : 11 ≤ base.length) (n : Nat) : ∀ (ks : List (Option Expr)) (vs : List Expr) (lo : Int) (es : List DictEntry) (subs : List (List DictEntry)) (s : Shared),
    s.heap = HR life base es subs → okN n lo ks vs = true → -1 ≤ lo → es ≠ [] → (∀ e ∈ es, e.hash ≤ lo) → es.length + lenN n ks < 1000 →
    Goes w (400 * (n + 1)) ((loopD (prs env pos ks vs) (some base.length) []).bind finD) s pos (.ref base.length)
      { s with heap := HR life base (es ++ (subsN n s.toks ks vs).flatten) (subs ++ subsN n s.toks ks vs), toks := s.toks + 3 * lenN n ks } pos := by
  induction n with
  | zero =>
    intro ks vs lo es subs s hs ok hlo hne hes hlen
    simp only [okN, Bool.and_eq_true, decide_eq_true_eq] at ok
    obtain ⟨⟨o1, o2⟩, o3⟩ := ok
    simp only [lenN] at hlen ⊢
    rw [loop_last _ _ (by rw [prs_length o1]; omega)]
    refine Goes.mono (N := 0 + (((1 + 13 * ks.length) + (5 + 6 * ks.length)) + 0)) (Goes.bind Goes.pure ?_) (by omega)
    unfold finD
    have hlb : (b3Ents 2 s.toks ks vs).length = ks.length := ents_length o1
    have f := goes_flush (w := w) (p := pos) hs hb hne (lo := lo) (prs_ne o1 o3) (goes_sub4 env pos o1 hlo (by omega) (Nat.ble_eq_true_of_le (by rw [hs, HR_size]; omega))) (ents_ok o1) hes (by rw [hlb]; exact hlen)
    rw [hlb] at f
    refine Goes.bind f ?_
    have e : es ++ (subsN 0 s.toks ks vs).flatten = es ++ b3Ents 2 s.toks ks vs := by simp [subsN]
    rw [e]
    exact Goes.pure
  | succ n ih =>
    intro ks vs lo es subs s hs ok hlo hne hes hlen
    simp only [okN, Bool.and_eq_true, beq_iff_eq] at ok
    obtain ⟨⟨o1, o2⟩, o3⟩ := ok
    simp only [lenN] at hlen ⊢
    rw [prs_split 17 ks vs lo o1 o2, loop_chunk _ _ _ (by rw [prs_length o1]; exact o2), sbind_assoc]
    have hlb : (b3Ents 3 s.toks (ks.take 17) (vs.take 17)).length = 17 := (ents_length o1).trans o2
    have g := goes_sub17 (w := w) (s := s) env pos o1 hlo (by omega) (by omega) (Nat.ble_eq_true_of_le (by rw [hs, HR_size]; omega))
    rw [o2] at g
    have f := goes_flush (w := w) (p := pos) hs hb hne (lo := lo) (prs_ne o1 (by omega)) g (ents_ok o1) hes (by rw [hlb]; omega)
    rw [hlb] at f
    refine Goes.mono (N := (2 + 13 * 17 + (5 + 6 * 17)) + 400 * (n + 1)) (Goes.bind f ?_) (by omega)
    have ih := ih (ks.drop 17) (vs.drop 17) (keyMax lo (ks.take 17)) (es ++ b3Ents 3 s.toks (ks.take 17) (vs.take 17)) (subs ++ [b3Ents 3 s.toks (ks.take 17) (vs.take 17)])
      { s with heap := HR life base (es ++ b3Ents 3 s.toks (ks.take 17) (vs.take 17)) (subs ++ [b3Ents 3 s.toks (ks.take 17) (vs.take 17)]), toks := s.toks + 3 * 17 } rfl o3 (by have := keyMax_le o1; omega) (by simp [hne])
      (fun e he => by
        rcases List.mem_append.mp he with h | h
        · have := hes e h; have := keyMax_le o1; omega
        · exact ents_le o1 e h)
      (by rw [List.length_append, hlb]; omega)
    dsimp only at ih
    have e1 : es ++ b3Ents 3 s.toks (ks.take 17) (vs.take 17) ++ (subsN n (s.toks + 3 * 17) (ks.drop 17) (vs.drop 17)).flatten = es ++ (subsN (n + 1) s.toks ks vs).flatten := by
      simp [subsN, List.append_assoc]
    have e2 : subs ++ [b3Ents 3 s.toks (ks.take 17) (vs.take 17)] ++ subsN n (s.toks + 3 * 17) (ks.drop 17) (vs.drop 17) = subs ++ subsN (n + 1) s.toks ks vs := by
      simp [subsN, List.append_assoc]
    rw [e1, e2, show s.toks + 3 * 17 + 3 * lenN n (ks.drop 17) = s.toks + 3 * (17 + lenN n (ks.drop 17)) by omega] at ih
    exact ih
end
end Mine
end
section
open PySem PySem.W PyProof.Rows
set_option maxRecDepth 100000
namespace Mine
def posD : Pos := ⟨34, 16, 34, 8704⟩
def posA : Pos := ⟨34, 0, 34, 8704⟩
def posN : Pos := ⟨34, 0, 34, 13⟩
def tgt9 : Expr := .Name (PySem.Str.ofString "b3_exceptions") posN
abbrev ks9 : List (Option Expr) := dKs (stOf 9)
abbrev vs9 : List Expr := dVs (stOf 9)
theorem st9_eq : stOf 9 = .Assign [tgt9] (.Dict ks9 vs9 posD) posA := by kernel_rfl
theorem ok9 : (okKV (-1) (ks9.take 17) (vs9.take 17) && ((ks9.take 17).length == 17) && okN 37 (keyMax (-1) (ks9.take 17)) (ks9.drop 17) (vs9.drop 17)) = true := by kernel_rfl
theorem len9 : lenN 37 (ks9.drop 17) = 633 := by kernel_rfl
section
variable {w : World} {p : Pos}
theorem items_eq {env : Env} {pos : Pos} : ∀ {ks : List (Option Expr)} {vs : List Expr} {lo : Int}, okKV lo ks vs = true →
    (evalEachOpt ks env).zip ((evalEach vs env).map fun v => v.bind fun x => (standAt pos).bind fun _ => .pure x) = (prs env pos ks vs).map fun x => (some x.1, x.2) := by
  intro ks
  induction ks with
  | nil => intro vs lo h; cases okKV_nil h; rfl
  | cons a ks ih =>
    intro vs lo h
    obtain ⟨k, ka, kb, x, va, vb, vs, rfl, rfl, o1, o2, o3⟩ := okKV_cons h
    rw [evalEachOpt, evalEach, List.map_cons, List.zip_cons_cons, prs, List.map_cons, ih o3]
    rfl
theorem okKV_append : ∀ (m : Nat) {ks : List (Option Expr)} {vs : List Expr} {lo : Int}, okKV lo (ks.take m) (vs.take m) = true → (ks.take m).length = m → okKV (keyMax lo (ks.take m)) (ks.drop m) (vs.drop m) = true → okKV lo ks vs = true := by
  intro m
  induction m with
  | zero => intro ks vs lo _ _ h; exact h
  | succ m ih =>
    intro ks vs lo ok hl h
    cases ks with
    | nil => cases hl
    | cons a ks =>
      rw [List.take_succ_cons] at ok h
      obtain ⟨k, ka, kb, x, va, vb, vs', rfl, hv, o1, o2, o3⟩ := okKV_cons ok
      cases vs with
      | nil => cases hv
      | cons v vs =>
        rw [List.take_succ_cons] at hv
        obtain ⟨rfl, rfl⟩ := List.cons.inj hv
        have hl' : (ks.take m).length = m := by simpa using hl
        have := ih o3 hl' h
        simp only [okKV, this, Bool.and_true, Bool.and_eq_true, decide_eq_true_eq]
        exact ⟨o1, o2⟩
theorem okN_all : ∀ (n : Nat) {ks : List (Option Expr)} {vs : List Expr} {lo : Int}, okN n lo ks vs = true → okKV lo ks vs = true := by
  intro n
  induction n with
  | zero => intro ks vs lo h; simp only [okN, Bool.and_eq_true] at h; exact h.1.1
  | succ n ih =>
    intro ks vs lo h
    simp only [okN, Bool.and_eq_true, beq_iff_eq] at h
    exact okKV_append 17 h.1.1 h.1.2 (ih h.2)
theorem heap9 (w : World) (os : OsState) : (s9 w os).abs.heap = ⟨((t9 w.params).list 68).toArray, life0⟩ := rfl
theorem goes_disp (w : World) (os : OsState) : Goes w 20000 (dictDisplay ((prs env0 posD ks9 vs9).map fun x => (some x.1, x.2))) (s9 w os).abs posD (.ref 68)
    { (s9 w os).abs with heap := HR life0 ((t9 w.params).list 68) (b3Ents 3 295 (ks9.take 17) (vs9.take 17) ++ (subsN 37 346 (ks9.drop 17) (vs9.drop 17)).flatten) (subsN 37 346 (ks9.drop 17) (vs9.drop 17)), toks := 2245 } posD := by
  have ok := ok9
  simp only [Bool.and_eq_true, beq_iff_eq] at ok
  obtain ⟨⟨o1, o2⟩, o3⟩ := ok
  rw [dd_eq, prs_split 17 ks9 vs9 (-1) o1 o2, loop_chunk _ _ _ (by rw [prs_length o1]; exact o2), sbind_assoc]
  have hbl : ((t9 w.params).list 68).length = 68 := by simp [BT.list]
  have g := goes_sub17 (w := w) (s := (s9 w os).abs) env0 posD o1 (by omega) (by omega) (by omega) (by show Nat.ble 11 (absHeap (t9 w.params) 68 life0).objs.size = true; rw [absHeap_size]; rfl)
  rw [o2] at g
  have hlb : (b3Ents 3 295 (ks9.take 17) (vs9.take 17)).length = 17 := (ents_length o1).trans o2
  have l := goes_loop (w := w) (life := life0) (base := (t9 w.params).list 68) env0 posD (by rw [hbl]; omega) 37 (ks9.drop 17) (vs9.drop 17) (keyMax (-1) (ks9.take 17)) (b3Ents 3 295 (ks9.take 17) (vs9.take 17)) []
    { (s9 w os).abs with heap := HR life0 ((t9 w.params).list 68) (b3Ents 3 295 (ks9.take 17) (vs9.take 17)) [], toks := 346 } rfl o3 (keyMax_le o1) (by intro q; rw [q] at hlb; cases hlb) (ents_le o1) (by rw [hlb, len9]; omega)
  rw [hbl] at l
  simp only [List.nil_append, len9] at l
  refine Goes.mono (N := (2 + 13 * 17) + (0 + 400 * (37 + 1))) (Goes.bind (a := some 68) (s₁ := { (s9 w os).abs with heap := HR life0 ((t9 w.params).list 68) (b3Ents 3 295 (ks9.take 17) (vs9.take 17)) [], toks := 346 }) (p₁ := posD) ?_ (Goes.mono l (by omega))) (by omega)
  unfold flush
  rw [if_neg (by rw [prs_ne o1 (by omega)]; exact Bool.false_ne_true)]
  refine Goes.bind (M := 0) (s₁ := { (s9 w os).abs with heap := HR life0 ((t9 w.params).list 68) (b3Ents 3 295 (ks9.take 17) (vs9.take 17)) [], toks := 346 }) (a := (68 : Nat)) (p₁ := posD) ?_ Goes.pure
  have e1 : (s9 w os).abs.heap.objs.size = 68 := absHeap_size _ _ _
  have e2 : (s9 w os).abs.heap.push (dictO (b3Ents 3 295 (ks9.take 17) (vs9.take 17))) = HR life0 ((t9 w.params).list 68) (b3Ents 3 295 (ks9.take 17) (vs9.take 17)) [] := by
    rw [heap9]; simp [HR, Heap.push]
  have e3 : (s9 w os).abs.toks = 295 := rfl
  rw [e1, e3, e2] at g
  exact g
end
end Mine
end
section
open PySem PySem.W PyProof.Rows
set_option maxRecDepth 100000
namespace Mine
theorem p_pre (w : World) (os : OsState) : topGo treeTable pp w 11 ann0 12 ⟨boot_heap w.params, #[], boot_drawn, boot_toks, os⟩ (topStub pp) = some ((sa w os).abs, ⟨denote treeTable cE, cE, posZ, BB⟩) := by
  rw [Fast.te15667345088766844465, Fast.te14364793385576792824, Fast.te11892475500146522536]
  kernel_rfl
theorem p_block (w : World) (os : OsState) : segRunT treeTable pp w 11 ann0 1 1 (sa w os) (blockOf bodyT env0 cE posZ BB) = some (.next, sa w os, cE, posZ) := by
  rw [Fast.te10110043849684766642, Fast.te14364793385576792824]
  kernel_rfl
theorem p7 (w : World) (os : OsState) : segRunT treeTable pp w 11 ann0 1 200 (sa w os) (piecesOf [stOf 0, stOf 1, stOf 2, stOf 3, stOf 4, stOf 5, stOf 6] env0 cE posZ BB) = some (.next, s7 w os, cE, ⟨30, 0, 30, 8⟩) := by
  rw [Fast.te10110043849684766642, Fast.te14364793385576792824]
  kernel_rfl
theorem p9 (w : World) (os : OsState) : segRunT treeTable pp w 11 ann0 1 40 (s8 w os) (piecesOf [stOf 8] env0 cE ⟨31, 0, 31, 6⟩ BB) = some (.next, s9 w os, cE, ⟨32, 0, 33, 30⟩) := by
  rw [Fast.te10110043849684766642, Fast.te14364793385576792824]
  kernel_rfl
theorem pf (w : World) (os : OsState) : segRunT treeTable pp w 11 ann0 1 300 (s10 w os) (piecesOf [stOf 10, stOf 11, stOf 12, stOf 13, stOf 14, stOf 15, stOf 16, stOf 17, stOf 18] env0 cE ⟨34, 0, 34, 13⟩ BB) = some (.next, sf w os, cE, ⟨95, 0, 101, 70⟩) := by
  rw [Fast.te10110043849684766642, Fast.te14364793385576792824]
  kernel_rfl
end Mine
end
section
open PySem PySem.W PyProof.Rows
set_option maxRecDepth 100000
namespace Mine
theorem heap39 (P : Params) : HR life0 ((t9 P).list 68) (b3Ents 3 295 (ks9.take 17) (vs9.take 17) ++ (subsN 37 346 (ks9.drop 17) (vs9.drop 17)).flatten) (subsN 37 346 (ks9.drop 17) (vs9.drop 17)) = absHeap (tc39 P) 107 life0 := by kernel_rfl
theorem store9 (w : World) (os : OsState) (K : Flow → Sem Fin) (H : Value → Sem Fin) (gd : Bool → Bool) (lv : List Value → List Value) :
    segGoT treeTable pp w 11 ann0 1 7 (c39 w os) ⟨(assignStores env0 (.ref 68) none ((assignEach [tgt9] env0).map (·.2))).wrap K H gd lv, cE, posD, BB⟩ = some (s10 w os, ⟨K .next, cE, posN, BB⟩) := by
  rw [Fast.te10295753902157049106, Fast.te14364793385576792824]
  kernel_rfl
theorem swaps9 : swapsWithSole [tgt9] (.Dict ks9 vs9 posD) posA.line env0 = .pure false := rfl
theorem stores9 : swappedStores [tgt9] (.Dict ks9 vs9 posD) env0 = .pure none := rfl
theorem goes9 (w : World) (os : OsState) : Goes w 20010 (exec (stOf 9) env0) (s9 w os).abs ⟨32, 0, 33, 30⟩ .next (s10 w os).abs posN := by
  rw [st9_eq]
  unfold exec
  refine Goes.mono (N := 1 + (0 + ((1 + 20000) + (0 + 7)))) (Goes.bind goes_at ?_) (by omega)
  rw [swaps9]
  refine Goes.bind Goes.pure ?_
  rw [if_neg Bool.false_ne_true]
  refine Goes.bind (a := Value.ref 68) (s₁ := (c39 w os).abs) (p₁ := posD) ?_ ?_
  · refine Goes.bind goes_at ?_
    have ok := ok9
    simp only [Bool.and_eq_true, beq_iff_eq] at ok
    obtain ⟨⟨o1, o2⟩, o3⟩ := ok
    have h := goes_disp w os
    rw [heap39, ← items_eq (okKV_append 17 o1 o2 (okN_all 37 o3))] at h
    exact h
  · rw [stores9]
    refine Goes.bind Goes.pure ?_
    exact ⟨7, Nat.le_refl _, fun K H gd lv => segGo_of (store9 w os K H gd lv)⟩
theorem p10 (w : World) (os : OsState) : ∃ n, n ≤ 20011 ∧ segRun treeTable pp w 11 ann0 1 n (s9 w os).abs (pieceOf (stOf 9) env0 cE ⟨32, 0, 33, 30⟩ BB) = some (.next, (s10 w os).abs, cE, posN) := by
  obtain ⟨n, hn, h⟩ := goes9 w os
  exact ⟨n + 1, by omega, seg_go (h doneF deadEnd id id) rfl⟩
end Mine
end
section
open PySem PySem.W PyProof.Rows
set_option maxRecDepth 100000
namespace Mine
def P8 (w : World) : Prop := ∀ os : OsState, segRunT treeTable pp w 11 ann0 1 1000 (s7 w os) (piecesOf [stOf 7] env0 cE ⟨30, 0, 30, 8⟩ BB) = some (.next, s8 w os, cE, ⟨31, 0, 31, 6⟩)
theorem p8_ff (w : World) : P8 ((w.withFollow "set-order" false).withFollow "special-get-raises" false) := fun os => by
  rw [Fast.te10110043849684766642, Fast.te14364793385576792824]
  kernel_rfl
theorem p8_tf (w : World) : P8 ((w.withFollow "set-order" true).withFollow "special-get-raises" false) := fun os => by
  rw [Fast.te10110043849684766642, Fast.te14364793385576792824]
  kernel_rfl
theorem p8_ft (w : World) : P8 ((w.withFollow "set-order" false).withFollow "special-get-raises" true) := fun os => by
  rw [Fast.te10110043849684766642, Fast.te14364793385576792824]
  kernel_rfl
theorem p8_tt (w : World) : P8 ((w.withFollow "set-order" true).withFollow "special-get-raises" true) := fun os => by
  rw [Fast.te10110043849684766642, Fast.te14364793385576792824]
  kernel_rfl
theorem p8 (w : World) : P8 w :=
  byRow2 "special-get-raises" (fun w => byRow2 "set-order" (P := fun w => P8 (w.withFollow "special-get-raises" false)) p8_ff p8_tf w)
    (fun w => byRow2 "set-order" (P := fun w => P8 (w.withFollow "special-get-raises" true)) p8_ft p8_tt w) w
theorem p_fin (w : World) (os : OsState) : topRun treeTable pp w 11 ann0 2 (sf w os).abs ⟨doneF .next, cE, ⟨95, 0, 101, 70⟩, BB⟩ = some (sf w os).abs := by
  rw [Fast.te14082659384304107361, Fast.te14364793385576792824]
  kernel_rfl
theorem body_eq : bodyT = [stOf 0, stOf 1, stOf 2, stOf 3, stOf 4, stOf 5, stOf 6] ++ ([stOf 7] ++ ([stOf 8] ++ (stOf 9 :: ([stOf 10, stOf 11, stOf 12, stOf 13, stOf 14, stOf 15, stOf 16, stOf 17, stOf 18] ++ [])))) := by kernel_rfl
theorem run_all (w : World) (os : OsState) : topRun treeTable pp w 11 ann0 21600 ⟨boot_heap w.params, #[], boot_drawn, boot_toks, os⟩ (topStub pp) = some (sf w os).abs := by
  obtain ⟨n, hn, h10⟩ := p10 w os
  have e1 := piece_app (env := env0) (rest := []) (segRun_of (pf w os)) (piece_nil (p_fin w os))
  have e2 := piece_cons h10 e1
  have e3 := piece_app (segRun_of (p9 w os)) e2
  have e4 := piece_app (segRun_of (p8 w os)) e3
  have e5 := piece_app (segRun_of (p7 w os)) e4
  rw [← body_eq] at e5
  have e6 := piece_block (b := bodyT) (segRun_of (p_block w os)) e5
  have e7 := go_top (p_pre w os) e6
  have e8 := topRun_mono (21600 - (12 + (1 + (200 + (1000 + (40 + (n + (300 + 2)))))))) _ _ _ _ e7
  rw [show 12 + (1 + (200 + (1000 + (40 + (n + (300 + 2)))))) + (21600 - (12 + (1 + (200 + (1000 + (40 + (n + (300 + 2)))))))) = 21600 by omega] at e8
  exact e8
end Mine
end
section
open PySem PySem.W PyProof.Rows
set_option maxRecDepth 100000
namespace Mine
abbrev fnO {n : PySem.Str} {a : Arguments} {b : List Stmt} {ds : List Expr} {ret : Option Expr} {tps : List TypeParam} {sc : Scope} {ts : Option Scope} {bd : PySem.Str} {pos : Pos} (i : Nat) (_h : stOf i = .FunctionDef n a b ds ret tps sc ts bd pos) (pm : Value) (c : Addr) : Obj :=
  ⟨.type "function", none, .func { name := n, qualname := n, params := a, body := .stmts b, scope := sc, globals := mainGlobals, closure := [], defaults := .none, kwdefaults := .none, doc := .none, pyModule := pm, annotations := none, code := .ref c, closureTuple := .none, builtins := builtinsNs }, #[]⟩
noncomputable def KK : Params → Frag := fun P => [(nat_lit 2, boot_o_2 P), (nat_lit 3, o3vf P), (nat_lit 20, o20v7 P), (nat_lit 21, fnO 1 rfl (.str (PySem.Str.ofString "cpy313.curses.ascii") 187) 20), (nat_lit 27, o27v7 P), (nat_lit 28, fnO 2 rfl (.str (PySem.Str.ofString "cpy313.curses.ascii") 187) 27), (nat_lit 34, o34v7 P), (nat_lit 35, fnO 3 rfl (.str (PySem.Str.ofString "cpy313.curses.ascii") 187) 34), (nat_lit 41, o41v7 P), (nat_lit 42, fnO 4 rfl (.str (PySem.Str.ofString "cpy313.curses.ascii") 187) 41), (nat_lit 48, o48v7 P), (nat_lit 49, fnO 5 rfl (.str (PySem.Str.ofString "cpy313.curses.ascii") 187) 48), (nat_lit 57, o57v8 P), (nat_lit 66, o66v9 P), (nat_lit 67, fnO 8 rfl (.str (PySem.Str.ofString "cpy313.stringprep") 226) 66), (nat_lit 68, oDict 650 P), (nat_lit 112, o112vf P), (nat_lit 113, fnO 10 rfl (.str (PySem.Str.ofString "cpy313.stringprep") 226) 112), (nat_lit 119, o119vf P), (nat_lit 120, fnO 11 rfl (.str (PySem.Str.ofString "cpy313.stringprep") 226) 119), (nat_lit 126, o126vf P), (nat_lit 127, fnO 13 rfl (.str (PySem.Str.ofString "law_mj0195_01") 2261) 126), (nat_lit 131, o131vf P), (nat_lit 132, fnO 14 rfl (.str (PySem.Str.ofString "law_mj0195_01") 2261) 131), (nat_lit 138, o138vf P), (nat_lit 139, fnO 15 rfl (.str (PySem.Str.ofString "law_mj0195_01") 2261) 138), (nat_lit 145, o145vf P), (nat_lit 146, fnO 16 rfl (.str (PySem.Str.ofString "law_mj0195_01") 2261) 145), (nat_lit 152, o152vf P), (nat_lit 153, fnO 17 rfl (.str (PySem.Str.ofString "law_mj0195_01") 2261) 152), (nat_lit 157, o157vf P), (nat_lit 158, fnO 18 rfl (.str (PySem.Str.ofString "law_mj0195_01") 2261) 157)]
def KA : List Addr := [nat_lit 2, nat_lit 3, nat_lit 20, nat_lit 21, nat_lit 27, nat_lit 28, nat_lit 34, nat_lit 35, nat_lit 41, nat_lit 42, nat_lit 48, nat_lit 49, nat_lit 57, nat_lit 66, nat_lit 67, nat_lit 68, nat_lit 112, nat_lit 113, nat_lit 119, nat_lit 120, nat_lit 126, nat_lit 127, nat_lit 131, nat_lit 132, nat_lit 138, nat_lit 139, nat_lit 145, nat_lit 146, nat_lit 152, nat_lit 153, nat_lit 157, nat_lit 158]
theorem KA_eq (P : Params) : KA = (KK P).map (·.1) := by kernel_rfl
noncomputable def HK : Hook := kHook KK KA KA_eq
def qq : Program := view pp [1, 2, 3, 4, 5, 8, 10, 11, 13, 14, 15, 16, 17, 18]
def loose0 : List PySem.Str := [PySem.Str.ofString "b1_set", PySem.Str.ofString "b3_exceptions"]
def XtO : Shared → Bool := fun s => xlAt qq [] s && recOk [] s
theorem open_eq : opening pp = plainProg pp.main.scope.names := by kernel_rfl
theorem fence_eq (s : Shared) : fenceModules? pp s = some s := by kernel_rfl
theorem size_eq (w : World) : ((boot_heap w.params).isNs mainGlobals && (#[] : Array GenState).size == 0, (boot_heap w.params).objs.size, (boot_heap w.params).nsMap mainGlobals "__annotations__") = (true, 11, ann0) := by kernel_rfl
theorem look1 (w : World) (os : OsState) : (staticsOk (importedModules pp.main.body) (boot_heap w.params) (absHeap (tf w.params) 159 life0) && namesBound pp (absHeap (tf w.params) 159 life0) && gensDone (sf w os).abs && laidKept (boot_heap w.params) (absHeap (tf w.params) 159 life0)) = true := by kernel_rfl
theorem look3 (w : World) (os : OsState) : HK.obs (sf w os).abs = HK.val w := by kernel_rfl
theorem look2 (w : World) (os : OsState) : openSeen qq loose0 (importedModules pp.main.body) XtO true (sf w os).abs = openGood qq loose0 := by
  rw [Fast.te4187177175401517315]
  kernel_rfl
theorem leftO : LeftO pp qq loose0 XtO HK.obs HK.val 40000 :=
  LeftO.of_pieces (H₀ := boot_heap) (H₁ := fun P => absHeap (tf P) 159 life0) (gs₀ := #[]) (gs₁ := #[]) (d₀ := boot_drawn) (d₁ := boot_drawn) (k₀ := boot_toks) (k₁ := 2316) (m₀ := 11) (ann := ann0) (M := 21600)
    (boot_open open_eq rfl fence_eq) size_eq run_all rfl (fun w => funext fun os => Prod.ext (look1 w os) (Prod.ext (look2 w os) (look3 w os)))
end Mine
end
section
open PySem PySem.W PyProof.Rows PySem.Calls PySem.Spec
set_option maxRecDepth 100000
set_option maxHeartbeats 8000000
namespace Mine
abbrev prg : Program := PySem.Challenge.rw_mj0195_01.row.prog
/-- what a call of the def at f comes to: the value alone, the caller's frame and ledger as they were -/
abbrev SpecR (w : World) (f : Addr) (dn un' : Nat) (pre : Prop) (vs : List Value) (R : Tok → Value) : Prop :=
  ∀ (mean : ExcName → Option Value) (mg mb : Str → Option Value) (news : List (Addr × Obj)) (dp un : Nat) (gd : Option (List Code)) (cn : Str) (cs : Scope) (a : Addr) (ccd : Value) (cl : List (Str × Addr)) (outer : List Env) (A₀ : Around) (base h₀ : Heap) (L : Addr) (m : Str → Option Value) (s : Shared) (Q E : Value → Shared → Prop),
    Below A₀ base outer h₀ → Fr h₀ L s.heap m → (KK w.params).In h₀ → News h₀ L s.heap news → Top qq (looseW qq loose0) mean mg mb h₀ → cs.kind = .function →
    pre → dp + dn < recursionLimit → un + un' < cLine →
    (∀ (t : Tok) (h' : Heap) (tk' : Nat), Fr h₀ L h' m → News h₀ L h' news → Q (R t) { s with heap := h', toks := tk' }) →
      wpAny (model prg w) (ktrTop dp un gd cn cs L a ccd cl outer) (call (.ref f) vs) Q E s
theorem for_fill : PySem.Challenge.rw_mj0195_01 = PySem.Challenge.rw_mj0195_01 ∧ KK = KK := ⟨rfl, rfl⟩
end Mine
namespace Mine
theorem SpecR.use {w : World} {f : Addr} {dn un' : Nat} {pre : Prop} {vs : List Value} {R : Tok → Value} (S : SpecR w f dn un' pre vs R)
    {mean : ExcName → Option Value} {mg mb : Str → Option Value} {news : List (Addr × Obj)} {dp un : Nat} {gd : Option (List Code)} {cn : Str} {cs : Scope} {a : Addr} {ccd : Value} {cl : List (Str × Addr)} {outer : List Env} {A₀ : Around} {base h₀ : Heap} {L : Addr} {m : Str → Option Value} {s : Shared} {Q E : Value → Shared → Prop}
    (B : Below A₀ base outer h₀) (F : Fr h₀ L s.heap m) (X : (KK w.params).In h₀) (N : News h₀ L s.heap news) (T : Top qq (looseW qq loose0) mean mg mb h₀) (hk : cs.kind = .function)
    (hp : pre) (hd : dp + dn < recursionLimit) (hu : un + un' < cLine)
    (hret : ∀ (t : Tok) (h' : Heap) (tk' : Nat), Fr h₀ L h' m → News h₀ L h' news → Q (R t) { s with heap := h', toks := tk' }) :
      wpAny (model prg w) (ktrTop dp un gd cn cs L a ccd cl outer) (call (.ref f) vs) Q E s :=
  S mean mg mb news dp un gd cn cs a ccd cl outer A₀ base h₀ L m s Q E B F X N T hk hp hd hu hret
end Mine
end
section
open PySem PySem.W PyProof.Rows PySem.Calls PySem.Spec
set_option maxRecDepth 100000
set_option maxHeartbeats 8000000
namespace Mine
theorem c11 (w : World) (x : PySem.Str) (t : Tok) : SpecR w (nat_lit 120) 1 8 True [.str x t] (fun _ => .bool (x == PySem.Str.ofString " ")) := by
  have hfill := for_fill; revert hfill; k_fill; intro _
  intro mean mg mb news dp un gd cn cs a ccd cl outer A₀ base h₀ L m s Q E B F X N T hk hpre hdp hun hret
  refine wpAny_call ?_
  k_dflt cell_enter
  k_steps
  all_goals cb_end hret
theorem ctoi_s (w : World) (c : Nat) (t : Tok) : SpecR w (nat_lit 21) 1 8 True [.str ⟨#[c]⟩ t] (fun t => .int c t) := by
  have hfill := for_fill; revert hfill; k_fill; intro _
  intro mean mg mb news dp un gd cn cs a ccd cl outer A₀ base h₀ L m s Q E B F X N T hk hpre hdp hun hret
  refine wpAny_call ?_
  k_dflt cell_enter
  k_steps
  all_goals cb_end hret
theorem ctoi_i (w : World) (i : Int) (t : Tok) : SpecR w (nat_lit 21) 1 8 True [.int i t] (fun t => .int i t) := by
  have hfill := for_fill; revert hfill; k_fill; intro _
  intro mean mg mb news dp un gd cn cs a ccd cl outer A₀ base h₀ L m s Q E B F X N T hk hpre hdp hun hret
  refine wpAny_call ?_
  k_dflt cell_enter
  k_steps
  all_goals cb_end hret
section
variable {prog : Program} {w : World} {A : Around} {E : Value → Shared → Prop} {s : Shared} {t u : Tok} {Q : Value → Shared → Prop} {c : Nat}
theorem bitAnd_nat (a b : Nat) : Builtin.bitAnd (a : Int) (b : Int) = ((a &&& b : Nat) : Int) := by
  unfold Builtin.bitAnd
  rw [decide_eq_true (Int.natCast_nonneg a), decide_eq_true (Int.natCast_nonneg b)]
  simp only [Int.toNat_natCast]
theorem bitOr_nat (a b : Nat) : Builtin.bitOr (a : Int) (b : Int) = ((a ||| b : Nat) : Int) := by
  unfold Builtin.bitOr Builtin.bitAnd Builtin.bitNot
  have h1 : ¬ (0 ≤ (-(a : Int) - 1)) := by omega
  have h2 : ¬ (0 ≤ (-(b : Int) - 1)) := by omega
  rw [decide_eq_false h1, decide_eq_false h2]
  have e1 : (-(-(a : Int) - 1) - 1).toNat = a := by omega
  have e2 : (-(-(b : Int) - 1) - 1).toNat = b := by omega
  dsimp only
  rw [e1, e2]
  omega
theorem and31 (h : Q (.int ((c % 32 : Nat) : Int) s.toks) { s with toks := s.toks + 1 }) : wpAny (model prog w) A (binaryOp .BitAnd (.int (c : Int) t) (.int 31 u)) Q E s :=
  and_int (by
    have e : Builtin.bitAnd (c : Int) 31 = ((c % 32 : Nat) : Int) := (bitAnd_nat c 31).trans (by rw [show (31 : Nat) = 2 ^ 5 - 1 from rfl, Nat.and_two_pow_sub_one_eq_mod])
    rw [e]; exact h)
theorem and127 (h : Q (.int ((c % 128 : Nat) : Int) s.toks) { s with toks := s.toks + 1 }) : wpAny (model prog w) A (binaryOp .BitAnd (.int (c : Int) t) (.int 127 u)) Q E s :=
  and_int (by
    have e : Builtin.bitAnd (c : Int) 127 = ((c % 128 : Nat) : Int) := (bitAnd_nat c 127).trans (by rw [show (127 : Nat) = 2 ^ 7 - 1 from rfl, Nat.and_two_pow_sub_one_eq_mod])
    rw [e]; exact h)
theorem nat_and128 : ∀ c : Nat, c < 256 → c &&& 128 = c / 128 * 128 := by decide +kernel
theorem nat_or128 : ∀ c : Nat, c < 128 → c ||| 128 = c + 128 := by decide +kernel
theorem and128 (hc : c < 256) (h : Q (.int ((c / 128 * 128 : Nat) : Int) s.toks) { s with toks := s.toks + 1 }) : wpAny (model prog w) A (binaryOp .BitAnd (.int (c : Int) t) (.int 128 u)) Q E s :=
  and_int (by
    have e : Builtin.bitAnd (c : Int) 128 = ((c / 128 * 128 : Nat) : Int) := (bitAnd_nat c 128).trans (by rw [nat_and128 c hc])
    rw [e]; exact h)
theorem or128 (hc : c < 128) (h : Q (.int ((c + 128 : Nat) : Int) s.toks) { s with toks := s.toks + 1 }) : wpAny (model prog w) A (binaryOp .BitOr (.int (c : Int) t) (.int 128 u)) Q E s :=
  or_int (by
    have e : Builtin.bitOr (c : Int) 128 = ((c + 128 : Nat) : Int) := (bitOr_nat c 128).trans (by rw [nat_or128 c hc])
    rw [e]; exact h)
theorem or32 (h : Q (.int ((c ||| 32 : Nat) : Int) s.toks) { s with toks := s.toks + 1 }) : wpAny (model prog w) A (binaryOp .BitOr (.int (c : Int) t) (.int 32 u)) Q E s :=
  or_int (by rw [show Builtin.bitOr (c : Int) 32 = ((c ||| 32 : Nat) : Int) from bitOr_nat c 32]; exact h)
theorem chrN (hc : c ≤ 1114111) (h : Q (.str ⟨#[c]⟩ s.toks) { s with toks := s.toks + 1 }) : wpAny (model prog w) A (call (.builtin "chr") [.int (c : Int) t]) Q E s :=
  chr_of_range (by omega) (by omega) h
end
local macro_rules | `(tactic| walk_at "binaryOp BitAnd int int") => `(tactic| first | refine and31 ?_ | refine and127 ?_ | refine and128 (by omega) ?_)
local macro_rules | `(tactic| walk_at "binaryOp BitOr int int") => `(tactic| first | refine or128 (by omega) ?_ | refine or32 ?_)
local macro_rules | `(tactic| walk_at "call builtin:chr") => `(tactic| refine chrN (by omega) ?_)
local macro_rules | `(tactic| walk_at "call ref") => `(tactic| (k_here; k_dflt (first
  | (refine' SpecR.use (ctoi_s _ _ _) ?k1 ?k2 ?k3 ?k4 ?k5 ?kK ?kp ?kd ?ku ?_; (case k1 => k_asm); (case k2 => k_asm); (case k3 => k_asm); (case k4 => k_asm); (case k5 => k_asm); (case kK => first | exact rfl | assumption); (case kp => trivial); (case kd => ktr_room); (case ku => ktr_units); intro t9 h9 tk9 F9 N9; (try dsimp only); (try k_fold))
  | (refine' SpecR.use (ctoi_i _ _ _) ?k1 ?k2 ?k3 ?k4 ?k5 ?kK ?kp ?kd ?ku ?_; (case k1 => k_asm); (case k2 => k_asm); (case k3 => k_asm); (case k4 => k_asm); (case k5 => k_asm); (case kK => first | exact rfl | assumption); (case kp => trivial); (case kd => ktr_room); (case ku => ktr_units); intro t9 h9 tk9 F9 N9; (try dsimp only); (try k_fold)))))
theorem ctrl_s (w : World) (c : Nat) (t : Tok) : SpecR w (nat_lit 35) 2 16 True [.str ⟨#[c]⟩ t] (fun t => .str ⟨#[c % 32]⟩ t) := by
  have hfill := for_fill; revert hfill; k_fill; intro _
  intro mean mg mb news dp un gd cn cs a ccd cl outer A₀ base h₀ L m s Q E B F X N T hk hpre hdp hun hret
  refine wpAny_call ?_
  k_dflt cell_enter
  k_steps
  all_goals cb_end hret
theorem alt_s (w : World) (c : Nat) (t : Tok) : SpecR w (nat_lit 42) 2 16 (c < 128) [.str ⟨#[c]⟩ t] (fun t => .str ⟨#[c + 128]⟩ t) := by
  have hfill := for_fill; revert hfill; k_fill; intro _
  intro mean mg mb news dp un gd cn cs a ccd cl outer A₀ base h₀ L m s Q E B F X N T hk hpre hdp hun hret
  refine wpAny_call ?_
  k_dflt cell_enter
  k_steps
  all_goals cb_end hret
theorem isprint_i (w : World) (i : Int) (t : Tok) : SpecR w (nat_lit 28) 2 16 True [.int i t] (fun _ => .bool (decide (32 ≤ i) && decide (i ≤ 126))) := by
  have hfill := for_fill; revert hfill; k_fill; intro _
  intro mean mg mb news dp un gd cn cs a ccd cl outer A₀ base h₀ L m s Q E B F X N T hk hpre hdp hun hret
  refine wpAny_call ?_
  k_dflt cell_enter
  k_steps
  all_goals cb_end hret
end Mine
end
section
open PySem PySem.W PyProof.Rows PySem.Calls PySem.Spec
set_option maxRecDepth 100000
set_option maxHeartbeats 8000000
namespace Mine
def unctrlF (c : Nat) : List Nat := (if 128 ≤ c then [33] else []) ++ (if c = 127 then [94, 63] else if 32 ≤ c % 128 ∧ c % 128 ≤ 126 then [c % 128] else [94, (c % 128 ||| 32) + 32])
local macro_rules | `(tactic| walk_at "binaryOp BitAnd int int") => `(tactic| first | refine and31 ?_ | refine and127 ?_ | refine and128 (by omega) ?_)
local macro_rules | `(tactic| walk_at "binaryOp BitOr int int") => `(tactic| first | refine or128 (by omega) ?_ | refine or32 ?_)
local macro_rules | `(tactic| walk_at "none such") => `(tactic| skip)
theorem or32_le : ∀ c : Nat, c < 128 → (c ||| 32) ≤ 127 := by decide +kernel
theorem chrOr {prog : Program} {w : World} {A : Around} {E : Value → Shared → Prop} {s : Shared} {t : Tok} {Q : Value → Shared → Prop} {n : Nat} (hn : n < 128) (h : Q (.str ⟨#[(n ||| 32) + 32]⟩ s.toks) { s with toks := s.toks + 1 }) :
    wpAny (model prog w) A (call (.builtin "chr") [.int (((n ||| 32 : Nat) : Int) + 32) t]) Q E s := by
  have := or32_le n hn
  exact chr_of_range (by omega) (by omega) h
local macro_rules | `(tactic| walk_at "call builtin:chr") => `(tactic| first | refine chrN (by omega) ?_ | refine chrOr (Nat.mod_lt _ (by decide)) ?_)
local macro_rules | `(tactic| walk_at "call ref") => `(tactic| (k_here; k_dflt (first
  | (refine' SpecR.use (ctoi_s _ _ _) ?k1 ?k2 ?k3 ?k4 ?k5 ?kK ?kp ?kd ?ku ?_; (case k1 => k_asm); (case k2 => k_asm); (case k3 => k_asm); (case k4 => k_asm); (case k5 => k_asm); (case kK => first | exact rfl | assumption); (case kp => trivial); (case kd => ktr_room); (case ku => ktr_units); intro t9 h9 tk9 F9 N9; (try dsimp only); (try k_fold))
  | (refine' SpecR.use (isprint_i _ _ _) ?k1 ?k2 ?k3 ?k4 ?k5 ?kK ?kp ?kd ?ku ?_; (case k1 => k_asm); (case k2 => k_asm); (case k3 => k_asm); (case k4 => k_asm); (case k5 => k_asm); (case kK => first | exact rfl | assumption); (case kp => trivial); (case kd => ktr_room); (case ku => ktr_units); intro t9 h9 tk9 F9 N9; (try dsimp only); (try k_fold)))))
theorem s_bang : PySem.Str.ofString "!" = ⟨#[33]⟩ := by decide +kernel
theorem s_hat : PySem.Str.ofString "^" = ⟨#[94]⟩ := by decide +kernel
theorem s_hatq : PySem.Str.ofString "^?" = ⟨#[94, 63]⟩ := by decide +kernel
theorem s_app (a b : Array Nat) : ((⟨a⟩ : PySem.Str) ++ (⟨b⟩ : PySem.Str)) = ⟨a ++ b⟩ := rfl
section
variable {c : Nat}
theorem u1 (h1 : (c : Int) = 127) (h2 : ((c / 128 * 128 : Nat) : Int) ≠ 0) : False := by omega
theorem u2 (h1 : (c : Int) = 127) : PySem.Str.ofString "^?" = ⟨(unctrlF c).toArray⟩ := by
  obtain rfl : c = 127 := by omega
  decide +kernel
theorem pr_yes (h : (decide (32 ≤ ((c % 128 : Nat) : Int)) && decide (((c % 128 : Nat) : Int) ≤ 126)) = true) : 32 ≤ c % 128 ∧ c % 128 ≤ 126 := by
  simp at h; omega
theorem pr_no (h : (decide (32 ≤ ((c % 128 : Nat) : Int)) && decide (((c % 128 : Nat) : Int) ≤ 126)) = false) : ¬ (32 ≤ c % 128 ∧ c % 128 ≤ 126) := by
  simp at h; omega
theorem u3 (h1 : (c : Int) ≠ 127) (h : (decide (32 ≤ ((c % 128 : Nat) : Int)) && decide (((c % 128 : Nat) : Int) ≤ 126)) = true) (h2 : ((c / 128 * 128 : Nat) : Int) ≠ 0) : PySem.Str.ofString "!" ++ (⟨#[c % 128]⟩ : PySem.Str) = ⟨(unctrlF c).toArray⟩ := by
  rw [s_bang, s_app]; unfold unctrlF
  rw [if_pos (by omega), if_neg (by omega), if_pos (pr_yes h)]; rfl
theorem u4 (h1 : (c : Int) ≠ 127) (h : (decide (32 ≤ ((c % 128 : Nat) : Int)) && decide (((c % 128 : Nat) : Int) ≤ 126)) = true) (h2 : ((c / 128 * 128 : Nat) : Int) = 0) : (⟨#[c % 128]⟩ : PySem.Str) = ⟨(unctrlF c).toArray⟩ := by
  unfold unctrlF
  rw [if_neg (by omega), if_neg (by omega), if_pos (pr_yes h)]; rfl
theorem u5 (h1 : (c : Int) ≠ 127) (h : (decide (32 ≤ ((c % 128 : Nat) : Int)) && decide (((c % 128 : Nat) : Int) ≤ 126)) = false) (h2 : ((c / 128 * 128 : Nat) : Int) ≠ 0) : PySem.Str.ofString "!" ++ (PySem.Str.ofString "^" ++ (⟨#[(c % 128 ||| 32) + 32]⟩ : PySem.Str)) = ⟨(unctrlF c).toArray⟩ := by
  rw [s_bang, s_hat, s_app, s_app]; unfold unctrlF
  rw [if_pos (by omega), if_neg (by omega), if_neg (pr_no h)]; rfl
theorem u6 (h1 : (c : Int) ≠ 127) (h : (decide (32 ≤ ((c % 128 : Nat) : Int)) && decide (((c % 128 : Nat) : Int) ≤ 126)) = false) (h2 : ((c / 128 * 128 : Nat) : Int) = 0) : PySem.Str.ofString "^" ++ (⟨#[(c % 128 ||| 32) + 32]⟩ : PySem.Str) = ⟨(unctrlF c).toArray⟩ := by
  rw [s_hat, s_app]; unfold unctrlF
  rw [if_neg (by omega), if_neg (by omega), if_neg (pr_no h)]; rfl
end
theorem unctrl_s (w : World) (c : Nat) (t : Tok) : SpecR w (nat_lit 49) 3 24 (c < 256) [.str ⟨#[c]⟩ t] (fun t => .str ⟨(unctrlF c).toArray⟩ t) := by
  have hfill := for_fill; revert hfill; k_fill; intro _
  intro mean mg mb news dp un gd cn cs a ccd cl outer A₀ base h₀ L m s Q E B F X N T hk hpre hdp hun hret
  refine wpAny_call ?_
  k_dflt cell_enter
  k_steps
  all_goals (refine cb_retS hret ?_ (by k_asm) (by k_asm); first
    | exact (u1 (by assumption) (by assumption)).elim
    | exact u2 (by assumption)
    | exact u3 (by assumption) (by assumption) (by assumption)
    | exact u4 (by assumption) (by assumption) (by assumption)
    | exact u5 (by assumption) (by assumption) (by assumption)
    | exact u6 (by assumption) (by assumption) (by assumption))
end Mine
end
section
open PySem PySem.W PyProof.Rows PySem.Calls PySem.Spec
set_option maxRecDepth 100000
set_option maxHeartbeats 8000000
namespace Mine
def setEls : Data → List (Int × Value)
  | .set es _ _ => es.toList
  | _ => []
def b1Els (P : Params) : List (Int × Value) := setEls (o57v8 P).data
def b1B (c : Nat) : Bool := [173, 847, 6150, 6155, 6156, 6157, 8203, 8204, 8205, 8288, 65279].contains c || (65024 ≤ c && c < 65040)
def b1S (P : Params) (k : Int) : Bool := (b1Els P).any fun e => Value.isInt k e.2
theorem hashInt_small {k : Int} (h0 : 0 ≤ k) (h1 : k < 2 ^ 60) : hashInt k = k := by
  have e : rawHash k = k := by
    obtain ⟨n, rfl⟩ := Int.eq_ofNat_of_zero_le h0
    have hm : ((Int.natAbs (n : Int) : Int) % ((2 ^ 61 - 1 : Nat) : Int)) = (n : Int) := by
      rw [Int.natAbs_natCast]; exact Int.emod_eq_of_lt (by omega) (by omega)
    simp only [rawHash]
    have h2 : ¬ ((n : Int) < 0) := by omega
    have h3 : ((n : Int) == -1) = false := by rw [beq_eq_false_iff_ne]; omega
    rw [hm, if_neg h2, h3]; rfl
  unfold hashInt
  rw [e]
  have h3 : (k == -1) = false := by rw [beq_eq_false_iff_ne]; omega
  rw [h3]; rfl
def elOK (h : Int) (v : Value) : Bool := match v with
  | .int k _ => k == h && decide (0 ≤ k) && decide (k < 2 ^ 60)
  | _ => false
theorem elOK_of {h : Int} {v : Value} (x : elOK h v = true) : ∃ t, v = .int h t ∧ hashInt h = h := by
  unfold elOK at x
  split at x
  · simp only [Bool.and_eq_true, beq_iff_eq, decide_eq_true_eq] at x
    obtain ⟨⟨rfl, h0⟩, h1⟩ := x
    exact ⟨_, rfl, hashInt_small h0 h1⟩
  · cases x
theorem b1_ok (P : Params) : ((b1Els P).all fun e => elOK e.1 e.2) = true := by kernel_rfl
theorem set57 (prog : Program) (w : World) (P : Params) : (o57v8 P).SetObjOf (intKind prog w) (b1S P) 27 := by
  refine ⟨⟨rfl, rfl, rfl⟩, _, _, _, rfl, fun e he => ?_, fun k => ?_, rfl, rfl⟩
  · obtain ⟨t, hv, hh⟩ := elOK_of (List.all_eq_true.mp (b1_ok P) e he)
    refine ⟨⟨e.1, ?_, hh.symm⟩, ?_⟩
    · show Value.isInt e.1 e.2 = true
      rw [hv]; simp [Value.isInt]
    · rw [hv]; rfl
  · show ((b1Els P).any _) = true ↔ _
    rw [List.any_eq_true]; rfl
theorem b1S_eq (P : Params) (c : Nat) : b1S P (c : Int) = b1B c := by
  have e : b1S P (c : Int) = ([65024, 65025, 65026, 65027, 65028, 65029, 6150, 65030, 65031, 65032, 65033, 6155, 6156, 6157, 8203, 8204, 8205, 65034, 65035, 65036, 65037, 65038, 65039, 173, 847, 8288, 65279].any fun k : Int => k == (c : Int)) := rfl
  rw [e, Bool.eq_iff_iff]
  simp only [List.any_cons, List.any_nil, Bool.or_eq_true, beq_iff_eq, b1B, List.contains_cons, List.contains_nil, Bool.and_eq_true, decide_eq_true_eq, Bool.or_false]
  omega
theorem in57 {w : World} {A : Around} {E : Value → Shared → Prop} {s : Shared} {Q : Value → Shared → Prop} {t : Tok} {c : Nat} (X : (KK w.params).In s.heap) (h : Q (.bool (b1B c)) { s with toks := s.toks + 1 }) :
    wpAny (model prg w) A (compareOp .In (.int (c : Int) t) (.ref (nat_lit 57))) Q E s := by
  have hg : s.heap.get? 57 = some (o57v8 w.params) := X _ _ rfl
  have hS := (set57 prg w w.params).setOf hg (by decide)
  refine wpAny_inSet_of (k := (c : Int)) (by simp [intKind, Value.isInt]) rfl hS ?_
  rw [b1S_eq]; exact h
local macro_rules | `(tactic| walk_at "compareOp In int ref") => `(tactic| (k_here; k_dflt (refine' in57 ?X ?_; (case X => k_in))))
theorem b1_s (w : World) (c : Nat) (t : Tok) : SpecR w (nat_lit 67) 1 8 True [.str ⟨#[c]⟩ t] (fun _ => .bool (b1B c)) := by
  have hfill := for_fill; revert hfill; k_fill; intro _
  intro mean mg mb news dp un gd cn cs a ccd cl outer A₀ base h₀ L m s Q E B F X N T hk hpre hdp hun hret
  refine wpAny_call ?_
  k_dflt cell_enter
  k_steps
  all_goals cb_end hret
end Mine
end
section
open PySem PySem.W PyProof.Rows PySem.Calls PySem.Spec
set_option maxRecDepth 100000
set_option maxHeartbeats 8000000
namespace Mine
theorem ents_all : (ents.all fun e => elOK e.hash e.key) = true := by kernel_rfl
def b3V (c : Nat) : Option Value := findBy Value.isInt (⟨ents⟩ : Array DictEntry) (c : Int)
def b3L (c : Nat) : List DictEntry → Option Value
  | [] => none
  | e :: r => match e.hash with
    | .ofNat n => if Nat.beq n c then some e.val else b3L c r
    | .negSucc _ => b3L c r
theorem b3L_eq (c : Nat) : ∀ l : List DictEntry, (l.all fun e => elOK e.hash e.key) = true → (l.find? fun e => Value.isInt (c : Int) e.key).map (·.val) = b3L c l
  | [], _ => rfl
  | e :: r, h => by
    simp only [List.all_cons, Bool.and_eq_true] at h
    obtain ⟨t, hv, _⟩ := elOK_of h.1
    have ih := b3L_eq c r h.2
    rw [List.find?_cons]
    have e1 : Value.isInt (c : Int) e.key = decide (e.hash = (c : Int)) := by rw [hv]; simp only [Value.isInt]; rfl
    rw [e1]
    unfold b3L
    cases hh : e.hash with
    | ofNat n =>
      dsimp only
      by_cases q : n = c
      · subst q
        rw [Nat.beq_refl, if_pos rfl, decide_eq_true (by rfl)]
        rfl
      · rw [if_neg (by rw [Nat.beq_eq]; exact q), decide_eq_false (by intro z; exact q (Int.ofNat.inj z))]
        exact ih
    | negSucc n =>
      dsimp only
      rw [decide_eq_false (by intro z; cases z)]
      exact ih
theorem b3V_eq (c : Nat) : b3V c = b3L c ents := by
  unfold b3V findBy
  rw [← Array.find?_toList]
  exact b3L_eq c ents ents_all
theorem ents_len : ents.length = 650 := by kernel_rfl
theorem take_ents : ents.take 650 = ents := List.take_of_length_le (Nat.le_of_eq ents_len)
theorem map68 (prog : Program) (w : World) {h : Heap} (hg : h.get? 68 = some (oDict 650 w.params)) : h.MapOf (intKind prog w) 68 (fun k => findBy Value.isInt (⟨ents⟩ : Array DictEntry) k) := by
  refine ⟨_, ⟨ents⟩, 650, hg, ⟨rfl, rfl, rfl⟩, ?_, ?_, fun k => rfl⟩
  · show Data.dict ⟨ents.take 650⟩ 650 = _
    rw [take_ents]
  · intro e he
    have he' : e ∈ ents := by simpa using he
    obtain ⟨t, hv, hh⟩ := elOK_of (List.all_eq_true.mp ents_all e he')
    refine ⟨e.hash, ?_, hh.symm⟩
    show Value.isInt e.hash e.key = true
    rw [hv]; simp [Value.isInt]
/-- lower case, ASCII -/
def lowA (c : Nat) : Nat := if 65 ≤ c ∧ c ≤ 90 then c + 32 else c
theorem b3_low : (ents.all fun e => decide (128 ≤ e.hash)) = true := by kernel_rfl
theorem b3V_low {c : Nat} (h : c < 128) : b3V c = none := by
  rw [b3V_eq]
  have all := List.all_eq_true.mp b3_low
  revert all
  generalize ents = l
  intro all
  induction l with
  | nil => rfl
  | cons e r ih =>
    have h1 := all e List.mem_cons_self
    simp only [decide_eq_true_eq] at h1
    unfold b3L
    cases hh : e.hash with
    | ofNat n =>
      dsimp only
      have h1 : (128 : Int) ≤ Int.ofNat n := hh ▸ h1
      rw [if_neg (by rw [Nat.beq_eq]; have : (128 : Int) ≤ (n : Int) := h1; omega)]
      exact ih fun x hx => all x (List.mem_cons_of_mem _ hx)
    | negSucc n => dsimp only; exact ih fun x hx => all x (List.mem_cons_of_mem _ hx)
def mathB (c : Nat) : Bool := decide (119808 ≤ c) && decide (c < 120458) && decide ((c - 119808) % 52 < 26) && [0, 1, 2, 4, 7, 8, 9, 10, 11, 12].contains ((c - 119808) / 52)
/-- what table B.3 makes of a mathematical capital -/
@[irreducible] def mathC (c : Nat) : Nat := 97 + (c - 119808) % 52
def strIs (v : Option Value) (n : Nat) : Bool := match v with
  | some (.str x _) => x == ⟨#[n]⟩
  | _ => false
/-- one pass over the table's end: each mathematical capital from c on stands at the head when its turn comes -/
def scanM : Nat → Nat → List DictEntry → Bool
  | 0, _, _ => true
  | _ + 1, _, [] => false
  | f + 1, c, e :: r => match e.hash with
    | .ofNat n => if Nat.beq n c then (!mathB c || strIs (some e.val) (mathC c)) && scanM f (c + 1) r else !mathB c && scanM f (c + 1) (e :: r)
    | .negSucc _ => false
theorem scanM_at : ∀ (f c : Nat) (l : List DictEntry), scanM f c l = true → ∀ k, c ≤ k → k < c + f → mathB k = true → strIs (b3L k l) (mathC k) = true
  | 0, c, l, _, k, h1, h2, _ => by omega
  | f + 1, c, [], h, _, _, _, _ => absurd h Bool.false_ne_true
  | f + 1, c, e :: r, h, k, h1, h2, hm => by
    unfold scanM at h
    cases hh : e.hash with
    | negSucc n => rw [hh] at h; exact absurd h Bool.false_ne_true
    | ofNat n =>
      rw [hh] at h
      dsimp only at h
      by_cases q : n = c
      · subst q
        rw [if_pos (Nat.beq_refl n), Bool.and_eq_true] at h
        unfold b3L
        rw [hh]
        dsimp only
        by_cases e1 : n = k
        · subst e1
          rw [if_pos (Nat.beq_refl n)]
          have := h.1
          rw [hm] at this
          simpa using this
        · rw [if_neg (by rw [Nat.beq_eq]; exact e1)]
          exact scanM_at f (n + 1) r h.2 k (by omega) (by omega) hm
      · rw [if_neg (by rw [Nat.beq_eq]; exact q), Bool.and_eq_true] at h
        have hk : k ≠ c := by
          rintro rfl
          have := h.1
          rw [hm] at this
          simp at this
        exact scanM_at f (c + 1) (e :: r) h.2 k (by omega) (by omega) hm
theorem b3L_skip {k : Nat} : ∀ (l r : List DictEntry), (l.all fun e => decide (e.hash < 119808)) = true → 119808 ≤ k → b3L k (l ++ r) = b3L k r
  | [], _, _, _ => rfl
  | e :: l, r, h, hk => by
    rw [List.all_cons, Bool.and_eq_true, decide_eq_true_eq] at h
    rw [List.cons_append, b3L]
    cases hh : e.hash with
    | ofNat n =>
      dsimp only
      have h1 : Int.ofNat n < 119808 := hh ▸ h.1
      rw [if_neg (by rw [Nat.beq_eq]; have : (n : Int) < 119808 := h1; omega)]
      exact b3L_skip l r h.2 hk
    | negSucc n => dsimp only; exact b3L_skip l r h.2 hk
theorem b3_front : ((ents.take 202).all fun e => decide (e.hash < 119808)) = true := by kernel_rfl
theorem b3_math : scanM 650 119808 (ents.drop 202) = true := by kernel_rfl
theorem b3V_math {c : Nat} (h : mathB c = true) : ∃ t, b3V c = some (.str ⟨#[mathC c]⟩ t) := by
  have h' := h
  simp only [mathB, Bool.and_eq_true, decide_eq_true_eq] at h'
  have this := scanM_at 650 119808 _ b3_math c (by omega) (by omega) h
  rw [← b3L_skip _ (ents.drop 202) b3_front (by omega), List.take_append_drop, ← b3V_eq] at this
  unfold strIs at this
  split at this
  · rename_i x t e
    exact ⟨t, by rw [e, beq_iff_eq.mp this]⟩
  · cases this
section
variable {w : World} {A : Around} {E : Value → Shared → Prop} {s : Shared} {t : Tok} {c : Nat}
theorem method68 {pl : Sem Bool} {Q : Value × List Value → Shared → Prop} (X : (KK w.params).In s.heap) (h : Q (.builtin "dict.get", [.ref (nat_lit 68)]) s) : wpAny (model prg w) A (getMethod (.ref (nat_lit 68)) "get" pl) Q E s := by
  have hm := map68 prg w (h := s.heap) (X _ _ rfl)
  exact getMethod_builtin hm.typeIs PySem.F.plainAttrs_dict PySem.F.slot_dict_get PySem.F.type_dict_get hm.noDict h
theorem get68 {Q : Value → Shared → Prop} (X : (KK w.params).In s.heap) (h : Q ((b3V c).getD .none) { s with toks := s.toks + 1 }) : wpAny (model prg w) A (call (.builtin "dict.get") [.ref (nat_lit 68), .int (c : Int) t]) Q E s := by
  have hm := map68 prg w (h := s.heap) (X _ _ rfl)
  exact call_meetsIn PySem.F.slot_dict_get hm.typeIs PySem.F.entry_dict_get (PySem.F.args_dict_get_2 _ _) (meets_dict_get (intKind prg w) 68 (k := (c : Int)) (by simp [intKind, Value.isInt]) rfl) ⟨_, hm, h⟩
theorem get68_low {Q : Value → Shared → Prop} (hc : c < 128) (X : (KK w.params).In s.heap) (h : Q .none { s with toks := s.toks + 1 }) : wpAny (model prg w) A (call (.builtin "dict.get") [.ref (nat_lit 68), .int (c : Int) t]) Q E s :=
  get68 X (by rw [b3V_low hc]; exact h)
theorem get68_math {Q : Value → Shared → Prop} (hc : mathB c = true) (X : (KK w.params).In s.heap) (h : ∀ t', Q (.str ⟨#[mathC c]⟩ t') { s with toks := s.toks + 1 }) : wpAny (model prg w) A (call (.builtin "dict.get") [.ref (nat_lit 68), .int (c : Int) t]) Q E s := by
  obtain ⟨t', e⟩ := b3V_math hc
  exact get68 X (by rw [e]; exact h t')
end
local macro_rules | `(tactic| walk_at "getMethod ref") => `(tactic| (k_here; k_dflt (refine' method68 ?X ?_; (case X => k_in))))
local macro_rules | `(tactic| walk_at "call builtin:dict.get") => `(tactic| (k_here; k_dflt (first | (refine' get68_low (by assumption) ?X ?_; (case X => k_in)) | (refine' get68_math (by assumption) ?X ?_; (case X => k_in); intro t8))))
theorem map_math (w : World) (c : Nat) (t : Tok) : SpecR w (nat_lit 113) 1 8 (mathB c = true) [.str ⟨#[c]⟩ t] (fun t => .str ⟨#[mathC c]⟩ t) := by
  have hfill := for_fill; revert hfill; k_fill; intro _
  intro mean mg mb news dp un gd cn cs a ccd cl outer A₀ base h₀ L m s Q E B F X N T hk hpre hdp hun hret
  refine wpAny_call ?_
  k_dflt cell_enter
  k_steps
  all_goals cb_end hret
theorem lower_low : ∀ c : Nat, c < 128 → Txt.lower ⟨#[c]⟩ = ⟨#[lowA c]⟩ := by decide +kernel
theorem lowr {prog : Program} {w : World} {A : Around} {E : Value → Shared → Prop} {s : Shared} {Q : Value → Shared → Prop} {t : Tok} {c : Nat} (hc : c < 128) (h : ∀ t' k, Q (.str ⟨#[lowA c]⟩ t') { s with toks := k }) : wpAny (model prog w) A (call (.builtin "str.lower") [.str ⟨#[c]⟩ t]) Q E s :=
  KXw.lower (lower_low c hc) (by rw [lower_low c hc]; rfl) h
local macro_rules | `(tactic| walk_at "call builtin:str.lower") => `(tactic| (k_here; k_dflt (refine' lowr (by assumption) ?_; intro t8 k8)))
theorem map_low (w : World) (c : Nat) (t : Tok) : SpecR w (nat_lit 113) 1 8 (c < 128) [.str ⟨#[c]⟩ t] (fun t => .str ⟨#[lowA c]⟩ t) := by
  have hfill := for_fill; revert hfill; k_fill; intro _
  intro mean mg mb news dp un gd cn cs a ccd cl outer A₀ base h₀ L m s Q E B F X N T hk hpre hdp hun hret
  refine wpAny_call ?_
  k_dflt cell_enter
  k_steps
  all_goals cb_end hret
end Mine
end
section
open PySem PySem.W PyProof.Rows PySem.Calls PySem.Spec
set_option maxRecDepth 100000
set_option maxHeartbeats 8000000
namespace Mine
def menu : List Nat := [0, 1, 2, 4, 7, 8, 9, 10, 11, 12]
def behindC (low way : Nat) : Nat :=
  if low = 127 then (if way % 2 = 0 then 63 else 159)
  else if way = 1 ∧ low < 31 then 96 + low
  else if way = 2 ∧ 0 < low ∧ low < 31 then 32 + low
  else if 2 < way ∧ 0 < low ∧ low < 27 then 119807 + 52 * (menu.getD (way - 3) 0) + low
  else 64 + low
def b1List : List Nat := [173, 847, 6150, 6155, 6156, 6157, 8203, 8204, 8205, 8288, 65279] ++ (List.range 16).map (65024 + ·)
def nothingL (k : Nat) : List Nat := if k = 0 then [] else [b1List.getD (k - 1) 0]
theorem s_q : PySem.Str.ofString "?" = ⟨#[63]⟩ := by decide +kernel
theorem s_9f : PySem.Str.ofString "\u009f" = ⟨#[159]⟩ := by decide +kernel
theorem eq1 {a b : Nat} (h : a = b) : (⟨#[a]⟩ : PySem.Str) = ⟨#[b]⟩ := by rw [h]
theorem menu_le : ∀ k : Nat, 0 ≤ ([0, 1, 2, 4, 7, 8, 9, 10, 11, 12] : List Int).getD k 0 ∧ ([0, 1, 2, 4, 7, 8, 9, 10, 11, 12] : List Int).getD k 0 ≤ 12 ∧ ([0, 1, 2, 4, 7, 8, 9, 10, 11, 12] : List Int).getD k 0 = ((menu.getD k 0 : Nat) : Int) := by
  intro k
  by_cases h : k < 10
  · revert k; decide +kernel
  · rw [List.getD_eq_getElem?_getD, List.getElem?_eq_none (by simp; omega), List.getD_eq_getElem?_getD, List.getElem?_eq_none (by simp [menu]; omega)]; decide
theorem chrM {prog : Program} {w : World} {A : Around} {E : Value → Shared → Prop} {s : Shared} {Q : Value → Shared → Prop} {t : Tok} {k : Nat} {low : Int} (h0 : 0 ≤ low) (h1 : low < 128) (h : Q (.str ⟨#[119807 + 52 * menu.getD k 0 + low.toNat]⟩ s.toks) { s with toks := s.toks + 1 }) :
    wpAny (model prog w) A (call (.builtin "chr") [.int (119807 + 52 * ([0, 1, 2, 4, 7, 8, 9, 10, 11, 12] : List Int).getD k 0 + low) t]) Q E s := by
  obtain ⟨a, b, c⟩ := menu_le k
  refine chr_of_range (by omega) (by omega) ?_
  have e : (119807 + 52 * ([0, 1, 2, 4, 7, 8, 9, 10, 11, 12] : List Int).getD k 0 + low).toNat = 119807 + 52 * menu.getD k 0 + low.toNat := by rw [c]; omega
  rw [e]; exact h
local macro_rules | `(tactic| walk_at "call builtin:chr") => `(tactic| first | refine chr_of_range (by omega) (by omega) ?_ | refine chrM (by assumption) (by assumption) ?_)
theorem behind_s (w : World) (low way : Int) (t u : Tok) : SpecR w (nat_lit 127) 1 8 (0 ≤ low ∧ low < 128 ∧ 0 ≤ way ∧ way < 13) [.int low t, .int way u] (fun t => .str ⟨#[behindC low.toNat way.toNat]⟩ t) := by
  have hfill := for_fill; revert hfill; k_fill; intro _
  intro mean mg mb news dp un gd cn cs a ccd cl outer A₀ base h₀ L m s Q E B F X N T hk hpre hdp hun hret
  obtain ⟨hp1, hp2, hp3, hp4⟩ := hpre
  refine wpAny_call ?_
  k_dflt cell_enter
  k_steps
  all_goals (refine cb_retS hret ?_ (by k_asm) (by first | k_asm | (refine' cb_drop ?cbN ?cbS; (case cbN => assumption); (case cbS => kcj_all))); (try rw [s_q]); (try rw [s_9f]); refine eq1 ?_)
  all_goals (have hfm := Int.fmod_eq_emod_of_nonneg way (by omega : (0 : Int) ≤ 2))
  all_goals (have hz : (way - 3).toNat = way.toNat - 3 := by omega)
  all_goals (try rw [hz])
  all_goals (unfold behindC; (repeat' split) <;> omega)
end Mine
end
section
open PySem PySem.W PyProof.Rows PySem.Calls PySem.Spec
set_option maxRecDepth 100000
set_option maxHeartbeats 8000000
namespace Mine
theorem item_at {prog : Program} {w : World} {A : Around} {E : Value → Shared → Prop} {s : Shared} {value slice : PySem.Expr} {l : Addr} {vs : List Value} {ns : List Int} {k : Int} {u : Tok} {Q : Value → Shared → Prop}
    (hl : s.heap.IsList l vs.toArray) (hi : IntsAre vs ns) (h0 : 0 ≤ k) (h1 : k < (ns.length : Int)) (hfit : ns.length < 1000) (h : ∀ t, Q (.int (ns.getD k.toNat 0) t) s)
    (hs : subscripted slice false (.ref l) (.int k u) = operate [.ref l, .int k u] (getItem (.ref l) (.int k u)) := by with_unfolding_all rfl) :
    wpAny (model prog w) A (subscriptTail value slice (.ref l) (.int k u)) Q E s := by
  have hlen := hi.length
  obtain ⟨v, hv⟩ : ∃ v, vs[k.toNat]? = some v := ⟨vs[k.toNat]'(by omega), List.getElem?_eq_getElem _⟩
  obtain ⟨x, t, e, hx⟩ := IntsAre.at hi k.toNat v hv
  have e2 : ns.getD k.toNat 0 = x := by rw [List.getD_eq_getElem?_getD, hx]; rfl
  have hq : Q v s := by rw [e, ← e2]; exact h t
  exact tail_any hl.typeIs slot_list_getitem.lookup (wpAny_getItem_list hl h0 (by omega) (by simpa using hv) hq) hs
def b1I : List Int := ([173, 847, 6150, 6155, 6156, 6157, 8203, 8204, 8205, 8288, 65279] : List Int) ++ List.map (fun k' => 65024 + k') (rangeKs 0 ((16 : Int) - 0).toNat)
theorem b1I_len : b1I.length = 27 := by decide +kernel
theorem b1I_at : ∀ k : Nat, k < 27 → b1I.getD k 0 = ((b1List.getD k 0 : Nat) : Int) ∧ b1List.getD k 0 ≤ 65279 := by decide +kernel
theorem lt_b1 {n : Int} (h : n < 28) : n - 1 < (((([173, 847, 6150, 6155, 6156, 6157, 8203, 8204, 8205, 8288, 65279] : List Int) ++ List.map (fun k' => 65024 + k') (rangeKs 0 ((16 : Int) - 0).toNat)).length : Nat) : Int) := by
  show n - 1 < ((b1I.length : Nat) : Int)
  rw [b1I_len]; omega
theorem fit_b1 : (([173, 847, 6150, 6155, 6156, 6157, 8203, 8204, 8205, 8288, 65279] : List Int) ++ List.map (fun k' => 65024 + k') (rangeKs 0 ((16 : Int) - 0).toNat)).length < 1000 := by
  show b1I.length < 1000
  rw [b1I_len]; decide
theorem chrB {prog : Program} {w : World} {A : Around} {E : Value → Shared → Prop} {s : Shared} {Q : Value → Shared → Prop} {t : Tok} {n : Int} (h0 : 0 ≤ n) (h1 : n < 28) (h2 : n ≠ 0) (h : Q (.str ⟨(nothingL n.toNat).toArray⟩ s.toks) { s with toks := s.toks + 1 }) :
    wpAny (model prog w) A (call (.builtin "chr") [.int ((([173, 847, 6150, 6155, 6156, 6157, 8203, 8204, 8205, 8288, 65279] : List Int) ++ List.map (fun k' => 65024 + k') (rangeKs 0 ((16 : Int) - 0).toNat)).getD (n - 1).toNat 0) t]) Q E s := by
  show wpAny _ _ (call _ [.int (b1I.getD (n - 1).toNat 0) t]) _ _ _
  obtain ⟨a, b⟩ := b1I_at (n - 1).toNat (by omega)
  rw [a]
  refine chr_of_range (by omega) (by omega) ?_
  have e : nothingL n.toNat = [b1List.getD (n - 1).toNat 0] := by
    unfold nothingL
    rw [if_neg (by omega), show n.toNat - 1 = (n - 1).toNat by omega]
  rw [e] at h
  rw [Int.toNat_natCast]
  exact h
local macro_rules | `(tactic| walk_at "call builtin:chr") => `(tactic| (k_here; k_dflt (refine chrB (by assumption) (by assumption) (by assumption) ?_)))
local macro_rules | `(tactic| walk_at "subscriptTail") => `(tactic| (k_here; k_dflt (refine' item_at ?hl (by assumption) ?h0 ?h1 ?hf ?_ ?hs; (case hl => is_list); (case h0 => omega); (case h1 => exact lt_b1 (by assumption)); (case hf => exact fit_b1); (case hs => with_unfolding_all rfl); intro t8)))
theorem nothing_s (w : World) (n : Int) (t : Tok) : SpecR w (nat_lit 132) 1 8 (0 ≤ n ∧ n < 28) [.int n t] (fun t => .str ⟨(nothingL n.toNat).toArray⟩ t) := by
  have hfill := for_fill; revert hfill; k_fill; intro _
  intro mean mg mb news dp un gd cn cs a ccd cl outer A₀ base h₀ L m s Q E B F X N T hk hpre hdp hun hret
  obtain ⟨hp1, hp2⟩ := hpre
  refine wpAny_call ?_
  k_dflt cell_enter
  k_steps
  · refine cb_retS hret ?_ (by k_asm) (by first | k_asm | (refine' cb_drop ?cbN ?cbS; (case cbN => assumption); (case cbS => kcj_all)))
    have hn : n = 0 := by assumption
    subst hn
    decide +kernel
  · refine cb_retS hret rfl (by k_asm) (by first | k_asm | (refine' cb_drop ?cbN ?cbS; (case cbN => assumption); (case cbS => kcj_all)))
end Mine
end
section
open PySem PySem.W PyProof.Rows PySem.Calls PySem.Spec
set_option maxRecDepth 100000
set_option maxHeartbeats 1000000
namespace Mine
local macro_rules | `(tactic| walk_at "call ref") => `(tactic| (k_here; k_dflt (first
  | (refine' SpecR.use (ctrl_s _ _ _) ?k1 ?k2 ?k3 ?k4 ?k5 ?kK ?kp ?kd ?ku ?_; (case k1 => k_asm); (case k2 => k_asm); (case k3 => k_asm); (case k4 => k_asm); (case k5 => k_asm); (case kK => first | exact rfl | assumption); (case kp => trivial); (case kd => ktr_room); (case ku => ktr_units); intro t9 h9 tk9 F9 N9; (try dsimp only); (try k_fold))
  | (refine' SpecR.use (map_low _ _ _) ?k1 ?k2 ?k3 ?k4 ?k5 ?kK ?kp ?kd ?ku ?_; (case k1 => k_asm); (case k2 => k_asm); (case k3 => k_asm); (case k4 => k_asm); (case k5 => k_asm); (case kK => first | exact rfl | assumption); (case kp => omega); (case kd => ktr_room); (case ku => ktr_units); intro t9 h9 tk9 F9 N9; (try dsimp only); (try k_fold))
  | (refine' SpecR.use (map_math _ _ _) ?k1 ?k2 ?k3 ?k4 ?k5 ?kK ?kp ?kd ?ku ?_; (case k1 => k_asm); (case k2 => k_asm); (case k3 => k_asm); (case k4 => k_asm); (case k5 => k_asm); (case kK => first | exact rfl | assumption); (case kp => assumption); (case kd => ktr_room); (case ku => ktr_units); intro t9 h9 tk9 F9 N9; (try dsimp only); (try k_fold)))))
section
variable {prog : Program} {w : World} {A : Around} {E : Value → Shared → Prop} {s : Shared} {t u : Tok} {Q : Value → Shared → Prop} {value slice : PySem.Expr} {a b c : Nat}
theorem len2 (h : Q (.int 2 (s.toks + 1)) { s with toks := s.toks + 1 + 1 }) : wpAny (model prog w) A (call (.builtin "len") [.str ⟨#[a, b]⟩ t]) Q E s := P.len_str (by show ¬ (((2 : Nat) : Int) ≥ 2 ^ 63); decide) h
theorem len3 (h : Q (.int 3 (s.toks + 1)) { s with toks := s.toks + 1 + 1 }) : wpAny (model prog w) A (call (.builtin "len") [.str ⟨#[a, b, c]⟩ t]) Q E s := P.len_str (by show ¬ (((3 : Nat) : Int) ≥ 2 ^ 63); decide) h
theorem item20 (h : Q (.str ⟨#[a]⟩ s.toks) { s with toks := s.toks + 1 })
    (hs : subscripted slice false (.str ⟨#[a, b]⟩ t) (.int 0 u) = operate [.str ⟨#[a, b]⟩ t, .int 0 u] (getItem (.str ⟨#[a, b]⟩ t) (.int 0 u)) := by with_unfolding_all rfl) (ht : ∀ r, letTemporaryGo value (.str ⟨#[a, b]⟩ t) r = pure () := by intro _; with_unfolding_all rfl) :
    wpAny (model prog w) A (subscriptTail value slice (.str ⟨#[a, b]⟩ t) (.int 0 u)) Q E s := item_str rfl (by show -((2 : Nat) : Int) ≤ 0; decide) (by show (0 : Int) < ((2 : Nat) : Int); decide) (fun _ => h) hs ht
theorem item21 (h : Q (.str ⟨#[b]⟩ s.toks) { s with toks := s.toks + 1 })
    (hs : subscripted slice false (.str ⟨#[a, b]⟩ t) (.int 1 u) = operate [.str ⟨#[a, b]⟩ t, .int 1 u] (getItem (.str ⟨#[a, b]⟩ t) (.int 1 u)) := by with_unfolding_all rfl) (ht : ∀ r, letTemporaryGo value (.str ⟨#[a, b]⟩ t) r = pure () := by intro _; with_unfolding_all rfl) :
    wpAny (model prog w) A (subscriptTail value slice (.str ⟨#[a, b]⟩ t) (.int 1 u)) Q E s := item_str rfl (by show -((2 : Nat) : Int) ≤ 1; decide) (by show (1 : Int) < ((2 : Nat) : Int); decide) (fun _ => h) hs ht
theorem item30 (h : Q (.str ⟨#[a]⟩ s.toks) { s with toks := s.toks + 1 })
    (hs : subscripted slice false (.str ⟨#[a, b, c]⟩ t) (.int 0 u) = operate [.str ⟨#[a, b, c]⟩ t, .int 0 u] (getItem (.str ⟨#[a, b, c]⟩ t) (.int 0 u)) := by with_unfolding_all rfl) (ht : ∀ r, letTemporaryGo value (.str ⟨#[a, b, c]⟩ t) r = pure () := by intro _; with_unfolding_all rfl) :
    wpAny (model prog w) A (subscriptTail value slice (.str ⟨#[a, b, c]⟩ t) (.int 0 u)) Q E s := item_str rfl (by show -((3 : Nat) : Int) ≤ 0; decide) (by show (0 : Int) < ((3 : Nat) : Int); decide) (fun _ => h) hs ht
end
local macro_rules | `(tactic| walk_at "call builtin:len") => `(tactic| first | refine len2 ?_ | refine len3 ?_)
local macro_rules | `(tactic| walk_at "subscriptTail Name Constant str int") => `(tactic| (k_here; (with_reducible show wpAny _ _ (subscriptTail _ _ (Value.str (Str.mk #[_, _]) _) (Value.int 0 _)) _ _ _); refine item20 ?_ (by with_unfolding_all rfl) (by intro _; with_unfolding_all rfl)))
local macro_rules | `(tactic| walk_at "subscriptTail Name Constant str int") => `(tactic| (k_here; (with_reducible show wpAny _ _ (subscriptTail _ _ (Value.str (Str.mk #[_, _]) _) (Value.int 1 _)) _ _ _); refine item21 ?_ (by with_unfolding_all rfl) (by intro _; with_unfolding_all rfl)))
local macro_rules | `(tactic| walk_at "subscriptTail Name Constant str int") => `(tactic| (k_here; (with_reducible show wpAny _ _ (subscriptTail _ _ (Value.str (Str.mk #[_, _, _]) _) (Value.int 0 _)) _ _ _); refine item30 ?_ (by with_unfolding_all rfl) (by intro _; with_unfolding_all rfl)))
theorem read1 (w : World) (c : Nat) (t : Tok) : SpecR w (nat_lit 153) 1 8 True [.str ⟨#[c]⟩ t] (fun t => .str ⟨#[c]⟩ t) := by
  have hfill := for_fill; revert hfill; k_fill; intro _
  intro mean mg mb news dp un gd cn cs a ccd cl outer A₀ base h₀ L m s Q E B F X N T hk hpre hdp hun hret
  refine wpAny_call ?_
  k_dflt cell_enter
  k_steps
  all_goals cb_end hret
def hatF (c : Nat) : Nat := if c = 63 ∨ c = 159 then 127 else if c < 128 then c % 32 else mathC c % 32
theorem occ_q (c : Nat) : (!(Builtin.Str.occurrences (PySem.Str.ofString "?\u009f") ⟨#[c]⟩ 0 (PySem.Str.ofString "?\u009f").length 1).isEmpty) = decide (c = 63 ∨ c = 159) := by
  have h := StrLaws.found_one (PySem.Str.ofString "?\u009f") c
  have e : (PySem.Str.ofString "?\u009f").cps.toList = [63, 159] := by decide +kernel
  rw [e] at h
  rw [h]
  simp
theorem in_q {prog : Program} {w : World} {A : Around} {E : Value → Shared → Prop} {s : Shared} {t u : Tok} {Q : Value → Shared → Prop} {c : Nat} (h : Q (.bool (decide (c = 63 ∨ c = 159))) s) : wpAny (model prog w) A (compareOp .In (.str ⟨#[c]⟩ u) (.str (PySem.Str.ofString "?\u009f") t)) Q E s :=
  P.in_str (by rw [occ_q]; exact h)
local macro_rules | `(tactic| walk_at "compareOp In str str") => `(tactic| (k_here; (with_reducible show wpAny _ _ (compareOp _ (Value.str (Str.mk #[_]) _) (Value.str (PySem.Str.ofString _) _)) _ _ _); refine in_q ?_))
theorem lowA_mod {c : Nat} : lowA c % 32 = c % 32 := by unfold lowA; split <;> omega
theorem s_7f : PySem.Str.ofString "\u007f" = ⟨#[127]⟩ := by decide +kernel
section
variable {c : Nat}
theorem r1 (h : ((⟨#[c % 32]⟩ : PySem.Str) != ⟨#[lowA c % 32]⟩) = true) : False := by rw [lowA_mod] at h; simp at h
theorem r2 (hc : c < 128) (h : ¬ (c = 63 ∨ c = 159)) : (⟨#[lowA c % 32]⟩ : PySem.Str) = ⟨#[hatF c]⟩ := by
  refine eq1 ?_
  unfold hatF
  rw [if_neg h, if_pos hc, lowA_mod]
theorem r3 (h : c = 63 ∨ c = 159) : PySem.Str.ofString "\u007f" = (⟨#[hatF c]⟩ : PySem.Str) := by
  rw [s_7f]
  refine eq1 ?_
  unfold hatF
  rw [if_pos h]
theorem r4 (hc : mathB c = true) (h : ¬ (c = 63 ∨ c = 159)) : (⟨#[mathC c % 32]⟩ : PySem.Str) = ⟨#[hatF c]⟩ := by
  refine eq1 ?_
  have hm : 119808 ≤ c := by simp only [mathB, Bool.and_eq_true, decide_eq_true_eq] at hc; omega
  unfold hatF
  rw [if_neg h, if_neg (by omega)]
theorem math_big (hc : mathB c = true) : 119808 ≤ c ∧ c < 120458 := by simp only [mathB, Bool.and_eq_true, decide_eq_true_eq] at hc; omega
end
theorem read2 (w : World) (c : Nat) (t : Tok) : SpecR w (nat_lit 153) 3 24 (c < 128) [.str ⟨#[94, c]⟩ t] (fun t => .str ⟨#[hatF c]⟩ t) := by
  have hfill := for_fill; revert hfill; k_fill; intro _
  intro mean mg mb news dp un gd cn cs a ccd cl outer A₀ base h₀ L m s Q E B F X N T hk hpre hdp hun hret
  refine wpAny_call ?_
  k_dflt cell_enter
  k_steps
  all_goals (refine cb_retS hret ?_ (by k_asm) (by k_asm); first
    | exact r3 (by assumption)
    | exact (r1 (by assumption)).elim
    | exact r2 hpre (by assumption))
theorem read2m (w : World) (c : Nat) (t : Tok) : SpecR w (nat_lit 153) 3 24 (mathB c = true) [.str ⟨#[94, c]⟩ t] (fun t => .str ⟨#[hatF c]⟩ t) := by
  have hfill := for_fill; revert hfill; k_fill; intro _
  intro mean mg mb news dp un gd cn cs a ccd cl outer A₀ base h₀ L m s Q E B F X N T hk hpre hdp hun hret
  have hbig := math_big hpre
  refine wpAny_call ?_
  k_dflt cell_enter
  k_steps
  all_goals (refine cb_retS hret ?_ (by k_asm) (by k_asm); exact r4 hpre (by omega))
theorem read2q (w : World) (c : Nat) (t : Tok) : SpecR w (nat_lit 153) 3 24 (c = 159) [.str ⟨#[94, c]⟩ t] (fun t => .str ⟨#[hatF c]⟩ t) := by
  have hfill := for_fill; revert hfill; k_fill; intro _
  intro mean mg mb news dp un gd cn cs a ccd cl outer A₀ base h₀ L m s Q E B F X N T hk hpre hdp hun hret
  refine wpAny_call ?_
  k_dflt cell_enter
  k_steps
  all_goals (refine cb_retS hret ?_ (by k_asm) (by k_asm); exact r3 (Or.inr hpre))
def hatOK (c : Nat) : Prop := c < 128 ∨ c = 159 ∨ mathB c = true
theorem hat_s (w : World) (c : Nat) (t : Tok) : SpecR w (nat_lit 153) 3 24 (hatOK c) [.str ⟨#[94, c]⟩ t] (fun t => .str ⟨#[hatF c]⟩ t) := by
  intro mean mg mb news dp un gd cn cs a ccd cl outer A₀ base h₀ L m s Q E B F X N T hk hpre hdp hun hret
  rcases hpre with h | h | h
  · exact SpecR.use (read2 w c t) B F X N T hk h hdp hun hret
  · exact SpecR.use (read2q w c t) B F X N T hk h hdp hun hret
  · exact SpecR.use (read2m w c t) B F X N T hk h hdp hun hret
end Mine
end
section
open PySem PySem.W PyProof.Rows PySem.Calls PySem.Spec
set_option maxRecDepth 100000
set_option maxHeartbeats 1000000
namespace Mine
theorem slice2 (a b : Nat) : Txt.slice (⟨#[a, b]⟩ : PySem.Str) (some 1) none = ⟨#[b]⟩ := by kernel_rfl
theorem slice3 (a b c : Nat) : Txt.slice (⟨#[a, b, c]⟩ : PySem.Str) (some 1) none = ⟨#[b, c]⟩ := by kernel_rfl
local macro_rules | `(tactic| walk_at "call builtin:len") => `(tactic| first | refine len2 ?_ | refine len3 ?_)
local macro_rules | `(tactic| walk_at "subscriptTail Name Constant str int") => `(tactic| (k_here; (with_reducible show wpAny _ _ (subscriptTail _ _ (Value.str (Str.mk #[_, _]) _) (Value.int 0 _)) _ _ _); refine item20 ?_ (by with_unfolding_all rfl) (by intro _; with_unfolding_all rfl)))
local macro_rules | `(tactic| walk_at "subscriptTail Name Constant str int") => `(tactic| (k_here; (with_reducible show wpAny _ _ (subscriptTail _ _ (Value.str (Str.mk #[_, _, _]) _) (Value.int 0 _)) _ _ _); refine item30 ?_ (by with_unfolding_all rfl) (by intro _; with_unfolding_all rfl)))
local macro_rules | `(tactic| walk_at "subscriptTail Name Slice str ref") => `(tactic| (k_here; (with_reducible rename Fr _ _ _ _ => F'); (with_reducible rename News _ _ _ _ => N'); (refine slice_strN_sn (hsz := ?hsz) (s := ⟨_, _, _, _, _⟩) F' N' ?_); (case hsz => exact Nat.le_of_ble_eq_true rfl); intro h8 t8 k8 F8 N8; first | rw [slice2] | rw [slice3]))
theorem hatF_lt {c : Nat} (_h : hatOK c) : hatF c < 128 := by
  unfold hatF
  split
  · omega
  · split <;> omega
local macro_rules | `(tactic| walk_at "call ref") => `(tactic| (k_here; k_dflt (first
  | (refine' SpecR.use (read1 _ _ _) ?k1 ?k2 ?k3 ?k4 ?k5 ?kK ?kp ?kd ?ku ?_; (case k1 => k_asm); (case k2 => k_asm); (case k3 => k_asm); (case k4 => k_asm); (case k5 => k_asm); (case kK => first | exact rfl | assumption); (case kp => trivial); (case kd => ktr_room); (case ku => ktr_units); intro t9 h9 tk9 F9 N9; (try dsimp only); (try k_fold))
  | (refine' SpecR.use (hat_s _ _ _) ?k1 ?k2 ?k3 ?k4 ?k5 ?kK ?kp ?kd ?ku ?_; (case k1 => k_asm); (case k2 => k_asm); (case k3 => k_asm); (case k4 => k_asm); (case k5 => k_asm); (case kK => first | exact rfl | assumption); (case kp => assumption); (case kd => ktr_room); (case ku => ktr_units); intro t9 h9 tk9 F9 N9; (try dsimp only); (try k_fold))
  | (refine' SpecR.use (alt_s _ _ _) ?k1 ?k2 ?k3 ?k4 ?k5 ?kK ?kp ?kd ?ku ?_; (case k1 => k_asm); (case k2 => k_asm); (case k3 => k_asm); (case k4 => k_asm); (case k5 => k_asm); (case kK => first | exact rfl | assumption); (case kp => first | assumption | exact hatF_lt (by assumption)); (case kd => ktr_room); (case ku => ktr_units); intro t9 h9 tk9 F9 N9; (try dsimp only); (try k_fold)))))
theorem read3 (w : World) (c : Nat) (t : Tok) : SpecR w (nat_lit 153) 4 32 (c < 128) [.str ⟨#[33, c]⟩ t] (fun t => .str ⟨#[c + 128]⟩ t) := by
  have hfill := for_fill; revert hfill; k_fill; intro _
  intro mean mg mb news dp un gd cn cs a ccd cl outer A₀ base h₀ L m s Q E B F X N T hk hpre hdp hun hret
  refine wpAny_call ?_
  k_dflt cell_enter
  k_steps
  all_goals cb_end hret
theorem read4 (w : World) (c : Nat) (t : Tok) : SpecR w (nat_lit 153) 5 40 (hatOK c) [.str ⟨#[33, 94, c]⟩ t] (fun t => .str ⟨#[hatF c + 128]⟩ t) := by
  have hfill := for_fill; revert hfill; k_fill; intro _
  intro mean mg mb news dp un gd cn cs a ccd cl outer A₀ base h₀ L m s Q E B F X N T hk hpre hdp hun hret
  refine wpAny_call ?_
  k_dflt cell_enter
  k_steps
  all_goals cb_end hret
end Mine
end
section
open PySem PySem.W PyProof.Rows PySem.Calls PySem.Spec
set_option maxRecDepth 100000
namespace Mine
/- the plain law: lists of codes, no program in sight -/
def lowN (n : Nat) : Nat := if n % 127 < 32 then n % 127 else n % 127 + 1
def metaN (n : Nat) : Nat := n / 127 % 2
def wayN (n : Nat) : Nat := n / 254 % 13
def dustN (n : Nat) : Nat := n / 3302
def codeN (n : Nat) : Nat := lowN n + 128 * metaN n
def preN (n : Nat) : List Nat := if metaN n = 1 then [33] else []
def nameN (n : Nat) : List Nat := preN n ++ (if lowN n = 127 ∨ lowN n < 32 then [94, behindC (lowN n) (wayN n)] else [lowN n])
def oneN (n : Nat) : List Nat := if lowN n = 127 then (if metaN n = 1 then [33, 94, 159] else [94, 63]) else if lowN n < 32 then preN n ++ [94, 64 + lowN n] else preN n ++ [lowN n]
def spellGo (d : Nat) : Nat → List Nat → List Nat
  | _, [] => []
  | k, c :: r => c :: (nothingL (d / 28 ^ k % 28) ++ spellGo d (k + 1) r)
def spelledN (n : Nat) : List Nat := List.replicate (dustN n / 21952 + 1) 32 ++ spellGo (dustN n) 0 (nameN n)
/-- what _law_names does, on codes -/
def namesGo : List Nat → List Nat → List (List Nat) → List (List Nat)
  | [], _, names => names
  | c :: r, name, names => if c = 32 then namesGo r [] (if name = [] then names else names ++ [name]) else if b1B c then namesGo r name names else namesGo r (name ++ [c]) names
/-- what _law_read does, on codes -/
def readF : List Nat → Nat
  | [c] => c
  | [33, c] => c + 128
  | [94, c] => hatF c
  | [33, 94, c] => hatF c + 128
  | _ => 0
theorem b1_dust (k : Nat) (hk : k < 28) : ∀ c ∈ nothingL k, b1B c = true ∧ c ≠ 32 := by
  have : ∀ k, k < 28 → (nothingL k).all (fun c => b1B c && decide (c ≠ 32)) = true := by decide +kernel
  intro c hc
  have := List.all_eq_true.mp (this k hk) c hc
  simpa using this
def plainSign (c : Nat) : Prop := c ≠ 32 ∧ b1B c = false
/-- a spelled name gives its signs, whatever is between them -/
theorem names_spell (d : Nat) : ∀ (name : List Nat) (k : Nat) (rest acc : List Nat) (names : List (List Nat)), (∀ c ∈ name, plainSign c) →
    namesGo (spellGo d k name ++ rest) acc names = namesGo rest (acc ++ name) names
  | [], k, rest, acc, names, _ => by simp [spellGo]
  | c :: name, k, rest, acc, names, h => by
    have hc := h c List.mem_cons_self
    have hd := b1_dust (d / 28 ^ k % 28) (Nat.mod_lt _ (by decide))
    have skip : ∀ (l : List Nat) (rest acc : List Nat) (names : List (List Nat)), (∀ c ∈ l, b1B c = true ∧ c ≠ 32) → namesGo (l ++ rest) acc names = namesGo rest acc names := by
      intro l
      induction l with
      | nil => intro rest acc names _; rfl
      | cons a l ih =>
        intro rest acc names hl
        have ha := hl a List.mem_cons_self
        rw [List.cons_append, namesGo, if_neg ha.2, if_pos ha.1]
        exact ih rest acc names fun c hc => hl c (List.mem_cons_of_mem _ hc)
    simp only [spellGo, List.cons_append, List.append_assoc]
    rw [namesGo, if_neg hc.1, if_neg (by rw [hc.2]; exact Bool.false_ne_true), skip _ _ _ _ hd, names_spell d name (k + 1) rest (acc ++ [c]) names fun c hc => h c (List.mem_cons_of_mem _ hc)]
    simp
theorem names_blanks : ∀ (m : Nat) (rest : List Nat) (acc : List Nat) (names : List (List Nat)), namesGo (List.replicate (m + 1) 32 ++ rest) acc names = namesGo rest [] (if acc = [] then names else names ++ [acc])
  | 0, rest, acc, names => by simp [List.replicate, namesGo]
  | m + 1, rest, acc, names => by
    rw [List.replicate_succ, List.cons_append, namesGo, if_pos rfl, names_blanks m rest [] _]
    simp
def pageGo : List Nat → List Nat
  | [] => []
  | n :: r => spelledN n ++ pageGo r
theorem names_page : ∀ (ns : List Nat) (rest acc : List Nat) (names : List (List Nat)), (∀ n ∈ ns, (∀ c ∈ nameN n, plainSign c) ∧ nameN n ≠ []) →
    ns ≠ [] → namesGo (pageGo ns ++ rest) acc names = namesGo rest (nameN (ns.getLast?.getD 0)) ((if acc = [] then names else names ++ [acc]) ++ (ns.dropLast).map nameN)
  | [], _, _, _, _, h => absurd rfl h
  | [n], rest, acc, names, h, _ => by
    have hn := h n List.mem_cons_self
    simp only [pageGo, spelledN, List.append_assoc, List.append_nil, List.nil_append]
    rw [names_blanks, names_spell _ _ _ _ _ _ hn.1]
    simp
  | n :: m :: r, rest, acc, names, h, _ => by
    have hn := h n List.mem_cons_self
    rw [pageGo, List.append_assoc, spelledN, List.append_assoc, names_blanks, names_spell _ _ _ _ _ _ hn.1, List.nil_append,
      names_page (m :: r) rest (nameN n) _ (fun x hx => h x (List.mem_cons_of_mem _ hx)) (by simp), if_neg hn.2]
    simp
theorem names_all (ns : List Nat) (h : ∀ n ∈ ns, (∀ c ∈ nameN n, plainSign c) ∧ nameN n ≠ []) (hne : ns ≠ []) : namesGo (pageGo ns ++ [32]) [] [] = ns.map nameN := by
  rw [names_page ns [32] [] [] h hne]
  obtain ⟨i, x, rfl⟩ : ∃ i x, ns = i ++ [x] := by
    rcases List.eq_nil_or_concat ns with e | ⟨i, x, e⟩
    · exact absurd e hne
    · exact ⟨i, x, by simpa using e⟩
  have hx := h x (by simp)
  simp only [List.getLast?_append, List.getLast?_singleton, Option.some_or, Option.getD_some, List.dropLast_concat, namesGo, if_true, if_neg hx.2]
  simp
end Mine
end
section
open PySem PySem.W PyProof.Rows PySem.Calls PySem.Spec
set_option maxRecDepth 100000
namespace Mine
def preL (m : Nat) : List Nat := if m = 1 then [33] else []
def nameL (low m way : Nat) : List Nat := preL m ++ (if low = 127 ∨ low < 32 then [94, behindC low way] else [low])
def oneL (low m : Nat) : List Nat := if low = 127 then (if m = 1 then [33, 94, 159] else [94, 63]) else if low < 32 then preL m ++ [94, 64 + low] else preL m ++ [low]
def hatB (c : Nat) : Bool := decide (c < 128) || decide (c = 159) || mathB c
def shapeB : List Nat → Bool
  | [_] => true
  | [a, c] => (Nat.beq a 33 && decide (c < 128)) || (Nat.beq a 94 && hatB c)
  | [a, b, c] => Nat.beq a 33 && Nat.beq b 94 && hatB c
  | _ => false
def readB (l : List Nat) (v : Nat) : Bool := match l with
  | [c] => Nat.beq c v
  | [a, c] => if Nat.beq a 33 then Nat.beq (c + 128) v else Nat.beq (hatF c) v
  | [_, _, c] => Nat.beq (hatF c + 128) v
  | _ => false
def chkL (low m way : Nat) : Bool := (nameL low m way).all (fun c => !Nat.beq c 32 && !b1B c) && shapeB (nameL low m way) && readB (nameL low m way) (low + 128 * m) && decide (unctrlF (low + 128 * m) = oneL low m)
theorem chk_all : ((List.range 128).all fun low => Nat.beq low 32 || (List.range 2).all fun m => (List.range 13).all fun way => chkL low m way) = true := by kernel_rfl
theorem lowN_lt (n : Nat) : lowN n < 128 ∧ lowN n ≠ 32 := by
  have := Nat.mod_lt n (show 0 < 127 by decide)
  unfold lowN
  split <;> omega
theorem metaN_lt (n : Nat) : metaN n < 2 := Nat.mod_lt _ (by decide)
theorem wayN_lt (n : Nat) : wayN n < 13 := Nat.mod_lt _ (by decide)
theorem chk (n : Nat) : chkL (lowN n) (metaN n) (wayN n) = true := by
  obtain ⟨h1, h2⟩ := lowN_lt n
  have a := List.all_eq_true.mp chk_all (lowN n) (by simpa using h1)
  rw [Bool.or_eq_true] at a
  rcases a with a | a
  · exact absurd (Nat.eq_of_beq_eq_true a) h2
  · have b := List.all_eq_true.mp a (metaN n) (by simpa using metaN_lt n)
    exact List.all_eq_true.mp b (wayN n) (by simpa using wayN_lt n)
theorem name_eq (n : Nat) : nameN n = nameL (lowN n) (metaN n) (wayN n) := rfl
theorem one_eq (n : Nat) : oneN n = oneL (lowN n) (metaN n) := rfl
theorem chk4 (n : Nat) : (nameN n).all (fun c => !Nat.beq c 32 && !b1B c) = true ∧ shapeB (nameN n) = true ∧ readB (nameN n) (codeN n) = true ∧ unctrlF (codeN n) = oneN n := by
  have h := chk n
  unfold chkL at h
  simp only [Bool.and_eq_true, decide_eq_true_eq] at h
  exact ⟨h.1.1.1, h.1.1.2, h.1.2, h.2⟩
theorem shape_ne {l : List Nat} (h : shapeB l = true) : l ≠ [] := by
  rintro rfl; cases h
theorem names_good (n : Nat) : (∀ c ∈ nameN n, plainSign c) ∧ nameN n ≠ [] := by
  obtain ⟨h1, h2, _, _⟩ := chk4 n
  refine ⟨fun c hc => ?_, shape_ne h2⟩
  have := List.all_eq_true.mp h1 c hc
  simp only [Bool.and_eq_true, Bool.not_eq_true'] at this
  exact ⟨fun e => by rw [e] at this; exact absurd this.1 (by decide), this.2⟩
theorem one_is (n : Nat) : unctrlF (codeN n) = oneN n := (chk4 n).2.2.2
theorem code_lt (n : Nat) : codeN n < 256 := by
  have := lowN_lt n; have := metaN_lt n
  unfold codeN; omega
theorem hatB_ok {c : Nat} (h : hatB c = true) : hatOK c := by
  simp only [hatB, Bool.or_eq_true, decide_eq_true_eq] at h
  rcases h with (h | h) | h
  · exact .inl h
  · exact .inr (.inl h)
  · exact .inr (.inr h)
/-- a name's shape, and what is read of it -/
theorem shape_cases (n : Nat) : nameN n = [codeN n] ∨ (∃ c, c < 128 ∧ nameN n = [33, c] ∧ codeN n = c + 128) ∨ (∃ c, hatOK c ∧ nameN n = [94, c] ∧ codeN n = hatF c) ∨ (∃ c, hatOK c ∧ nameN n = [33, 94, c] ∧ codeN n = hatF c + 128) := by
  obtain ⟨_, h2, h3, _⟩ := chk4 n
  generalize nameN n = l at *
  generalize codeN n = v at *
  match l, h2, h3 with
  | [c], _, h3 => exact .inl (by rw [Nat.eq_of_beq_eq_true h3])
  | [a, c], h2, h3 =>
    simp only [shapeB, Bool.or_eq_true, Bool.and_eq_true, decide_eq_true_eq] at h2
    simp only [readB] at h3
    rcases h2 with ⟨ha, hc⟩ | ⟨ha, hc⟩
    · rw [if_pos ha] at h3
      obtain rfl := Nat.eq_of_beq_eq_true ha
      exact .inr (.inl ⟨c, hc, rfl, (Nat.eq_of_beq_eq_true h3).symm⟩)
    · obtain rfl := Nat.eq_of_beq_eq_true ha
      rw [if_neg (by decide)] at h3
      exact .inr (.inr (.inl ⟨c, hatB_ok hc, rfl, (Nat.eq_of_beq_eq_true h3).symm⟩))
  | [a, b, c], h2, h3 =>
    simp only [shapeB, Bool.and_eq_true] at h2
    obtain rfl := Nat.eq_of_beq_eq_true h2.1.1
    obtain rfl := Nat.eq_of_beq_eq_true h2.1.2
    exact .inr (.inr (.inr ⟨c, hatB_ok h2.2, rfl, (Nat.eq_of_beq_eq_true h3).symm⟩))
end Mine
end
section
open PySem PySem.W PyProof.Rows PySem.Calls PySem.Spec
set_option maxRecDepth 100000
set_option maxHeartbeats 8000000
namespace Mine
@[irreducible] def keyN (x : Int) : Nat := (x.fmod 217456512).toNat
theorem keyN_lt (x : Int) : keyN x < 217456512 := by
  unfold keyN
  have h1 := Int.fmod_nonneg_of_pos x (b := 217456512) (by decide)
  have h2 := Int.fmod_lt_of_pos x (b := 217456512) (by decide)
  omega
theorem keyN_eq (x : Int) : x.fmod 217456512 = (keyN x : Int) := by
  unfold keyN
  have h1 := Int.fmod_nonneg_of_pos x (b := 217456512) (by decide)
  omega
section
variable {prog : Program} {w : World} {A : Around} {E : Value → Shared → Prop} {s : Shared} {t u : Tok} {Q : Value → Shared → Prop} {a : Nat} {x : Int}
theorem modBig (h : Q (.int (keyN x : Int) s.toks) { s with toks := s.toks + 1 }) : wpAny (model prog w) A (binaryOp .Mod (.int x t) (.int 217456512 u)) Q E s :=
  mod_int' (by decide) (by rw [keyN_eq]; exact h)
theorem modNat (k : Nat) (hk : 0 < k) (h : Q (.int ((a % k : Nat) : Int) s.toks) { s with toks := s.toks + 1 }) : wpAny (model prog w) A (binaryOp .Mod (.int (a : Int) t) (.int (k : Int) u)) Q E s :=
  mod_int' (by omega) (by rw [Int.fmod_eq_emod_of_nonneg _ (by omega)]; exact h)
theorem divNat (k : Nat) (hk : 0 < k) (ha : a < 217456512) (hb : k < 217456512) (h : Q (.int ((a / k : Nat) : Int) s.toks) { s with toks := s.toks + 1 }) : wpAny (model prog w) A (binaryOp .FloorDiv (.int (a : Int) t) (.int (k : Int) u)) Q E s :=
  floordiv_int (by omega) (by rw [Int.fdiv_eq_ediv_of_nonneg _ (by omega)]; exact h) (Or.inl (PyProof.noPylong_small (by omega)))
theorem mod127 (h : Q (.int ((a % 127 : Nat) : Int) s.toks) { s with toks := s.toks + 1 }) : wpAny (model prog w) A (binaryOp .Mod (.int (a : Int) t) (.int 127 u)) Q E s := modNat 127 (by decide) h
theorem mod2 (h : Q (.int ((a % 2 : Nat) : Int) s.toks) { s with toks := s.toks + 1 }) : wpAny (model prog w) A (binaryOp .Mod (.int (a : Int) t) (.int 2 u)) Q E s := modNat 2 (by decide) h
theorem mod13 (h : Q (.int ((a % 13 : Nat) : Int) s.toks) { s with toks := s.toks + 1 }) : wpAny (model prog w) A (binaryOp .Mod (.int (a : Int) t) (.int 13 u)) Q E s := modNat 13 (by decide) h
theorem mod28 (h : Q (.int ((a % 28 : Nat) : Int) s.toks) { s with toks := s.toks + 1 }) : wpAny (model prog w) A (binaryOp .Mod (.int (a : Int) t) (.int 28 u)) Q E s := modNat 28 (by decide) h
theorem div127 (ha : a < 217456512) (h : Q (.int ((a / 127 : Nat) : Int) s.toks) { s with toks := s.toks + 1 }) : wpAny (model prog w) A (binaryOp .FloorDiv (.int (a : Int) t) (.int 127 u)) Q E s := divNat 127 (by decide) ha (by decide) h
theorem div254 (ha : a < 217456512) (h : Q (.int ((a / 254 : Nat) : Int) s.toks) { s with toks := s.toks + 1 }) : wpAny (model prog w) A (binaryOp .FloorDiv (.int (a : Int) t) (.int 254 u)) Q E s := divNat 254 (by decide) ha (by decide) h
theorem div3302 (ha : a < 217456512) (h : Q (.int ((a / 3302 : Nat) : Int) s.toks) { s with toks := s.toks + 1 }) : wpAny (model prog w) A (binaryOp .FloorDiv (.int (a : Int) t) (.int 3302 u)) Q E s := divNat 3302 (by decide) ha (by decide) h
theorem div21952 (ha : a < 217456512) (h : Q (.int ((a / 21952 : Nat) : Int) s.toks) { s with toks := s.toks + 1 }) : wpAny (model prog w) A (binaryOp .FloorDiv (.int (a : Int) t) (.int 21952 u)) Q E s := divNat 21952 (by decide) ha (by decide) h
end
local macro_rules | `(tactic| walk_at "binaryOp Mod int int") => `(tactic| first | refine modBig ?_ | refine mod127 ?_ | refine mod2 ?_ | refine mod13 ?_ | refine mod28 ?_)
local macro_rules | `(tactic| walk_at "binaryOp FloorDiv int int") => `(tactic| first | refine div127 (by omega) ?_ | refine div254 (by omega) ?_ | refine div3302 (by omega) ?_ | refine div21952 (by omega) ?_)
theorem sc_1 (a : Nat) : (⟨#[a]⟩ : PySem.Str) = ⟨#[a]⟩ := rfl
local macro_rules | `(tactic| walk_at "call ref") => `(tactic| (k_here; k_dflt (first
  | (refine' SpecR.use (behind_s _ _ _ _ _) ?k1 ?k2 ?k3 ?k4 ?k5 ?kK ?kp ?kd ?ku ?_; (case k1 => k_asm); (case k2 => k_asm); (case k3 => k_asm); (case k4 => k_asm); (case k5 => k_asm); (case kK => first | exact rfl | assumption); (case kp => omega); (case kd => ktr_room); (case ku => ktr_units); intro t9 h9 tk9 F9 N9; (try dsimp only); (try k_fold))
  | (refine' SpecR.use (nothing_s _ _ _) ?k1 ?k2 ?k3 ?k4 ?k5 ?kK ?kp ?kd ?ku ?_; (case k1 => k_asm); (case k2 => k_asm); (case k3 => k_asm); (case k4 => k_asm); (case k5 => k_asm); (case kK => first | exact rfl | assumption); (case kp => omega); (case kd => ktr_room); (case ku => ktr_units); intro t9 h9 tk9 F9 N9; (try dsimp only); (try k_fold)))))
section
variable {prog : Program} {w : World} {A : Around} {E : Value → Shared → Prop} {s : Shared} {t u : Tok} {Q : Value → Shared → Prop} {a i : Nat}
theorem mulBlank {m : Nat} (hm : m ≤ 2) (h : ∀ t' k, Q (.str ⟨(List.replicate (m + 1) 32).toArray⟩ t') { s with toks := k }) : wpAny (model prog w) A (binaryOp .Mult (.str (PySem.Str.ofString " ") t) (.int ((m : Int) + 1) u)) Q E s := by
  refine KXi.mul (n := 1) (by decide +kernel) (by decide) (by omega) (by omega) (fun t' k _ _ => ?_)
  have e : ∀ m : Nat, m ≤ 2 → Txt.mul (PySem.Str.ofString " ") ((m : Int) + 1) = ⟨(List.replicate (m + 1) 32).toArray⟩ := by decide +kernel
  rw [e m hm]; exact h t' k
theorem pow28 (hi : i ≤ 2) (h : Q (.int ((28 ^ i : Nat) : Int) s.toks) { s with toks := s.toks + 1 }) : wpAny (model prog w) A (binaryOp .Pow (.int 28 t) (.int (i : Int) u)) Q E s := by
  refine pow_int_small (by omega) (by omega) (by decide) ?_
  have e : (28 : Int) ^ ((i : Int)).toNat = ((28 ^ i : Nat) : Int) := by rw [Int.toNat_natCast, Int.natCast_pow]; rfl
  rw [e]; exact h
theorem divPow (ha : a < 217456512) (hi : i ≤ 2) (h : Q (.int ((a / 28 ^ i : Nat) : Int) s.toks) { s with toks := s.toks + 1 }) : wpAny (model prog w) A (binaryOp .FloorDiv (.int (a : Int) t) (.int ((28 ^ i : Nat) : Int) u)) Q E s := by
  have : ∀ i, i ≤ 2 → 28 ^ i < 217456512 := by decide
  exact divNat (28 ^ i) (Nat.pos_of_ne_zero (by simp)) ha (this i hi) h
end
local macro_rules | `(tactic| walk_at "binaryOp FloorDiv int int") => `(tactic| refine divPow (by omega) (by assumption) ?_)
local macro_rules | `(tactic| walk_at "binaryOp Pow int int") => `(tactic| refine pow28 (by assumption) ?_)
local macro_rules | `(tactic| walk_at "binaryOp Mult str int") => `(tactic| refine mulBlank (by omega) ?_)
def Stop2 (P : Prop) : Prop := P
theorem stopHere2 {P : Prop} (h : Stop2 P) : P := h
def forBody : Stmt → List Stmt
  | .For _ _ b _ _ => b
  | _ => []
def loopB : List Stmt := forBody ((fBody (stOf 15))[8]?.getD (.Pass default))
def scK : Scope := fScope (stOf 15)
def mapK (m : PySem.Str → Option Value) (T : PySem.Str) (tT : Tok) (vc vi : Option Value) : PySem.Str → Option Value := fun y =>
  if y = PySem.Str.ofString "spelled" then some (.str T tT) else if y = PySem.Str.ofString "sign" then vc else if y = PySem.Str.ofString "k" then vi else m y
theorem spellGo_snoc (d : Nat) : ∀ (l : List Nat) (k c : Nat), spellGo d k (l ++ [c]) = spellGo d k l ++ c :: nothingL (d / 28 ^ (k + l.length) % 28)
  | [], k, c => by simp [spellGo]
  | a :: l, k, c => by
    simp only [List.cons_append, spellGo, spellGo_snoc d l (k + 1) c, List.append_assoc, List.length_cons]
    rw [show k + 1 + l.length = k + (l.length + 1) by omega]
theorem nothingL_le (k : Nat) : (nothingL k).length ≤ 1 := by unfold nothingL; split <;> simp
theorem spellGo_le (d : Nat) : ∀ (l : List Nat) (k : Nat), (spellGo d k l).length ≤ 2 * l.length
  | [], _ => by simp [spellGo]
  | a :: l, k => by
    have := spellGo_le d l (k + 1)
    have := nothingL_le (d / 28 ^ k % 28)
    simp only [spellGo, List.length_cons, List.length_append]; omega
def foldK (T₀ : PySem.Str) (d : Nat) (nm : PySem.Str) (i : Nat) : PySem.Str := T₀ ++ ⟨(spellGo d 0 (nm.cps.toList.take i)).toArray⟩
theorem foldK_len {T₀ nm : PySem.Str} {d i : Nat} (hT : T₀.length ≤ 3) (hi : i ≤ 3) : (foldK T₀ d nm i).length ≤ 9 := by
  unfold foldK
  rw [PySem.Str.length_append]
  have h1 := spellGo_le d (nm.cps.toList.take i) 0
  have h2 : (nm.cps.toList.take i).length ≤ i := by rw [List.length_take]; omega
  have h3 : (⟨(spellGo d 0 (nm.cps.toList.take i)).toArray⟩ : PySem.Str).length = (spellGo d 0 (nm.cps.toList.take i)).length := by simp [PySem.Str.length]
  omega
theorem foldK_succ {T₀ nm a : PySem.Str} {d i : Nat} (ha : (signs nm)[i]? = some a) : foldK T₀ d nm (i + 1) = foldK T₀ d nm i ++ a ++ ⟨(nothingL (d / 28 ^ i % 28)).toArray⟩ := by
  unfold signs at ha
  rw [List.getElem?_map] at ha
  obtain ⟨c, hc, rfl⟩ := Option.map_eq_some_iff.mp ha
  have hi : i < nm.cps.toList.length := (List.getElem?_eq_some_iff.mp hc).1
  unfold foldK
  rw [List.take_add_one, hc, Option.toList_some, spellGo_snoc, List.length_take, Nat.min_eq_left (Nat.le_of_lt hi), Nat.zero_add]
  rw [PySem.Str.append_assoc, PySem.Str.append_assoc]
  congr 1
  rw [s_app, s_app]
  simp
theorem idx_le {nm a : PySem.Str} {i : Nat} (ha : (signs nm)[i]? = some a) (h : nm.length ≤ 3) : i ≤ 2 ∧ a.length = 1 := by
  unfold signs at ha
  rw [List.getElem?_map] at ha
  obtain ⟨c, hc, rfl⟩ := Option.map_eq_some_iff.mp ha
  have hi : i < nm.cps.toList.length := (List.getElem?_eq_some_iff.mp hc).1
  have : nm.cps.toList.length = nm.length := by simp [PySem.Str.length]
  exact ⟨by omega, rfl⟩
theorem mapK_store {m : PySem.Str → Option Value} {T T' : PySem.Str} {tT t' : Tok} {vc vi : Option Value} {v0 v1 : Value} :
    (fun z => if z = PySem.Str.ofString "spelled" then some (.str T' t') else (fun y => if y = PySem.Str.ofString "sign" then some v1 else if y = PySem.Str.ofString "k" then some v0 else mapK m T tT vc vi y) z) = mapK m T' t' (some v1) (some v0) := by
  funext z
  unfold mapK
  by_cases h1 : z = PySem.Str.ofString "spelled"
  · simp [h1]
  · by_cases h2 : z = PySem.Str.ofString "sign"
    · simp [h1, h2]
    · by_cases h3 : z = PySem.Str.ofString "k" <;> simp [h1, h2, h3]
theorem addNothing {prog : Program} {w : World} {A : Around} {E : Value → Shared → Prop} {s : Shared} {t u : Tok} {Q : Value → Shared → Prop} {x : PySem.Str} {k : Nat} (hx : x.length ≤ 1000) (h : ∀ t' k', Q (.str (x ++ ⟨(nothingL k).toArray⟩) t') { s with toks := k' }) :
    wpAny (model prog w) A (binaryOp .Add (.str x t) (.str ⟨(nothingL k).toArray⟩ u)) Q E s :=
  SBL.add (fun t' k' _ => h t' k') (by
    have h1 := nothingL_le k
    have h2 : (⟨(nothingL k).toArray⟩ : PySem.Str).length = (nothingL k).length := by simp [PySem.Str.length]
    rw [sizeLine_eq, h2]; omega)
local macro_rules | `(tactic| walk_at "binaryOp Add str str") => `(tactic| (k_here; (refine addNothing (by omega) ?_); intro t8 k8))
local macro_rules | `(tactic| walk_at "eval Name") => `(tactic| (k_here; (with_reducible show wpAny _ _ (eval (PySem.Expr.Name (PySem.Str.ofString "dust") _) _) _ _ _); k_dflt (refine' ld ?k1 ?k2 ?_; (case k1 => k_asm); (case k2 => assumption))))
theorem spell_loop (w : World) {mean : ExcName → Option Value} {mg mb : Str → Option Value} {news : List (Addr × Obj)} {dp un : Nat} {gd : Option (List Code)} {outer : List Env} {A₀ : Around} {base h₀ : Heap} {L : Addr} {m : Str → Option Value} {s : Shared} {Q : Flow → Shared → Prop} {E : Value → Shared → Prop} {e : Addr} {nm T₀ : PySem.Str} {d : Nat} {t0 td : Tok}
    (B : Below A₀ base outer h₀) (X : (KK w.params).In h₀) (T : Top qq (looseW qq loose0) mean mg mb h₀)
    (S : PairSrcL prg w (ktrTop dp un gd (PySem.Str.ofString "_law_key") scK L 139 (.ref 138) [] outer) E h₀ L ItemKind.str (signs nm) (.ref e) s m news)
    (hnm : nm.length ≤ 3) (hT : T₀.length ≤ 3) (hd : d < 217456512) (hms : m (PySem.Str.ofString "spelled") = some (.str T₀ t0)) (hmd : m (PySem.Str.ofString "dust") = some (.int (d : Int) td)) (hdp : dp + 1 < recursionLimit) (hun : un + 8 < cLine)
    (done : ∀ h' tk tT vc vi, Fr h₀ L h' (mapK m (foldK T₀ d nm nm.length) tT vc vi) → News h₀ L h' news → Q .next { s with heap := h', toks := tk }) :
    wpAny (model prg w) (ktrTop dp un gd (PySem.Str.ofString "_law_key") scK L 139 (.ref 138) [] outer) (pyIter (.ref e)) (fun it s₂ => PairAt3 prg w (ktrTop dp un gd (PySem.Str.ofString "_law_key") scK L 139 (.ref 138) [] outer) h₀ (envOf (PySem.Str.ofString "_law_key") scK L 139 (.ref 138)) (PySem.Str.ofString "k") (PySem.Str.ofString "sign") loopB Q E it s₂) E s := by
  have hfill := for_fill; revert hfill; k_fill; intro _
  refine PairSrcL.at S (envOf (PySem.Str.ofString "_law_key") scK L 139 (.ref 138)) rfl (PySem.Str.ofString "k") (PySem.Str.ofString "sign") loopB Q (fun i m₁ nw => nw = news ∧ ∃ tT vc vi, m₁ = mapK m (foldK T₀ d nm i) tT vc vi) ?_ ?_ ?_
  · refine ⟨rfl, t0, m (PySem.Str.ofString "sign"), m (PySem.Str.ofString "k"), ?_⟩
    funext y
    unfold mapK
    have e0 : foldK T₀ d nm 0 = T₀ := by unfold foldK; simp only [List.take_zero, spellGo]; exact PySem.Str.append_empty _
    rw [e0]
    by_cases h1 : y = PySem.Str.ofString "spelled"
    · rw [if_pos h1, h1, hms]
    · rw [if_neg h1]
      by_cases h2 : y = PySem.Str.ofString "sign"
      · rw [if_pos h2, h2]
      · rw [if_neg h2]
        by_cases h3 : y = PySem.Str.ofString "k"
        · rw [if_pos h3, h3]
        · rw [if_neg h3]
  · intro i a t v m₁ news₁ s₁ own hs₁ ha hk hJ hmap hoff F₁ N₁
    obtain ⟨rfl, tT, vc, vi, rfl⟩ := hJ
    obtain ⟨ta, rfl⟩ := hk
    obtain ⟨hi, hal⟩ := idx_le ha hnm
    have hfl := foldK_len (T₀ := T₀) (nm := nm) (d := d) (i := i) hT (by omega)
    have hmd' : mapK m (foldK T₀ d nm i) tT vc vi (PySem.Str.ofString "dust") = some (.int (d : Int) td) := by
      rw [← hmd]; rfl
    rw [show loopB = [_] from rfl]
    have esc : scK = ⟨_, _, _, _, _⟩ := rfl
    rw [esc] at *
    k_steps
    rw [Int.toNat_natCast, ← foldK_succ ha]
    exact mapK_store
  · intro h' tk m' news' F' N' _ hJ
    obtain ⟨rfl, tT, vc, vi, rfl⟩ := hJ
    have e1 : (signs nm).length = nm.length := signs_length nm
    rw [e1] at F'
    exact done h' tk tT vc vi F' N'
end Mine
end
section
open PySem PySem.W PyProof.Rows PySem.Calls PySem.Spec
set_option maxRecDepth 100000
set_option maxHeartbeats 8000000
namespace Mine
theorem len_k3 {a b : PySem.Str} (h : a.length ≤ 2) (h' : b.length = 1) : (a ++ b).length ≤ 3 := by
  rw [PySem.Str.length_append]; omega
theorem len_bl {n : Nat} (h : n < 217456512) : (⟨(List.replicate (n / 3302 / 21952 + 1) 32).toArray⟩ : PySem.Str).length ≤ 3 := by
  have : (⟨(List.replicate (n / 3302 / 21952 + 1) 32).toArray⟩ : PySem.Str).length = n / 3302 / 21952 + 1 := by simp [PySem.Str.length]
  omega
theorem s_bh : PySem.Str.ofString "!^" = ⟨#[33, 94]⟩ := by decide +kernel
theorem s_bh9 : PySem.Str.ofString "!^\u009f" = ⟨#[33, 94, 159]⟩ := by decide +kernel
theorem s_em : PySem.Str.ofString "" = ⟨#[]⟩ := by decide +kernel
theorem foldK_all {n : Nat} {nm : PySem.Str} (h : nm = ⟨(nameN n).toArray⟩) : foldK ⟨(List.replicate (n / 3302 / 21952 + 1) 32).toArray⟩ (n / 3302) nm nm.length = ⟨(spelledN n).toArray⟩ := by
  subst h
  unfold foldK spelledN dustN
  rw [show (⟨(nameN n).toArray⟩ : PySem.Str).length = (nameN n).length by simp [PySem.Str.length]]
  rw [List.take_length, s_app]
  simp
section
variable {n : Nat} {z y : Int}
theorem pre1 (hm : metaN n = 1) : preN n = [33] := by unfold preN; rw [if_pos hm]
theorem pre0 (hm : metaN n ≠ 1) : preN n = [] := by unfold preN; rw [if_neg hm]
theorem nameBH (hz : z.toNat = lowN n) (hy : y.toNat = wayN n) (hl : lowN n = 127 ∨ lowN n < 32) (hm : metaN n = 1) : PySem.Str.ofString "!^" ++ (⟨#[behindC z.toNat y.toNat]⟩ : PySem.Str) = ⟨(nameN n).toArray⟩ := by
  unfold nameN
  rw [pre1 hm, if_pos hl, hz, hy, s_bh, s_app]; rfl
theorem nameH (hz : z.toNat = lowN n) (hy : y.toNat = wayN n) (hl : lowN n = 127 ∨ lowN n < 32) (hm : metaN n ≠ 1) : PySem.Str.ofString "^" ++ (⟨#[behindC z.toNat y.toNat]⟩ : PySem.Str) = ⟨(nameN n).toArray⟩ := by
  unfold nameN
  rw [pre0 hm, if_pos hl, hz, hy, s_hat, s_app]; rfl
theorem nameB (hz : z.toNat = lowN n) (hl : ¬ (lowN n = 127 ∨ lowN n < 32)) (hm : metaN n = 1) : PySem.Str.ofString "!" ++ (⟨#[z.toNat]⟩ : PySem.Str) = ⟨(nameN n).toArray⟩ := by
  unfold nameN
  rw [pre1 hm, if_neg hl, hz, s_bang, s_app]; rfl
theorem nameE (hz : z.toNat = lowN n) (hl : ¬ (lowN n = 127 ∨ lowN n < 32)) (hm : metaN n ≠ 1) : PySem.Str.ofString "" ++ (⟨#[z.toNat]⟩ : PySem.Str) = ⟨(nameN n).toArray⟩ := by
  unfold nameN
  rw [pre0 hm, if_neg hl, hz, s_em, s_app]; rfl
theorem oneBH (hz : z.toNat = 64 + lowN n) (h : lowN n ≠ 127) (hl : lowN n < 32) (hm : metaN n = 1) : PySem.Str.ofString "!^" ++ (⟨#[z.toNat]⟩ : PySem.Str) = ⟨(oneN n).toArray⟩ := by
  unfold oneN
  rw [pre1 hm, if_neg h, if_pos hl, hz, s_bh, s_app]; rfl
theorem oneH (hz : z.toNat = 64 + lowN n) (h : lowN n ≠ 127) (hl : lowN n < 32) (hm : metaN n ≠ 1) : PySem.Str.ofString "^" ++ (⟨#[z.toNat]⟩ : PySem.Str) = ⟨(oneN n).toArray⟩ := by
  unfold oneN
  rw [pre0 hm, if_neg h, if_pos hl, hz, s_hat, s_app]; rfl
theorem oneB (hz : z.toNat = lowN n) (h : lowN n ≠ 127) (hl : ¬ lowN n < 32) (hm : metaN n = 1) : PySem.Str.ofString "!" ++ (⟨#[z.toNat]⟩ : PySem.Str) = ⟨(oneN n).toArray⟩ := by
  unfold oneN
  rw [pre1 hm, if_neg h, if_neg hl, hz, s_bang, s_app]; rfl
theorem oneE (hz : z.toNat = lowN n) (h : lowN n ≠ 127) (hl : ¬ lowN n < 32) (hm : metaN n ≠ 1) : PySem.Str.ofString "" ++ (⟨#[z.toNat]⟩ : PySem.Str) = ⟨(oneN n).toArray⟩ := by
  unfold oneN
  rw [pre0 hm, if_neg h, if_neg hl, hz, s_em, s_app]; rfl
theorem oneQ9 (h : lowN n = 127) (hm : metaN n = 1) : PySem.Str.ofString "!^\u009f" = ⟨(oneN n).toArray⟩ := by
  unfold oneN
  rw [if_pos h, if_pos hm, s_bh9]
theorem oneQ (h : lowN n = 127) (hm : metaN n ≠ 1) : PySem.Str.ofString "^?" = ⟨(oneN n).toArray⟩ := by
  unfold oneN
  rw [if_pos h, if_neg hm, s_hatq]
end
theorem key_news {h₀ h' : Heap} {L l : Addr} {A B C A' B' C' : PySem.Str} {t1 t2 t3 : Tok} {ep : Nat} {news : List (Addr × Obj)} (N : News h₀ L h' ((l, W.listOf #[.str A t1, .str B t2, .str C t3] ep) :: news)) (a : A = A') (b : B = B') (c : C = C') :
    News h₀ L h' ((l, W.listOf #[.str A' t1, .str B' t2, .str C' t3] ep) :: news) := by subst a b c; exact N
end Mine
end
section
open PySem PySem.W PyProof.Rows PySem.Calls PySem.Spec
set_option maxRecDepth 100000
set_option maxHeartbeats 8000000
namespace Mine
local macro_rules | `(tactic| walk_at "binaryOp Mod int int") => `(tactic| first | refine modBig ?_ | refine mod127 ?_ | refine mod2 ?_ | refine mod13 ?_ | refine mod28 ?_)
local macro_rules | `(tactic| walk_at "binaryOp FloorDiv int int") => `(tactic| first | refine div127 (by omega) ?_ | refine div254 (by omega) ?_ | refine div3302 (by omega) ?_ | refine div21952 (by omega) ?_)
local macro_rules | `(tactic| walk_at "binaryOp FloorDiv int int") => `(tactic| refine divPow (by omega) (by assumption) ?_)
local macro_rules | `(tactic| walk_at "binaryOp Mult str int") => `(tactic| refine mulBlank (by omega) ?_)
local macro_rules | `(tactic| walk_at "call ref") => `(tactic| (k_here; k_dflt (first
  | (refine' SpecR.use (behind_s _ _ _ _ _) ?k1 ?k2 ?k3 ?k4 ?k5 ?kK ?kp ?kd ?ku ?_; (case k1 => k_asm); (case k2 => k_asm); (case k3 => k_asm); (case k4 => k_asm); (case k5 => k_asm); (case kK => first | exact rfl | assumption); (case kp => omega); (case kd => ktr_room); (case ku => ktr_units); intro t9 h9 tk9 F9 N9; (try dsimp only); (try k_fold))
  | (refine' SpecR.use (nothing_s _ _ _) ?k1 ?k2 ?k3 ?k4 ?k5 ?kK ?kp ?kd ?ku ?_; (case k1 => k_asm); (case k2 => k_asm); (case k3 => k_asm); (case k4 => k_asm); (case k5 => k_asm); (case kK => first | exact rfl | assumption); (case kp => omega); (case kd => ktr_room); (case ku => ktr_units); intro t9 h9 tk9 F9 N9; (try dsimp only); (try k_fold)))))
local macro_rules | `(tactic| walk_at "pyIter ref") => `(tactic| refine stopHere2 ?_)
abbrev SpecK (w : World) (x : Int) (t : Tok) : Prop :=
  ∀ (mean : ExcName → Option Value) (mg mb : Str → Option Value) (news : List (Addr × Obj)) (dp un : Nat) (gd : Option (List Code)) (cn : Str) (cs : Scope) (a : Addr) (ccd : Value) (cl : List (Str × Addr)) (outer : List Env) (A₀ : Around) (base h₀ : Heap) (L : Addr) (m : Str → Option Value) (s : Shared) (Q E : Value → Shared → Prop),
    Below A₀ base outer h₀ → Fr h₀ L s.heap m → (KK w.params).In h₀ → News h₀ L s.heap news → Top qq (looseW qq loose0) mean mg mb h₀ → cs.kind = .function →
    dp + 2 < recursionLimit → un + 16 < cLine →
    (∀ (l : Addr) (t1 t2 t3 : Tok) (ep : Nat) (h' : Heap) (tk' : Nat), Fr h₀ L h' m → News h₀ L h' ((l, W.listOf #[.str ⟨#[codeN (keyN x)]⟩ t1, .str ⟨(spelledN (keyN x)).toArray⟩ t2, .str ⟨(oneN (keyN x)).toArray⟩ t3] ep) :: news) → (∀ p ∈ news, p.1 < l) → Q (.ref l) { s with heap := h', toks := tk' }) →
      wpAny (model prg w) (ktrTop dp un gd cn cs L a ccd cl outer) (call (.ref (nat_lit 139)) [.int x t]) Q E s
theorem key_s (w : World) (x : Int) (t : Tok) : SpecK w x t := by
  have hfill := for_fill; revert hfill; k_fill; intro _
  intro mean mg mb news dp un gd cn cs a ccd cl outer A₀ base h₀ L m s Q E B F X N T hk hdp hun hret
  have hkey := keyN_lt x
  refine wpAny_call ?_
  k_dflt cell_enter
  k_steps
  all_goals unfold Stop2
  all_goals try (exfalso; omega)
  all_goals (refine spell_loop w (by assumption) (by assumption) (by assumption) (by assumption) ?_ ?_ ?_ rfl rfl ?_ ?_ ?_)
  all_goals first
    | exact len_k3 (by decide +kernel) rfl
    | exact len_bl (by assumption)
    | (show keyN x / 3302 < 217456512; omega)
    | (show dp + 1 + 1 < recursionLimit; omega)
    | (show un + 3 + 8 < cLine; omega)
    | skip
  all_goals (intro h7 tk7 tT vc vi F7 N7; unfold mapK at F7)
  all_goals k_steps
  all_goals (refine hret _ _ _ _ _ _ _ (by assumption) (key_news (by assumption) ?_ (foldK_all ?_) ?_) (by assumption))
  all_goals (have hm : metaN (keyN x) = keyN x / 127 % 2 := rfl)
  all_goals (have hw : wayN (keyN x) = keyN x / 254 % 13 := rfl)
  all_goals (have hl : lowN (keyN x) = if keyN x % 127 < 32 then keyN x % 127 else keyN x % 127 + 1 := rfl)
  all_goals first
    | rw [if_pos (by omega)] at hl
    | rw [if_neg (by omega)] at hl
  all_goals first
    | exact eq1 (by unfold codeN; omega)
    | exact nameBH (by omega) (by omega) (by omega) (by omega)
    | exact nameH (by omega) (by omega) (by omega) (by omega)
    | exact nameB (by omega) (by omega) (by omega)
    | exact nameE (by omega) (by omega) (by omega)
    | exact oneBH (by omega) (by omega) (by omega) (by omega)
    | exact oneH (by omega) (by omega) (by omega) (by omega)
    | exact oneB (by omega) (by omega) (by omega) (by omega)
    | exact oneE (by omega) (by omega) (by omega) (by omega)
    | exact oneQ9 (by omega) (by omega)
    | exact oneQ (by omega) (by omega)
end Mine
end
section
open PySem PySem.W PyProof.Rows PySem.Calls PySem.Spec
set_option maxRecDepth 100000
set_option maxHeartbeats 8000000
namespace Mine
theorem read_s (w : World) (n : Nat) (t : Tok) : SpecR w (nat_lit 153) 5 40 True [.str ⟨(nameN n).toArray⟩ t] (fun t => .str ⟨#[codeN n]⟩ t) := by
  intro mean mg mb news dp un gd cn cs a ccd cl outer A₀ base h₀ L m s Q E B F X N T hk hpre hdp hun hret
  rcases shape_cases n with e | ⟨c, hc, e, e'⟩ | ⟨c, hc, e, e'⟩ | ⟨c, hc, e, e'⟩
  · rw [e]; exact SpecR.use (read1 w _ t) B F X N T hk trivial (by omega) (by omega) hret
  · rw [e] ; rw [e'] at hret; exact SpecR.use (read3 w c t) B F X N T hk hc (by omega) (by omega) hret
  · rw [e] ; rw [e'] at hret; exact SpecR.use (hat_s w c t) B F X N T hk hc (by omega) (by omega) hret
  · rw [e] ; rw [e'] at hret; exact SpecR.use (read4 w c t) B F X N T hk hc (by omega) (by omega) hret
local macro_rules | `(tactic| walk_at "call ref") => `(tactic| (k_here; k_dflt (first
  | (refine' SpecR.use (c11 _ _ _) ?k1 ?k2 ?k3 ?k4 ?k5 ?kK ?kp ?kd ?ku ?_; (case k1 => k_asm); (case k2 => k_asm); (case k3 => k_asm); (case k4 => k_asm); (case k5 => k_asm); (case kK => first | exact rfl | assumption); (case kp => trivial); (case kd => ktr_room); (case ku => ktr_units); intro t9 h9 tk9 F9 N9; (try dsimp only); (try k_fold))
  | (refine' SpecR.use (b1_s _ _ _) ?k1 ?k2 ?k3 ?k4 ?k5 ?kK ?kp ?kd ?ku ?_; (case k1 => k_asm); (case k2 => k_asm); (case k3 => k_asm); (case k4 => k_asm); (case k5 => k_asm); (case kK => first | exact rfl | assumption); (case kp => trivial); (case kd => ktr_room); (case ku => ktr_units); intro t9 h9 tk9 F9 N9; (try dsimp only); (try k_fold)))))
def Stop (P : Prop) : Prop := P
theorem stopHere {P : Prop} (h : Stop P) : P := h
local macro_rules | `(tactic| walk_at "pyIter str") => `(tactic| refine stopHere ?_)
local macro_rules | `(tactic| walk_at "exec For") => `(tactic| (k_here; (with_reducible show wpAny _ _ (exec (Stmt.For (Expr.Name _ _) (Expr.BinOp _ _ _ _) _ _ _) _) _ _ _); (rename Fr _ _ _ _ => lF'); (with_unfolding_all refine' For_invVF lF' ?k1 ?k2 ?_; (case k1 => exact rfl); (case k2 => exact rfl); k_whole)))
def stepN (st : List Nat × List (List Nat)) (c : Nat) : List Nat × List (List Nat) :=
  if c = 32 then ([], if st.1 = [] then st.2 else st.2 ++ [st.1]) else if b1B c then st else (st.1 ++ [c], st.2)
theorem namesGo_fold : ∀ (l acc : List Nat) (names : List (List Nat)), namesGo l acc names = (l.foldl stepN (acc, names)).2
  | [], _, _ => rfl
  | c :: r, acc, names => by
    rw [namesGo, List.foldl_cons, stepN]
    split
    · exact namesGo_fold r _ _
    · split
      · exact namesGo_fold r _ _
      · exact namesGo_fold r _ _
def VT : List Value → List (List Nat) → Prop
  | [], [] => True
  | v :: r, l :: q => (∃ t, v = .str ⟨l.toArray⟩ t) ∧ VT r q
  | _, _ => False
theorem VT.snoc : ∀ {vs : List Value} {ls : List (List Nat)} {l : List Nat} {t : Tok}, VT vs ls → VT (vs ++ [.str ⟨l.toArray⟩ t]) (ls ++ [l])
  | [], [], _, t, _ => ⟨⟨t, rfl⟩, trivial⟩
  | _ :: _, _ :: _, _, _, h => ⟨h.1, VT.snoc h.2⟩
theorem VT.length : ∀ {vs : List Value} {ls : List (List Nat)}, VT vs ls → vs.length = ls.length
  | [], [], _ => rfl
  | _ :: _, _ :: _, h => by simp [VT.length h.2]
theorem s_empty : PySem.Str.ofString "" = ⟨#[]⟩ := by decide +kernel
structure Sg where
  nm : List Nat
  nt : Tok
  vs : List Value
  ep : Nat
def stepI (st : List Nat × List (List Nat)) (i : Int) : List Nat × List (List Nat) := stepN st i.toNat
def InvN (pre : List Int) (c : Sg) : Prop := ∃ names, VT c.vs names ∧ (c.nm, names) = pre.foldl stepI ([], []) ∧ c.nm.length ≤ pre.length ∧ c.vs.length ≤ pre.length
theorem s_blank : PySem.Str.ofString " " = ⟨#[32]⟩ := by decide +kernel
theorem is_blank {n : Nat} (h : ((⟨#[n]⟩ : PySem.Str) == PySem.Str.ofString " ") = true) : n = 32 := by
  rw [s_blank, beq_iff_eq] at h
  simpa using h
theorem no_blank {n : Nat} (h : ((⟨#[n]⟩ : PySem.Str) == PySem.Str.ofString " ") = false) : n ≠ 32 := by
  rintro rfl
  rw [s_blank] at h
  simp at h
theorem no_empty {l : List Nat} (h : ((⟨l.toArray⟩ : PySem.Str) != PySem.Str.ofString "") = true) : l ≠ [] := by
  rintro rfl
  rw [s_empty] at h
  simp at h
theorem is_empty {l : List Nat} (h : ((⟨l.toArray⟩ : PySem.Str) != PySem.Str.ofString "") = false) : l = [] := by
  rw [s_empty] at h
  simpa using h
section
variable {pre : List Int} {c : Sg} {n : Nat} {t t' : Tok} {e : Nat}
theorem stepI_at {st : List Nat × List (List Nat)} {n : Nat} : stepI st (n : Int) = stepN st n := by unfold stepI; rw [Int.toNat_natCast]
theorem InvN.blank (h : InvN pre c) (hn : n = 32) (hc : c.nm = []) : InvN (pre ++ [(n : Int)]) ⟨[], t, c.vs, c.ep⟩ := by
  obtain ⟨names, a, b, d, f⟩ := h
  refine ⟨names, a, ?_, Nat.zero_le _, ?_⟩
  · rw [List.foldl_append, ← b, List.foldl_cons, List.foldl_nil, stepI_at, stepN, if_pos hn, hc]; rfl
  · rw [List.length_append]; exact Nat.le_add_right_of_le f
theorem InvN.push (h : InvN pre c) (hn : n = 32) (hc : c.nm ≠ []) : InvN (pre ++ [(n : Int)]) ⟨[], t, c.vs ++ [.str ⟨c.nm.toArray⟩ t'], e⟩ := by
  obtain ⟨names, a, b, d, f⟩ := h
  refine ⟨names ++ [c.nm], a.snoc, ?_, Nat.zero_le _, ?_⟩
  · rw [List.foldl_append, ← b, List.foldl_cons, List.foldl_nil, stepI_at, stepN, if_pos hn, if_neg hc]
  · rw [List.length_append, List.length_append]; exact Nat.add_le_add_right f 1
theorem InvN.dust (h : InvN pre c) (hn : n ≠ 32) (hc : b1B n = true) : InvN (pre ++ [(n : Int)]) c := by
  obtain ⟨names, a, b, d, f⟩ := h
  refine ⟨names, a, ?_, ?_, ?_⟩
  · rw [List.foldl_append, ← b, List.foldl_cons, List.foldl_nil, stepI_at, stepN, if_neg hn, if_pos hc]
  · rw [List.length_append]; exact Nat.le_add_right_of_le d
  · rw [List.length_append]; exact Nat.le_add_right_of_le f
theorem InvN.sign (h : InvN pre c) (hn : n ≠ 32) (hc : b1B n = false) : InvN (pre ++ [(n : Int)]) ⟨c.nm ++ [n], t, c.vs, c.ep⟩ := by
  obtain ⟨names, a, b, d, f⟩ := h
  refine ⟨names, a, ?_, ?_, ?_⟩
  · rw [List.foldl_append, ← b, List.foldl_cons, List.foldl_nil, stepI_at, stepN, if_neg hn, if_neg (by rw [hc]; exact Bool.false_ne_true)]
  · rw [List.length_append, List.length_append]; exact Nat.add_le_add_right d 1
  · rw [List.length_append]; exact Nat.le_add_right_of_le f
end
section
variable {x y z : PySem.Str} {v v' : Value} {v1 v2 : Option Value} {u m₀ : PySem.Str → Option Value}
theorem rest_at (hx : z ≠ x) (hy : ∀ p ∈ [(y, v')], z ≠ p.1) : (if z = x then v2 else kstB (fun z => if ([] : List PySem.Str).contains z then u z else m₀ z) [(y, v)] z) = m₀ z := by
  have hy := hy _ (List.mem_singleton.mpr rfl)
  have hy : z ≠ y := hy
  rw [if_neg hx]
  show (if z = y then some v else (if ([] : List PySem.Str).contains z then u z else m₀ z)) = m₀ z
  rw [if_neg hy]
  rfl
theorem rest_at2 (hx : z ≠ x) (hy : ∀ p ∈ [(y, v')], z ≠ p.1) : (if z = y then v1 else if z = x then v2 else kstB (fun z => if ([] : List PySem.Str).contains z then u z else m₀ z) [(y, v)] z) = m₀ z := by
  have hy' := hy _ (List.mem_singleton.mpr rfl)
  rw [if_neg hy']
  exact rest_at hx hy
end
section
variable {h₀ h' : Heap} {L l : Addr} {own news : List (Addr × Obj)} {T : PySem.Str} {t : Tok} {v2 : Option Value} {v : Value} {u m₀ : PySem.Str → Option Value} {vs : Array Value} {ep : Nat} {pre : List Int} {s₁ : Shared} {tk : Nat}
theorem end_name (nm : List Nat) (vl : List Value)
    (F : Fr h₀ L h' (fun y => if y = PySem.Str.ofString "name" then some (.str T t) else if y = PySem.Str.ofString "sign" then v2 else kstB (fun z => if ([] : List PySem.Str).contains z then u z else m₀ z) [(PySem.Str.ofString "name", v)] y))
    (N : News h₀ L h' ((l, W.listOf vs ep) :: (news ++ own))) (hT : T = ⟨nm.toArray⟩) (hv : vs = vl.toArray) (hp : InvN pre ⟨nm, t, vl, ep⟩) :
    InvEndN h₀ L (KstS (fun c : Sg => (l, W.listOf c.vs.toArray c.ep) :: news) (fun c : Sg => [(PySem.Str.ofString "name", .str ⟨c.nm.toArray⟩ c.nt)]) (fun _ => True) (PySem.Str.ofString "sign") [] m₀ InvN pre) own (((l, W.listOf #[] 0) :: news).map (·.1)) s₁ { s₁ with heap := h', toks := tk } := by
  subst hT hv
  refine kst_end ⟨nm, t, vl, ep⟩ F N (fun p hp => ?_) (fun p hp => ?_) rfl trivial (fun p hp => ?_) (fun z hz hy _ => rest_at2 hz hy) hp
  · rcases List.mem_cons.mp hp with rfl | hp
    · exact List.mem_cons_self
    · exact List.mem_cons_of_mem _ (List.mem_append_left _ hp)
  · exact List.mem_cons_of_mem _ (List.mem_append_right _ hp)
  · rw [List.mem_singleton.mp hp]
    exact if_pos rfl
theorem end_same {c : Sg}
    (F : Fr h₀ L h' (fun y => if y = PySem.Str.ofString "sign" then v2 else kstB (fun z => if ([] : List PySem.Str).contains z then u z else m₀ z) [(PySem.Str.ofString "name", .str ⟨c.nm.toArray⟩ c.nt)] y))
    (N : News h₀ L h' ((l, W.listOf c.vs.toArray c.ep) :: (news ++ own))) (hp : InvN pre c) :
    InvEndN h₀ L (KstS (fun c : Sg => (l, W.listOf c.vs.toArray c.ep) :: news) (fun c : Sg => [(PySem.Str.ofString "name", .str ⟨c.nm.toArray⟩ c.nt)]) (fun _ => True) (PySem.Str.ofString "sign") [] m₀ InvN pre) own (((l, W.listOf #[] 0) :: news).map (·.1)) s₁ { s₁ with heap := h', toks := tk } := by
  refine kst_end c F N (fun p hp => ?_) (fun p hp => ?_) rfl trivial (fun p hp => ?_) (fun z hz hy _ => rest_at hz hy) hp
  · rcases List.mem_cons.mp hp with rfl | hp
    · exact List.mem_cons_self
    · exact List.mem_cons_of_mem _ (List.mem_append_left _ hp)
  · exact List.mem_cons_of_mem _ (List.mem_append_right _ hp)
  · rw [List.mem_singleton.mp hp]
    show (if PySem.Str.ofString "name" = PySem.Str.ofString "sign" then v2 else _) = _
    rw [if_neg (by decide +kernel)]
    exact if_pos (c := PySem.Str.ofString "name" = PySem.Str.ofString "name") (e := (if ([] : List PySem.Str).contains (PySem.Str.ofString "name") then u (PySem.Str.ofString "name") else m₀ (PySem.Str.ofString "name"))) rfl
end
theorem InvN.done {x : PySem.Str} {c : Sg} (h : InvN (KStt.codes (x ++ PySem.Str.ofString " ")) c) : ∃ names, VT c.vs names ∧ names = namesGo (x.cps.toList ++ [32]) [] [] := by
  obtain ⟨names, a, b, _, _⟩ := h
  refine ⟨names, a, ?_⟩
  rw [namesGo_fold]
  have e : ∀ (l : List Nat) (st : List Nat × List (List Nat)), (l.map fun (c : Nat) => (c : Int)).foldl stepI st = l.foldl stepN st := by
    intro l
    induction l with
    | nil => intro st; rfl
    | cons a l ih => intro st; rw [List.map_cons, List.foldl_cons, List.foldl_cons, stepI_at, ih]
  unfold KStt.codes at b
  rw [e, PySem.Str.cps_append, Array.toList_append, s_blank] at b
  have b := congrArg Prod.snd b
  exact b
/-- what _law_names comes to: a list of its own with the texts -/
abbrev SpecN (w : World) (x : PySem.Str) (t : Tok) : Prop :=
  ∀ (mean : ExcName → Option Value) (mg mb : Str → Option Value) (news : List (Addr × Obj)) (dp un : Nat) (gd : Option (List Code)) (cn : Str) (cs : Scope) (a : Addr) (ccd : Value) (cl : List (Str × Addr)) (outer : List Env) (A₀ : Around) (base h₀ : Heap) (L : Addr) (m : Str → Option Value) (s : Shared) (Q E : Value → Shared → Prop),
    Below A₀ base outer h₀ → Fr h₀ L s.heap m → (KK w.params).In h₀ → News h₀ L s.heap news → Top qq (looseW qq loose0) mean mg mb h₀ → cs.kind = .function →
    x.length ≤ 1000 → dp + 2 < recursionLimit → un + 16 < cLine →
    (∀ (l : Addr) (vs : List Value) (ep : Nat) (names : List (List Nat)) (h' : Heap) (tk' : Nat), Fr h₀ L h' m → News h₀ L h' ((l, W.listOf vs.toArray ep) :: news) → (∀ p ∈ news, p.1 < l) → VT vs names → names = namesGo (x.cps.toList ++ [32]) [] [] → vs.length ≤ 1001 → Q (.ref l) { s with heap := h', toks := tk' }) →
      wpAny (model prg w) (ktrTop dp un gd cn cs L a ccd cl outer) (call (.ref (nat_lit 146)) [.str x t]) Q E s
theorem names_s (w : World) (x : PySem.Str) (t : Tok) : SpecN w x t := by
  have hfill := for_fill; revert hfill; k_fill; intro _
  intro mean mg mb news dp un gd cn cs a ccd cl outer A₀ base h₀ L m s Q E B F X N T hk hpre hdp hun hret
  refine wpAny_call ?_
  k_dflt cell_enter
  k_steps
  unfold Stop
  rename_i tk0 l h2 l1 h1 h' lF N1 t1 k1 hlen
  refine KStt.kst_text (σ := Sg) (fun c => (l, W.listOf c.vs.toArray c.ep) :: news) (fun c => [(PySem.Str.ofString "name", .str ⟨c.nm.toArray⟩ c.nt)]) (fun _ => True) [] InvN ⟨[], tk, [], 0⟩ rfl lF N1 trivial ?hk ?hp ?turn ?done
  case hk =>
    intro p hp
    rw [List.mem_singleton] at hp
    subst hp
    rw [if_pos rfl, s_empty]
  case hp => exact ⟨[], trivial, rfl, Nat.zero_le _, Nat.zero_le _⟩
  case turn =>
    intro c pre post n tn u hh tkn own hcodes hoff _ hP FF NN
    rw [List.cons_append] at NN
    have hoffs : ∀ p ∈ news ++ own, p.1 ≠ l := fun p hp => by
      rcases List.mem_append.mp hp with q | q
      · exact Nat.ne_of_lt (l1 p q)
      · exact hoff p q l (by simp)
    have hlc : pre.length ≤ 1000 := by
      have e := congrArg List.length hcodes
      rw [KStt.codes_length, PySem.Str.length_append, List.length_append, List.length_cons] at e
      have e1 : (PySem.Str.ofString " ").length = 1 := by decide +kernel
      omega
    have hnl : c.nm.length ≤ 1001 := by obtain ⟨_, _, _, z, _⟩ := hP; omega
    have hvl : c.vs.toArray.size ≤ sizeLine := by obtain ⟨_, _, _, _, z⟩ := hP; rw [sizeLine_eq, List.size_toArray]; omega
    k_steps
    · refine end_name [] (c.vs ++ [.str ⟨c.nm.toArray⟩ c.nt]) (by assumption) (by assumption) s_empty (by simp) (hP.push (is_blank (by assumption)) (no_empty (by assumption)))
    · refine end_name [] c.vs (by assumption) (by assumption) s_empty rfl (hP.blank (is_blank (by assumption)) (is_empty (by assumption)))
    · refine end_same (by assumption) (by assumption) (hP.dust (no_blank (by assumption)) (by assumption))
    · refine end_name (c.nm ++ [n]) c.vs (by assumption) (by assumption) (by rw [s_app]; simp) rfl (hP.sign (no_blank (by assumption)) (by assumption))
  case done =>
    intro c u hh tkn _ hP FF NN
    obtain ⟨names, hV, hn⟩ := hP.done
    have hvl : c.vs.length ≤ 1001 := by
      obtain ⟨_, _, _, _, z⟩ := hP
      rw [KStt.codes_length, PySem.Str.length_append] at z
      have e1 : (PySem.Str.ofString " ").length = 1 := by decide +kernel
      omega
    k_steps
    exact hret l c.vs c.ep names _ _ (by assumption) (by assumption) l1 hV hn hvl
end Mine
end
section
open PySem PySem.W PyProof.Rows PySem.Calls PySem.Spec
set_option maxRecDepth 100000
set_option maxHeartbeats 8000000
namespace Mine
abbrev keyObj (n : Nat) (t1 t2 t3 : Tok) (ep : Nat) : Obj := W.listOf #[.str ⟨#[codeN n]⟩ t1, .str ⟨(spelledN n).toArray⟩ t2, .str ⟨(oneN n).toArray⟩ t3] ep
/-- the list of keys: each item refers to an object of the ledger with the key's three texts -/
def KeysAre (nw : List (Addr × Obj)) : List Value → List Nat → Prop
  | [], [] => True
  | v :: vs, n :: ns => (∃ l t1 t2 t3 ep, v = .ref l ∧ (l, keyObj n t1 t2 t3 ep) ∈ nw) ∧ KeysAre nw vs ns
  | _, _ => False
theorem KeysAre.mono {nw nw' : List (Addr × Obj)} (h : ∀ p ∈ nw, p ∈ nw') : ∀ {vs : List Value} {ns : List Nat}, KeysAre nw vs ns → KeysAre nw' vs ns
  | [], [], _ => trivial
  | _ :: _, _ :: _, ⟨⟨l, t1, t2, t3, ep, e, hm⟩, r⟩ => ⟨⟨l, t1, t2, t3, ep, e, h _ hm⟩, KeysAre.mono h r⟩
theorem KeysAre.snoc {nw : List (Addr × Obj)} {n : Nat} {l : Addr} {t1 t2 t3 : Tok} {ep : Nat} (hm : (l, keyObj n t1 t2 t3 ep) ∈ nw) : ∀ {vs : List Value} {ns : List Nat}, KeysAre nw vs ns → KeysAre nw (vs ++ [.ref l]) (ns ++ [n])
  | [], [], _ => ⟨⟨l, t1, t2, t3, ep, rfl, hm⟩, trivial⟩
  | _ :: _, _ :: _, ⟨a, r⟩ => ⟨a, KeysAre.snoc hm r⟩
theorem KeysAre.len {nw : List (Addr × Obj)} : ∀ {vs : List Value} {ns : List Nat}, KeysAre nw vs ns → vs.length = ns.length
  | [], [], _ => rfl
  | _ :: _, _ :: _, ⟨_, r⟩ => by rw [List.length_cons, List.length_cons, KeysAre.len r]
theorem KeysAre.at {nw : List (Addr × Obj)} : ∀ {vs : List Value} {ns : List Nat}, KeysAre nw vs ns → ∀ (i : Nat) (v : Value), vs[i]? = some v → ∃ n l t1 t2 t3 ep, ns[i]? = some n ∧ v = .ref l ∧ (l, keyObj n t1 t2 t3 ep) ∈ nw
  | [], [], _, i, v, h => by simp at h
  | _ :: _, n :: _, ⟨⟨l, t1, t2, t3, ep, e, hm⟩, r⟩, 0, v, h => by
    simp only [List.getElem?_cons_zero, Option.some.injEq] at h
    exact ⟨n, l, t1, t2, t3, ep, rfl, h ▸ e, hm⟩
  | _ :: _, _ :: _, ⟨_, r⟩, i + 1, v, h => by
    simp only [List.getElem?_cons_succ] at h
    obtain ⟨n, z⟩ := KeysAre.at r i v h
    exact ⟨n, z⟩
theorem VT.at : ∀ {vs : List Value} {ls : List (List Nat)}, VT vs ls → ∀ (i : Nat) (v : Value), vs[i]? = some v → ∃ l t, ls[i]? = some l ∧ v = .str ⟨l.toArray⟩ t
  | [], [], _, i, v, h => by simp at h
  | _ :: _, l :: _, ⟨⟨t, e⟩, r⟩, 0, v, h => by
    simp only [List.getElem?_cons_zero, Option.some.injEq] at h
    exact ⟨l, t, rfl, h ▸ e⟩
  | _ :: _, _ :: _, ⟨_, r⟩, i + 1, v, h => by
    simp only [List.getElem?_cons_succ] at h
    obtain ⟨l, z⟩ := VT.at r i v h
    exact ⟨l, z⟩
abbrev strOf (l : List Nat) : PySem.Str := ⟨l.toArray⟩
theorem VT.strs : ∀ {vs : List Value} {ls : List (List Nat)}, VT vs ls → StrsAre vs (ls.map strOf)
  | [], [], _ => .nil
  | _ :: _, l :: _, ⟨⟨t, e⟩, r⟩ => by rw [e]; exact .cons _ t (VT.strs r)
section
variable {prog : Program} {w : World} {A : Around} {h₀ : Heap} {L : Addr} {m : Str → Option Value} {env : Env} {elt : Expr} {x : Str} {scope : Scope} {cl : List (Str × Addr)} {s : Shared} {S : List (Addr × Obj) → Prop} {P : Nat → Value → Prop} {Fin : List Value → List (Addr × Obj) → Prop} {news : List (Addr × Obj)}
/-- the turns of a comprehension by an invariant -/
theorem comp_ind {n : Nat} (J : Nat → List Value → List (Addr × Obj) → Prop) (h0 : J 0 [] news)
    (step : ∀ i v I oI C oC D m₂ ys nw h tk (E' : Value → Shared → Prop), i < n → J i ys nw → P i v → LCg.NsObj oC m₂ → m₂ x = some v → Fr h₀ L h m → News h₀ L h ((I, oI) :: (C, oC) :: (D, LCg.lst ys) :: nw) → LCg.Off3 I C D nw → ((@Ne Nat I C) ∧ (@Ne Nat I D) ∧ (@Ne Nat C D)) →
      wpAny (model prog w) A (eval elt (compEnvC scope cl C env)) (LCg.CompEnd h₀ L m { s with heap := h, toks := tk } I oI C oC D (LCg.lst ys) S (fun y nw' => J (i + 1) (ys ++ [y]) nw')) E' { s with heap := h, toks := tk })
    (fin : ∀ ys nw, J n ys nw → Fin ys nw) : LCg.CompRest prog w A h₀ L m env elt x scope cl s S P Fin n 0 [] news := by
  have key : ∀ (j i : Nat) (ys : List Value) (nw : List (Addr × Obj)), i + j = n → J i ys nw → LCg.CompRest prog w A h₀ L m env elt x scope cl s S P Fin j i ys nw := by
    intro j
    induction j with
    | zero =>
      intro i ys nw hi hJ
      have e : i = n := by omega
      subst e
      exact LCg.CompRest.zero (fin ys nw hJ)
    | succ j ih =>
      intro i ys nw hi hJ
      refine LCg.CompRest.succ ?_
      intro v I oI C oC D m₂ h tk E' hv hC hx F N off ne
      refine wpAny_mono (step i v I oI C oC D m₂ ys nw h tk E' (by omega) hJ hv hC hx F N off ne) (fun y s₂ hq => ?_) fun _ _ e => e
      obtain ⟨h', tk', nw', e, F', N', off', hS, hj⟩ := hq
      exact ⟨h', tk', nw', e, F', N', off', hS, ih (i + 1) _ _ (by omega) hj⟩
  exact key n 0 [] news (by omega) h0
end
section
variable {prog : Program} {w : World} {A : Around} {E : Value → Shared → Prop} {s : Shared} {Q : Value → Shared → Prop} {value slice : PySem.Expr} {l : Addr} {u : Tok} {a b c : Value} {h₀ : Heap} {L : Addr} {ep : Nat} {news : List (Addr × Obj)}
theorem item3 {v : Value} {k : Int} (N : News h₀ L s.heap news) (hm : (l, W.listOf #[a, b, c] ep) ∈ news) (h0 : 0 ≤ k) (h1 : k < 3) (hv : #[a, b, c][k.toNat]? = some v) (h : Q v s)
    (hs : subscripted slice false (.ref l) (.int k u) = operate [.ref l, .int k u] (getItem (.ref l) (.int k u)) := by with_unfolding_all rfl) :
    wpAny (model prog w) A (subscriptTail value slice (.ref l) (.int k u)) Q E s := by
  have hl : s.heap.IsList l #[a, b, c] := ⟨_, (N _ hm).1, rfl, _, rfl⟩
  exact tail_any hl.typeIs slot_list_getitem.lookup (wpAny_getItem_list hl h0 (by omega) hv h) hs
end
theorem strs_canLay : ∀ ns : List PySem.Str, (∀ a ∈ ns, PyData.strOk a = true) → PyData.canLayAll0 (ns.map PyData.str) = true
  | [], _ => rfl
  | a :: r, h => by simp [PyData.canLayAll0, PyData.canLay0, h a List.mem_cons_self, strs_canLay r fun b hb => h b (List.mem_cons_of_mem _ hb)]
theorem strs_depth : ∀ ns : List PySem.Str, PyData.depthAll (ns.map PyData.str) = 0
  | [] => rfl
  | _ :: r => by simp [PyData.depthAll, PyData.depth, strs_depth r]
theorem strs_shaped (ns : List PySem.Str) (h : ∀ a ∈ ns, PyData.strOk a = true) : SeqAt.shaped (.list (ns.map PyData.str)) = true := by
  simp [SeqAt.shaped, PyData.canLay0, PyData.depth, strs_canLay ns h, strs_depth]
theorem strs_same : ∀ ns : List PySem.Str, PySem.Spec.sameAll (ns.map PyData.str) (ns.map PyData.str) = true
  | [] => by simp [PySem.Spec.sameAll]
  | a :: r => by simp [PySem.Spec.sameAll, PySem.Spec.same, strs_same r]
section
variable {prog : Program} {w : World} {A : Around} {E : Value → Shared → Prop} {s : Shared} {a b : Addr} {xs ys : List Value} {ns : List PySem.Str} {Q : Value → Shared → Prop}
theorem eq_strs (ha : s.heap.IsList a xs.toArray) (hb : s.heap.IsList b ys.toArray) (hi : StrsAre xs ns) (hj : StrsAre ys ns) (hok : ∀ a ∈ ns, PyData.strOk a = true) (hu : A.units + 64 < cLine) (h : Q (.bool true) s) :
    wpAny (model prog w) A (compareOp .Eq (.ref a) (.ref b)) Q E s :=
  eq_dataH_same (reads_newData ha hi.carried) (reads_newData hb hj.carried) (strs_shaped _ hok) (strs_shaped _ hok) hu (SeqAt.noMix_of_shape (.list .str) rfl _ _ (list_map_has fun _ => rfl) (list_map_has fun _ => rfl)) (by
    have e : PySem.Spec.same (.list (ns.map PyData.str)) (.list (ns.map PyData.str)) = true := by simp only [PySem.Spec.same]; exact strs_same ns
    rw [e]; exact h)
theorem ne_strs (ha : s.heap.IsList a xs.toArray) (hb : s.heap.IsList b ys.toArray) (hi : StrsAre xs ns) (hj : StrsAre ys ns) (hok : ∀ a ∈ ns, PyData.strOk a = true) (hu : A.units + 64 < cLine) (h : Q (.bool false) s) :
    wpAny (model prog w) A (compareOp .NotEq (.ref a) (.ref b)) Q E s :=
  ne_dataH_same (reads_newData ha hi.carried) (reads_newData hb hj.carried) (strs_shaped _ hok) (strs_shaped _ hok) hu (SeqAt.noMix_of_shape (.list .str) rfl _ _ (list_map_has fun _ => rfl) (list_map_has fun _ => rfl)) (by
    have e : PySem.Spec.same (.list (ns.map PyData.str)) (.list (ns.map PyData.str)) = true := by simp only [PySem.Spec.same]; exact strs_same ns
    rw [e]; exact h)
end
theorem ok_code (ns : List Nat) : ∀ a ∈ (ns.map fun n => [codeN n]).map strOf, PyData.strOk a = true := by
  intro a ha
  rw [List.map_map] at ha
  obtain ⟨n, _, rfl⟩ := List.mem_map.mp ha
  have := code_lt n
  simp only [Function.comp, PyData.strOk, List.all_toArray, List.all_cons, List.all_nil, Bool.and_true, decide_eq_true_eq]
  omega
theorem ok_unctrl : ∀ c : Nat, c < 256 → (unctrlF c).all (fun k => decide (k < 0x110000)) = true := by decide +kernel
theorem ok_one (ns : List Nat) : ∀ a ∈ (ns.map oneN).map strOf, PyData.strOk a = true := by
  intro a ha
  rw [List.map_map] at ha
  obtain ⟨n, _, rfl⟩ := List.mem_map.mp ha
  have h := ok_unctrl _ (code_lt n)
  rw [one_is] at h
  simp only [Function.comp, PyData.strOk, List.all_toArray]
  exact h
theorem join_page : ∀ ns : List Nat, Str.join (PySem.Str.ofString "") ((ns.map spelledN).map strOf) = strOf (pageGo ns)
  | [] => rfl
  | [n] => by simp [Str.join, pageGo]
  | n :: k :: r => by
    have ih := join_page (k :: r)
    simp only [List.map_cons] at ih ⊢
    rw [Str.join, ih, s_em, s_app, s_app, pageGo]
    · simp [pageGo]
    · simp
theorem txt_join (sep : PySem.Str) (l : List PySem.Str) : Txt.join sep l = Str.join sep l := StrLaws.glued_eq_join sep l
theorem spelled_len {n : Nat} (h : n < 217456512) : (spelledN n).length ≤ 9 := by
  unfold spelledN
  have h1 := spellGo_le (dustN n) (nameN n) 0
  have h2 : (nameN n).length ≤ 3 := by
    unfold nameN preN
    split <;> split <;> simp
  have h3 : dustN n / 21952 ≤ 2 := by unfold dustN; omega
  rw [List.length_append, List.length_replicate]
  omega
theorem page_len : ∀ ns : List Nat, (∀ n ∈ ns, n < 217456512) → (pageGo ns).length ≤ 9 * ns.length
  | [], _ => by simp [pageGo]
  | n :: r, h => by
    have h1 := spelled_len (h n List.mem_cons_self)
    have h2 := page_len r fun k hk => h k (List.mem_cons_of_mem _ hk)
    rw [pageGo, List.length_append, List.length_cons]; omega
theorem spelled_sum : ∀ ns : List Nat, (∀ n ∈ ns, n < 217456512) → ((((ns.map spelledN).map strOf).map (·.length)).sum) ≤ 9 * ns.length
  | [], _ => by simp
  | n :: r, h => by
    have h1 := spelled_len (h n List.mem_cons_self)
    have h2 := spelled_sum r fun k hk => h k (List.mem_cons_of_mem _ hk)
    have h3 : (strOf (spelledN n)).length = (spelledN n).length := by simp [PySem.Str.length]
    simp only [List.map_cons, List.sum_cons, List.length_cons]
    omega
theorem SpecK.use {w : World} {x : Int} {t : Tok} (S : SpecK w x t)
    {mean : ExcName → Option Value} {mg mb : Str → Option Value} {news : List (Addr × Obj)} {dp un : Nat} {gd : Option (List Code)} {cn : Str} {cs : Scope} {a : Addr} {ccd : Value} {cl : List (Str × Addr)} {outer : List Env} {A₀ : Around} {base h₀ : Heap} {L : Addr} {m : Str → Option Value} {s : Shared} {Q E : Value → Shared → Prop}
    (B : Below A₀ base outer h₀) (F : Fr h₀ L s.heap m) (X : (KK w.params).In h₀) (N : News h₀ L s.heap news) (T : Top qq (looseW qq loose0) mean mg mb h₀) (hk : cs.kind = .function)
    (hd : dp + 2 < recursionLimit) (hu : un + 16 < cLine)
    (hret : ∀ (l : Addr) (t1 t2 t3 : Tok) (ep : Nat) (h' : Heap) (tk' : Nat), Fr h₀ L h' m → News h₀ L h' ((l, keyObj (keyN x) t1 t2 t3 ep) :: news) → (∀ p ∈ news, p.1 < l) → Q (.ref l) { s with heap := h', toks := tk' }) :
      wpAny (model prg w) (ktrTop dp un gd cn cs L a ccd cl outer) (call (.ref (nat_lit 139)) [.int x t]) Q E s :=
  S mean mg mb news dp un gd cn cs a ccd cl outer A₀ base h₀ L m s Q E B F X N T hk hd hu hret
theorem SpecN.use {w : World} {x : PySem.Str} {t : Tok} (S : SpecN w x t)
    {mean : ExcName → Option Value} {mg mb : Str → Option Value} {news : List (Addr × Obj)} {dp un : Nat} {gd : Option (List Code)} {cn : Str} {cs : Scope} {a : Addr} {ccd : Value} {cl : List (Str × Addr)} {outer : List Env} {A₀ : Around} {base h₀ : Heap} {L : Addr} {m : Str → Option Value} {s : Shared} {Q E : Value → Shared → Prop}
    (B : Below A₀ base outer h₀) (F : Fr h₀ L s.heap m) (X : (KK w.params).In h₀) (N : News h₀ L s.heap news) (T : Top qq (looseW qq loose0) mean mg mb h₀) (hk : cs.kind = .function)
    (hl : x.length ≤ 1000) (hd : dp + 2 < recursionLimit) (hu : un + 16 < cLine)
    (hret : ∀ (l : Addr) (vs : List Value) (ep : Nat) (names : List (List Nat)) (h' : Heap) (tk' : Nat), Fr h₀ L h' m → News h₀ L h' ((l, W.listOf vs.toArray ep) :: news) → (∀ p ∈ news, p.1 < l) → VT vs names → names = namesGo (x.cps.toList ++ [32]) [] [] → vs.length ≤ 1001 → Q (.ref l) { s with heap := h', toks := tk' }) :
      wpAny (model prg w) (ktrTop dp un gd cn cs L a ccd cl outer) (call (.ref (nat_lit 146)) [.str x t]) Q E s :=
  S mean mg mb news dp un gd cn cs a ccd cl outer A₀ base h₀ L m s Q E B F X N T hk hl hd hu hret
end Mine
end
section
open PySem PySem.W PyProof.Rows PySem.Calls PySem.Spec
set_option maxRecDepth 100000
set_option maxHeartbeats 8000000
namespace Mine
theorem end_key {h₀ h' : Heap} {L I C D l : Addr} {m : Str → Option Value} {s₁ : Shared} {oI oC : Obj} {S : List (Addr × Obj) → Prop} {rest : Value → List (Addr × Obj) → Prop} {tk : Nat} {ys : List Value} {nw : List (Addr × Obj)} {n : Nat} {t1 t2 t3 : Tok} {ep : Nat}
    (F : Fr h₀ L h' m) (N : News h₀ L h' ((l, keyObj n t1 t2 t3 ep) :: (I, oI) :: (C, oC) :: (D, LCg.lst ys) :: nw)) (lt : ∀ p ∈ (I, oI) :: (C, oC) :: (D, LCg.lst ys) :: nw, p.1 < l) (off : LCg.Off3 I C D nw)
    (hS : S ((l, keyObj n t1 t2 t3 ep) :: nw)) (r : rest (.ref l) ((l, keyObj n t1 t2 t3 ep) :: nw)) :
    LCg.CompEnd h₀ L m s₁ I oI C oC D (LCg.lst ys) S rest (.ref l) { s₁ with heap := h', toks := tk } := by
  refine LCg.CompEnd.intro F N ((l, keyObj n t1 t2 t3 ep) :: nw) (fun p hp => ?_) ⟨⟨?_, ?_, ?_⟩, off⟩ hS r
  · simp only [List.mem_cons] at hp ⊢
    rcases hp with h | h | h | h | h
    · exact .inr (.inl h)
    · exact .inr (.inr (.inl h))
    · exact .inr (.inr (.inr (.inl h)))
    · exact .inl h
    · exact .inr (.inr (.inr (.inr h)))
  · exact Nat.ne_of_gt (lt (I, oI) (by simp))
  · exact Nat.ne_of_gt (lt (C, oC) (by simp))
  · exact Nat.ne_of_gt (lt (D, LCg.lst ys) (by simp))
theorem end_str {h₀ h' : Heap} {L I C D : Addr} {m : Str → Option Value} {s₁ : Shared} {oI oC : Obj} {S : List (Addr × Obj) → Prop} {rest : Value → List (Addr × Obj) → Prop} {tk : Nat} {ys : List Value} {nw : List (Addr × Obj)} {v : Value}
    (F : Fr h₀ L h' m) (N : News h₀ L h' ((I, oI) :: (C, oC) :: (D, LCg.lst ys) :: nw)) (off : LCg.Off3 I C D nw) (hS : S nw) (r : rest v nw) :
    LCg.CompEnd h₀ L m s₁ I oI C oC D (LCg.lst ys) S rest v { s₁ with heap := h', toks := tk } :=
  LCg.CompEnd.intro F N nw (fun _ hp => hp) off hS r
theorem ints_some {vs : List Value} {ws c : List Int} (h : IntsAre vs (List.take 10 ws ++ c)) (hc : c.length ≤ 10) (hc' : c ≠ []) : ∃ xs : List Int, IntsAre vs xs ∧ xs.length ≤ 20 ∧ xs ≠ [] ∧ vs.length ≤ 20 := by
  have e : (List.take 10 ws ++ c).length ≤ 20 := by rw [List.length_append, List.length_take]; omega
  exact ⟨_, h, e, by simp [hc'], h.length ▸ e⟩
theorem take_map {α : Type} {ns : List Nat} {i n : Nat} (f : Nat → α) (h : ns[i]? = some n) : (ns.take (i + 1)).map f = (ns.take i).map f ++ [f n] := by
  rw [List.take_add_one, h, Option.toList_some, List.map_append]; rfl
theorem mem_of {h₀ h : Heap} {L : Addr} {a b c d p : Addr × Obj} {nw : List (Addr × Obj)} (_ : News h₀ L h (a :: b :: c :: d :: nw)) (hm : p ∈ nw) : p ∈ a :: b :: c :: d :: nw :=
  List.mem_cons_of_mem _ (List.mem_cons_of_mem _ (List.mem_cons_of_mem _ (List.mem_cons_of_mem _ hm)))
theorem mem_of5 {h₀ h : Heap} {L : Addr} {a b c d e p : Addr × Obj} {nw : List (Addr × Obj)} (_ : News h₀ L h (a :: b :: c :: d :: e :: nw)) (hm : p ∈ nw) : p ∈ a :: b :: c :: d :: e :: nw :=
  List.mem_cons_of_mem _ (List.mem_cons_of_mem _ (List.mem_cons_of_mem _ (List.mem_cons_of_mem _ (List.mem_cons_of_mem _ hm))))
theorem mem_of6 {h₀ h : Heap} {L : Addr} {a b c d e f p : Addr × Obj} {nw : List (Addr × Obj)} (_ : News h₀ L h (a :: b :: c :: d :: e :: f :: nw)) (hm : p ∈ nw) : p ∈ a :: b :: c :: d :: e :: f :: nw :=
  List.mem_cons_of_mem _ (List.mem_cons_of_mem _ (List.mem_cons_of_mem _ (List.mem_cons_of_mem _ (List.mem_cons_of_mem _ (List.mem_cons_of_mem _ hm)))))
theorem names_of {ns : List Nat} {vs : List Value} {nm : List (List Nat)} (hV : VT vs nm) (e : nm = namesGo ((strOf (pageGo ns)).cps.toList ++ [32]) [] []) (hne : ns ≠ []) : VT vs (ns.map nameN) := by
  have h := names_all ns (fun n _ => names_good n) hne
  have e' : nm = namesGo (pageGo ns ++ [32]) [] [] := e
  rw [h] at e'
  exact e' ▸ hV
theorem map_at {α : Type} {ns : List Nat} {f : Nat → α} {i : Nat} {l : α} (h : (ns.map f)[i]? = some l) : ∃ n, ns[i]? = some n ∧ l = f n := by
  rw [List.getElem?_map] at h
  obtain ⟨n, hn, rfl⟩ := Option.map_eq_some_iff.mp h
  exact ⟨n, hn, rfl⟩
/-- the ledger without its second and third entry -/
theorem drop23 {h₀ h : Heap} {L : Addr} {a b c d : Addr × Obj} {nw : List (Addr × Obj)} (N : News h₀ L h (a :: b :: c :: d :: nw)) : News h₀ L h (a :: d :: nw) := fun p hp => N p (by
  simp only [List.mem_cons] at hp ⊢
  rcases hp with h | h | h
  · exact .inl h
  · exact .inr (.inr (.inr (.inl h)))
  · exact .inr (.inr (.inr (.inr h))))
theorem drop1 {h₀ h : Heap} {L : Addr} {a : Addr × Obj} {nw : List (Addr × Obj)} (N : News h₀ L h (a :: nw)) : News h₀ L h nw := fun p hp => N p (List.mem_cons_of_mem _ hp)
theorem isList_of {h₀ h : Heap} {L D : Addr} {vs : List Value} {nw : List (Addr × Obj)} (N : News h₀ L h nw) (hm : (D, LCg.lst vs) ∈ nw) : h.IsList D vs.toArray := ⟨_, (N _ hm).1, rfl, _, rfl⟩
theorem join_keys {prog : Program} {w : World} {A : Around} {E : Value → Shared → Prop} {s : Shared} {Q : Value → Shared → Prop} {h₀ : Heap} {L D : Addr} {zs : List Value} {ns : List Nat} {nw : List (Addr × Obj)} {t : Tok}
    (N : News h₀ L s.heap ((D, LCg.lst zs) :: nw)) (hV : VT zs (ns.map spelledN)) (hl : ns.length ≤ 20) (hlt : ∀ n ∈ ns, n < 217456512) (h : ∀ t' k, Q (.str (strOf (pageGo ns)) t') { s with toks := k }) :
    wpAny (model prog w) A (call (.builtin "str.join") [.str (PySem.Str.ofString "") t, .ref D]) Q E s := by
  have hD : s.heap.IsList D zs.toArray := ⟨_, (N _ List.mem_cons_self).1, rfl, _, rfl⟩
  have hs := spelled_sum ns hlt
  refine join_listW (ys := (ns.map spelledN).map strOf) hD (by simpa using hV.strs) (by decide +kernel) (by rw [List.length_map, List.length_map]; omega) fun t' k => ?_
  rw [txt_join, join_page]
  exact h t' k
local macro_rules | `(tactic| walk_at "exec Assign cons ListComp") => `(tactic| (k_here; k_dflt (refine LCg.Assign_ListComp_U (F₀ := by k_asm) (by rfl) (by with_unfolding_all rfl) (by rfl) (by decide) (by rfl) (by decide) (by rfl) (by rfl) (by rfl) ?_)))
local macro_rules | `(tactic| walk_at "eval ListComp") => `(tactic| (k_here; k_dflt (refine LCg.ListComp_U (F₀ := by k_asm) (by rfl) (by decide) (by rfl) (by decide) (by rfl) ?_)))
local macro_rules | `(tactic| walk_at "CompSrc") => `(tactic| refine stopHere ?_)
local macro_rules | `(tactic| walk_at "CompEnd") => `(tactic| refine stopHere ?_)
local macro_rules | `(tactic| walk_at "call ref") => `(tactic| (k_here; k_dflt (first
  | (refine' SpecK.use (key_s _ _ _) ?k1 ?k2 ?k3 ?k4 ?k5 ?kK ?kd ?ku ?_; (case k1 => k_asm); (case k2 => k_asm); (case k3 => k_asm); (case k4 => k_asm); (case k5 => k_asm); (case kK => first | exact rfl | assumption); (case kd => ktr_room); (case ku => ktr_units); intro l9 t91 t92 t93 ep9 h9 tk9 F9 N9 lt9; (try dsimp only); (try k_fold))
  | (refine' SpecN.use (names_s _ _ _) ?k1 ?k2 ?k3 ?k4 ?k5 ?kK ?kl ?kd ?ku ?_; (case k1 => k_asm); (case k2 => k_asm); (case k3 => k_asm); (case k4 => k_asm); (case k5 => k_asm); (case kK => first | exact rfl | assumption); (case kl => assumption); (case kd => ktr_room); (case ku => ktr_units); intro l9 vs9 ep9 nm9 h9 tk9 F9 N9 lt9 hV9 hn9 hl9; (try dsimp only); (try k_fold))
  | (refine' SpecR.use (read_s _ _ _) ?k1 ?k2 ?k3 ?k4 ?k5 ?kK ?kp ?kd ?ku ?_; (case k1 => k_asm); (case k2 => k_asm); (case k3 => k_asm); (case k4 => k_asm); (case k5 => k_asm); (case kK => first | exact rfl | assumption); (case kp => trivial); (case kd => ktr_room); (case ku => ktr_units); intro t9 h9 tk9 F9 N9; (try dsimp only); (try k_fold))
  | (refine' SpecR.use (unctrl_s _ _ _) ?k1 ?k2 ?k3 ?k4 ?k5 ?kK ?kp ?kd ?ku ?_; (case k1 => k_asm); (case k2 => k_asm); (case k3 => k_asm); (case k4 => k_asm); (case k5 => k_asm); (case kK => first | exact rfl | assumption); (case kp => assumption); (case kd => ktr_room); (case ku => ktr_units); intro t9 h9 tk9 F9 N9; (try dsimp only); (try k_fold)))))
local macro_rules | `(tactic| walk_at "subscriptTail Name Constant ref int") => `(tactic| (k_here; k_dflt (refine' item3 ?kN (by assumption) (by decide) (by decide) (by rfl) ?_ ?khs; (case kN => k_asm); (case khs => with_unfolding_all rfl))))
local macro_rules | `(tactic| walk_at "call builtin:str.join") => `(tactic| (k_here; k_dflt (refine' join_keys ?kN (by assumption) (by assumption) (by assumption) ?_; (case kN => k_asm)); intro t8 k8))
local macro_rules | `(tactic| walk_at "compareOp NotEq ref ref") => `(tactic| refine stopHere ?_)
local macro_rules | `(tactic| walk_at "compareOp Eq ref ref") => `(tactic| refine stopHere ?_)
theorem main_top : PySem.Challenge.rw_mj0195_01.Holds := by
  w_on
  o_law
  refine holds_open (q := qq) (loose := loose0) (Xt := XtO) (XP := XL qq []) (Yf := HK.obs) (Ya := HK.val) (YP := HK.says) (N := 40000) leftO HK.of HK.keeps (fun s e => xl_of s (Bool.and_eq_true_iff.mp e).1) XL.keeps (by rfl) (by rfl) (by rfl) (fun s e => recFacts_of (Bool.and_eq_true_iff.mp e).2) (by rfl) (by first | assumption | decide +kernel) (by decide +kernel) ⟨rfl, rfl, rfl, rfl, rfl, by decide +kernel⟩ ?hw ?hc
  case hw => w_witness2
  case hc =>
    have hfill := for_fill; revert hfill; k_fill; intro _
    k_go0
    all_goals (try k_fold)
    k_steps
    unfold Stop
    (with_reducible rename News _ _ _ _ => N1)
    (with_reducible rename Fr _ _ _ _ => F1)
    (with_reducible rename IntsAre _ _ => hI1)
    obtain ⟨xs, hIx, hxl, hxne, hvl⟩ := ints_some hI1 (by decide) (by decide)
    refine LCg.CompSrc.ledger rfl F1 N1 List.mem_cons_self ?hsz ?_
    case hsz => rw [List.size_toArray, sizeLine_eq]; omega
    intro g1
    refine comp_ind (fun i ys nw => (∀ p ∈ _, p ∈ nw) ∧ KeysAre nw ys ((List.take i xs).map keyN)) ⟨fun _ h => h, trivial⟩ ?step1 ?fin1
    case step1 =>
      intro i v I oI C oC D m₂ ys nw h tk E' hi hJ hv hC hx F N off ne
      obtain ⟨k, t, e, hk⟩ := IntsAre.at hIx i v (by simpa using hv)
      subst e
      k_steps
      unfold Stop
      refine end_key (by assumption) (by assumption) (by assumption) off (Or.inr ⟨_, List.mem_cons_of_mem _ (hJ.1 _ List.mem_cons_self), rfl, _, rfl⟩) ⟨fun p hp => List.mem_cons_of_mem _ (hJ.1 p hp), ?_⟩
      rw [List.take_add_one, hk, Option.toList_some, List.map_append]
      exact KeysAre.snoc List.mem_cons_self (hJ.2.mono fun p hp => List.mem_cons_of_mem _ hp)
    case fin1 =>
      intro ys nw hJ
      rw [List.take_of_length_le (by rw [List.size_toArray]; exact Nat.le_of_eq hIx.length.symm)] at hJ
      have hK := hJ.2
      obtain ⟨ns, hns⟩ : ∃ ns, ns = xs.map keyN := ⟨_, rfl⟩
      rw [← hns] at hK
      have hnl : ns.length ≤ 20 := by rw [hns, List.length_map]; exact hxl
      have hnne : ns ≠ [] := by rw [hns]; simpa using hxne
      have hnlt : ∀ n ∈ ns, n < 217456512 := by
        intro n hn
        rw [hns] at hn
        obtain ⟨x, _, rfl⟩ := List.mem_map.mp hn
        exact keyN_lt x
      clear hJ hns hIx hI1 N1 F1 hvl hxl hxne
      k_steps
      unfold Stop
      (with_reducible rename News _ _ _ _ => N2)
      (with_reducible rename Fr _ _ _ _ => F2)
      have hyl : ys.toArray.size ≤ sizeLine := by rw [List.size_toArray, hK.len, sizeLine_eq]; omega
      refine LCg.CompSrc.ledger rfl F2 N2 List.mem_cons_self hyl ?_
      intro g2
      refine comp_ind (fun i zs nw' => nw' = (_, LCg.lst ys) :: nw ∧ VT zs ((ns.take i).map spelledN)) ⟨rfl, trivial⟩ ?step2 ?fin2
      case step2 =>
        intro i v I oI C oC D m₂ zs nw' h tk E' hi hJ hv hC hx F N off ne
        obtain ⟨rfl, hV⟩ := hJ
        obtain ⟨n, l, t1, t2, t3, ep, hn, rfl, hm⟩ := hK.at i v (by simpa using hv)
        have hm' := mem_of N hm
        k_steps
        unfold Stop
        refine end_str (by assumption) (by assumption) off (Or.inr ⟨_, List.mem_cons_self, rfl, _, rfl⟩) ⟨rfl, ?_⟩
        rw [take_map spelledN hn]
        exact hV.snoc
      case fin2 =>
        intro zs nw2 hJ2
        obtain ⟨rfl, hV2⟩ := hJ2
        rw [List.take_of_length_le (by rw [List.size_toArray]; exact Nat.le_of_eq hK.len.symm)] at hV2
        have hpl : (strOf (pageGo ns)).length ≤ 1000 := by
          have h1 := page_len ns hnlt
          have h2 : (strOf (pageGo ns)).length = (pageGo ns).length := by simp [PySem.Str.length]
          omega
        k_steps
        unfold Stop
        (with_reducible rename News _ _ _ _ => N3)
        (with_reducible rename Fr _ _ _ _ => F3)
        (with_reducible rename VT _ _ => hV3)
        have hV3 := names_of hV3 (by assumption) hnne
        refine LCg.CompSrc.ledger rfl F3 N3 List.mem_cons_self ?hsz3 ?_
        case hsz3 => rw [List.size_toArray, hV3.length, List.length_map, sizeLine_eq]; omega
        intro g3
        refine comp_ind (fun i ts nw' => nw' = (_, _) :: (_, LCg.lst zs) :: (_, LCg.lst ys) :: nw ∧ VT ts ((ns.take i).map fun n => [codeN n])) ⟨rfl, trivial⟩ ?step3 ?fin3
        case step3 =>
          intro i v I oI C oC D m₂ ts nw' h tk E' hi hJ hv hC hx F N off ne
          obtain ⟨rfl, hV⟩ := hJ
          obtain ⟨l, t, hl, rfl⟩ := hV3.at i v (by simpa using hv)
          obtain ⟨n, hn, rfl⟩ := map_at hl
          k_steps
          unfold Stop
          refine end_str (by assumption) (by assumption) off (Or.inr ⟨_, List.mem_cons_self, rfl, _, rfl⟩) ⟨rfl, ?_⟩
          rw [take_map (fun n => [codeN n]) hn]
          exact hV.snoc
        case fin3 =>
          intro ts nw3 hJ3
          obtain ⟨rfl, hV4⟩ := hJ3
          rw [List.take_of_length_le (by rw [List.size_toArray, hV3.length, List.length_map]; exact Nat.le_refl _)] at hV4
          clear hV2 hV3 hpl
          k_steps
          unfold Stop
          (with_reducible rename News _ _ _ _ => N4)
          (with_reducible rename Fr _ _ _ _ => F4)
          have N4 := drop23 N4
          have hyl : ys.toArray.size ≤ sizeLine := by rw [List.size_toArray, hK.len, sizeLine_eq]; omega
          refine LCg.CompSrc.ledger rfl F4 N4 (List.mem_cons_of_mem _ List.mem_cons_self) hyl ?_
          intro g4
          refine comp_ind (fun i us nw' => nw' = (_, LCg.lst ts) :: (_, LCg.lst ys) :: nw ∧ VT us ((ns.take i).map fun n => [codeN n])) ⟨rfl, trivial⟩ ?step4 ?fin4
          case step4 =>
            intro i v I oI C oC D m₂ us nw' h tk E' hi hJ hv hC hx F N off ne
            obtain ⟨rfl, hV⟩ := hJ
            obtain ⟨n, l, t1, t2, t3, ep, hn, rfl, hm⟩ := hK.at i v (by simpa using hv)
            have hm' := mem_of5 N hm
            k_steps
            unfold Stop
            refine end_str (by assumption) (by assumption) off (Or.inr ⟨_, List.mem_cons_of_mem _ List.mem_cons_self, rfl, _, rfl⟩) ⟨rfl, ?_⟩
            rw [take_map (fun n => [codeN n]) hn]
            exact hV.snoc
          case fin4 =>
            intro us nw4 hJ4
            obtain ⟨rfl, hV5⟩ := hJ4
            rw [List.take_of_length_le (by rw [List.size_toArray]; exact Nat.le_of_eq hK.len.symm)] at hV5
            k_steps
            unfold Stop
            (with_reducible rename News _ _ _ _ => N5)
            refine ne_strs (isList_of N5 (List.mem_cons_of_mem _ List.mem_cons_self)) (isList_of N5 List.mem_cons_self) hV4.strs hV5.strs (ok_code ns) (Nat.le_of_ble_eq_true rfl) ?_
            have N5 := drop1 N5
            k_steps
            unfold Stop
            (with_reducible rename Fr _ _ _ _ => F5)
            have htl : ts.toArray.size ≤ sizeLine := by rw [List.size_toArray, hV4.length, List.length_map, sizeLine_eq]; omega
            refine LCg.CompSrc.ledger rfl F5 N5 List.mem_cons_self htl ?_
            intro g5
            refine comp_ind (fun i rs nw' => nw' = (_, LCg.lst ts) :: (_, LCg.lst ys) :: nw ∧ VT rs ((ns.take i).map oneN)) ⟨rfl, trivial⟩ ?step5 ?fin5
            case step5 =>
              intro i v I oI C oC D m₂ rs nw' h tk E' hi hJ hv hC hx F N off ne
              obtain ⟨rfl, hV⟩ := hJ
              obtain ⟨l, t, hl, rfl⟩ := hV4.at i v (by simpa using hv)
              obtain ⟨n, hn, rfl⟩ := map_at hl
              have hcl := code_lt n
              k_steps
              unfold Stop
              refine end_str (by assumption) (by assumption) off (Or.inr ⟨_, List.mem_cons_self, rfl, _, rfl⟩) ⟨rfl, ?_⟩
              rw [take_map oneN hn, one_is]
              exact hV.snoc
            case fin5 =>
              intro rs nw5 hJ5
              obtain ⟨rfl, hV6⟩ := hJ5
              rw [List.take_of_length_le (by rw [List.size_toArray, hV4.length, List.length_map]; exact Nat.le_refl _)] at hV6
              clear hV5
              k_steps
              unfold Stop
              (with_reducible rename News _ _ _ _ => N6)
              (with_reducible rename Fr _ _ _ _ => F6)
              refine LCg.CompSrc.ledger rfl F6 N6 (List.mem_cons_of_mem _ (List.mem_cons_of_mem _ List.mem_cons_self)) hyl ?_
              intro g6
              refine comp_ind (fun i us nw' => nw' = (_, LCg.lst rs) :: (_, LCg.lst ts) :: (_, LCg.lst ys) :: nw ∧ VT us ((ns.take i).map oneN)) ⟨rfl, trivial⟩ ?step6 ?fin6
              case step6 =>
                intro i v I oI C oC D m₂ us nw' h tk E' hi hJ hv hC hx F N off ne
                obtain ⟨rfl, hV⟩ := hJ
                obtain ⟨n, l, t1, t2, t3, ep, hn, rfl, hm⟩ := hK.at i v (by simpa using hv)
                have hm' := mem_of6 N hm
                k_steps
                unfold Stop
                refine end_str (by assumption) (by assumption) off (Or.inr ⟨_, List.mem_cons_of_mem _ (List.mem_cons_of_mem _ List.mem_cons_self), rfl, _, rfl⟩) ⟨rfl, ?_⟩
                rw [take_map oneN hn]
                exact hV.snoc
              case fin6 =>
                intro us nw6 hJ6
                obtain ⟨rfl, hV7⟩ := hJ6
                rw [List.take_of_length_le (by rw [List.size_toArray]; exact Nat.le_of_eq hK.len.symm)] at hV7
                k_steps
                unfold Stop
                (with_reducible rename News _ _ _ _ => N7)
                refine eq_strs (isList_of N7 (List.mem_cons_of_mem _ List.mem_cons_self)) (isList_of N7 List.mem_cons_self) hV6.strs hV7.strs (ok_one ns) (Nat.le_of_ble_eq_true rfl) ?_
                k_steps
end Mine
end
theorem PySem.Challenge.cw_mj0195_01_holds : PySem.Challenge.rw_mj0195_01.Holds :=
  Mine.main_top
