import PyProof.Rows.All
import Wide.All
import OpenK.AllK
import Wide.FinOn
import KE.BitLaws
import Lean
import PySem.Challenge.RW_pg0226_01
set_option Elab.async false
section
open PySem PySem.W PyProof.Rows
set_option maxRecDepth 100000
namespace Mine
noncomputable section
set_option linter.unusedVariables false
abbrev prog : Program := PySem.Challenge.pw_pg0226_01
noncomputable def stm (i : Nat) : Stmt := prog.main.body.getD i (.Pass ⟨0, 0, 0, 0⟩)
noncomputable def fName : Stmt → Str | .FunctionDef n .. => n | _ => ⟨#[]⟩
noncomputable def fArgs : Stmt → Arguments | .FunctionDef _ a .. => a | _ => ⟨[], [], none, [], [], none, []⟩
noncomputable def fBody : Stmt → List Stmt | .FunctionDef _ _ b .. => b | _ => []
noncomputable def fScope : Stmt → Scope | .FunctionDef _ _ _ _ _ _ s .. => s | _ => default
noncomputable def fdAt (i : Nat) (g : Addr) (df kd doc pm : Value) (an : Option Addr) (cd ct : Value) (b : Addr) : FuncData :=
  { name := fName (stm i), qualname := fName (stm i), params := fArgs (stm i), body := .stmts (fBody (stm i)), scope := fScope (stm i), globals := g, closure := [], defaults := df, kwdefaults := kd, doc := doc, pyModule := pm, annotations := an, code := cd, closureTuple := ct, builtins := b }
noncomputable def envT : Env := { scope := prog.main.scope, locals := mainNs, globals := mainNs, cells := [], code := .ref 13, frame := some 14 }
noncomputable def bodyT : List Stmt := behindTheImports prog
noncomputable def codeT : Code := .body bodyT envT
noncomputable def pos0 : Pos := ⟨0, 0, 0, 0⟩

noncomputable def o11a (P : Params) : Obj := ⟨(.type "tuple"), none, (.seq ⟨[]⟩ 0), ⟨[]⟩⟩
noncomputable def o12a (P : Params) : Obj := ⟨.none, none, (.fields ⟨[]⟩), ⟨[]⟩⟩
noncomputable def o13a (P : Params) : Obj := ⟨(.type "code"), none, (.fields ⟨[(.str (Str.ofString "<module>") 182), (.str (Str.ofString "<module>") 183), (.str (Str.ofString "/claim/cut.py") 184), (.int (1) 0), (.int (0) 0), (.int (0) 0), (.int (0) 0), (.int (0) 0), (.ref 11), (.bool false), (.int (181) 0), (.ref 12), .none, .none, .none, .none, (.int (185) 0), (.int (1) 0), (.str (Str.ofString "/claim/cut.py") 186)]⟩), ⟨[]⟩⟩
noncomputable def o14a (P : Params) : Obj := ⟨(.type "frame"), none, .plain, ⟨[some (.ref 13), some (.ref 3), some (.ref 3), none, some (.str (Str.ofString "__main__") 164), none, some (.ref 0)]⟩⟩
noncomputable def treea (P : Params) : BT := (.node (boot_o_0 P) (.node (boot_o_1 P) (.node (boot_o_3 P) (.node (boot_o_7 P) .nil .nil) (.node (o11a P) .nil .nil)) (.node (boot_o_5 P) (.node (boot_o_9 P) .nil .nil) (.node (o13a P) .nil .nil))) (.node (boot_o_2 P) (.node (boot_o_4 P) (.node (boot_o_8 P) .nil .nil) (.node (o12a P) .nil .nil)) (.node (boot_o_6 P) (.node (boot_o_10 P) .nil .nil) (.node (o14a P) .nil .nil))))
-- a: n 15 toks 187 pos { line := 0, col := 0, endLine := 0, endCol := 0 } gens 0
noncomputable def o3A (P : Params) : Obj := ⟨(.type "dict"), none, (.dict ⟨[⟨PyData.keyHash P (Str.ofString "__name__"), (.str (Str.ofString "__name__") 165), (.str (Str.ofString "cpy313.stringprep") 272)⟩, ⟨PyData.keyHash P (Str.ofString "__doc__"), (.str (Str.ofString "__doc__") 166), .none⟩, ⟨PyData.keyHash P (Str.ofString "__package__"), (.str (Str.ofString "__package__") 167), .none⟩, ⟨PyData.keyHash P (Str.ofString "__loader__"), (.str (Str.ofString "__loader__") 168), (.builtin "__main__.__loader__#opaque")⟩, ⟨PyData.keyHash P (Str.ofString "__spec__"), (.str (Str.ofString "__spec__") 169), .none⟩, ⟨PyData.keyHash P (Str.ofString "__annotations__"), (.str (Str.ofString "__annotations__") 170), (.ref 6)⟩, ⟨PyData.keyHash P (Str.ofString "__builtins__"), (.str (Str.ofString "__builtins__") 171), (.ref 4)⟩, ⟨PyData.keyHash P (Str.ofString "__file__"), (.str (Str.ofString "__file__") 173), (.str (Str.ofString "/claim/cut.py") 172)⟩, ⟨PyData.keyHash P (Str.ofString "__cached__"), (.str (Str.ofString "__cached__") 174), .none⟩, ⟨PyData.keyHash P (Str.ofString "eq"), (.str (Str.ofString "eq") 196), (.ref 21)⟩, ⟨PyData.keyHash P (Str.ofString "add"), (.str (Str.ofString "add") 204), (.ref 28)⟩, ⟨PyData.keyHash P (Str.ofString "and_"), (.str (Str.ofString "and_") 212), (.ref 35)⟩, ⟨PyData.keyHash P (Str.ofString "lshift"), (.str (Str.ofString "lshift") 220), (.ref 42)⟩, ⟨PyData.keyHash P (Str.ofString "mul"), (.str (Str.ofString "mul") 228), (.ref 49)⟩, ⟨PyData.keyHash P (Str.ofString "rshift"), (.str (Str.ofString "rshift") 236), (.ref 56)⟩, ⟨PyData.keyHash P (Str.ofString "sub"), (.str (Str.ofString "sub") 244), (.ref 63)⟩, ⟨PyData.keyHash P (Str.ofString "xor"), (.str (Str.ofString "xor") 252), (.ref 70)⟩, ⟨PyData.keyHash P (Str.ofString "concat"), (.str (Str.ofString "concat") 261), (.ref 77)⟩, ⟨PyData.keyHash P (Str.ofString "countOf"), (.str (Str.ofString "countOf") 271), (.ref 84)⟩]⟩ 19), ⟨[]⟩⟩
noncomputable def o12A (P : Params) : Obj := ⟨.none, none, (.fields ⟨[(.int (2) 0), (.int (0) 0), (.ref 20), (.int (4) 0), (.int (0) 0), (.ref 27), (.int (6) 0), (.int (0) 0), (.ref 34), (.int (8) 0), (.int (0) 0), (.ref 41), (.int (10) 0), (.int (0) 0), (.ref 48), (.int (12) 0), (.int (0) 0), (.ref 55), (.int (14) 0), (.int (0) 0), (.ref 62), (.int (16) 0), (.int (0) 0), (.ref 69), (.int (18) 0), (.int (0) 0), (.ref 76), (.int (23) 0), (.int (0) 0), (.ref 83)]⟩), ⟨[]⟩⟩
noncomputable def o15A (P : Params) : Obj := ⟨(.type "tuple"), none, (.seq ⟨[]⟩ 0), ⟨[]⟩⟩
noncomputable def o16A (P : Params) : Obj := ⟨.none, none, (.fields ⟨[]⟩), ⟨[]⟩⟩
noncomputable def o17A (P : Params) : Obj := ⟨(.type "tuple"), none, (.seq ⟨[(.str (Str.ofString "a") 192), (.str (Str.ofString "b") 193)]⟩ 0), ⟨[]⟩⟩
noncomputable def o18A (P : Params) : Obj := ⟨(.type "tuple"), none, (.seq ⟨[]⟩ 0), ⟨[]⟩⟩
noncomputable def o19A (P : Params) : Obj := ⟨.none, none, (.func (fdAt 1 0 .none .none .none .none none .none .none 0)), ⟨[]⟩⟩
noncomputable def o20A (P : Params) : Obj := ⟨(.type "code"), none, (.fields ⟨[(.str (Str.ofString "eq") 189), (.str (Str.ofString "eq") 190), (.str (Str.ofString "/claim/cut.py") 191), (.int (2) 0), (.int (2) 0), (.int (0) 0), (.int (0) 0), (.int (3) 0), (.ref 15), (.bool true), (.int (181) 0), (.ref 16), .none, (.ref 17), (.ref 18), (.ref 19), (.int (194) 0), (.int (2) 0), (.str (Str.ofString "/claim/cut.py") 195)]⟩), ⟨[]⟩⟩
noncomputable def o21A (P : Params) : Obj := ⟨(.type "function"), none, (.func (fdAt 1 3 .none .none .none (.str (Str.ofString "cpy313.operator") 187) none (.ref 20) .none 0)), ⟨[]⟩⟩
noncomputable def o22A (P : Params) : Obj := ⟨(.type "tuple"), none, (.seq ⟨[]⟩ 0), ⟨[]⟩⟩
noncomputable def o23A (P : Params) : Obj := ⟨.none, none, (.fields ⟨[]⟩), ⟨[]⟩⟩
noncomputable def o24A (P : Params) : Obj := ⟨(.type "tuple"), none, (.seq ⟨[(.str (Str.ofString "a") 200), (.str (Str.ofString "b") 201)]⟩ 0), ⟨[]⟩⟩
noncomputable def o25A (P : Params) : Obj := ⟨(.type "tuple"), none, (.seq ⟨[]⟩ 0), ⟨[]⟩⟩
noncomputable def o26A (P : Params) : Obj := ⟨.none, none, (.func (fdAt 2 0 .none .none .none .none none .none .none 0)), ⟨[]⟩⟩
noncomputable def o27A (P : Params) : Obj := ⟨(.type "code"), none, (.fields ⟨[(.str (Str.ofString "add") 197), (.str (Str.ofString "add") 198), (.str (Str.ofString "/claim/cut.py") 199), (.int (4) 0), (.int (2) 0), (.int (0) 0), (.int (0) 0), (.int (3) 0), (.ref 22), (.bool true), (.int (181) 0), (.ref 23), .none, (.ref 24), (.ref 25), (.ref 26), (.int (202) 0), (.int (4) 0), (.str (Str.ofString "/claim/cut.py") 203)]⟩), ⟨[]⟩⟩
noncomputable def o28A (P : Params) : Obj := ⟨(.type "function"), none, (.func (fdAt 2 3 .none .none .none (.str (Str.ofString "cpy313.operator") 187) none (.ref 27) .none 0)), ⟨[]⟩⟩
noncomputable def o29A (P : Params) : Obj := ⟨(.type "tuple"), none, (.seq ⟨[]⟩ 0), ⟨[]⟩⟩
noncomputable def o30A (P : Params) : Obj := ⟨.none, none, (.fields ⟨[]⟩), ⟨[]⟩⟩
noncomputable def o31A (P : Params) : Obj := ⟨(.type "tuple"), none, (.seq ⟨[(.str (Str.ofString "a") 208), (.str (Str.ofString "b") 209)]⟩ 0), ⟨[]⟩⟩
noncomputable def o32A (P : Params) : Obj := ⟨(.type "tuple"), none, (.seq ⟨[]⟩ 0), ⟨[]⟩⟩
noncomputable def o33A (P : Params) : Obj := ⟨.none, none, (.func (fdAt 3 0 .none .none .none .none none .none .none 0)), ⟨[]⟩⟩
noncomputable def o34A (P : Params) : Obj := ⟨(.type "code"), none, (.fields ⟨[(.str (Str.ofString "and_") 205), (.str (Str.ofString "and_") 206), (.str (Str.ofString "/claim/cut.py") 207), (.int (6) 0), (.int (2) 0), (.int (0) 0), (.int (0) 0), (.int (3) 0), (.ref 29), (.bool true), (.int (181) 0), (.ref 30), .none, (.ref 31), (.ref 32), (.ref 33), (.int (210) 0), (.int (6) 0), (.str (Str.ofString "/claim/cut.py") 211)]⟩), ⟨[]⟩⟩
noncomputable def o35A (P : Params) : Obj := ⟨(.type "function"), none, (.func (fdAt 3 3 .none .none .none (.str (Str.ofString "cpy313.operator") 187) none (.ref 34) .none 0)), ⟨[]⟩⟩
noncomputable def o36A (P : Params) : Obj := ⟨(.type "tuple"), none, (.seq ⟨[]⟩ 0), ⟨[]⟩⟩
noncomputable def o37A (P : Params) : Obj := ⟨.none, none, (.fields ⟨[]⟩), ⟨[]⟩⟩
noncomputable def o38A (P : Params) : Obj := ⟨(.type "tuple"), none, (.seq ⟨[(.str (Str.ofString "a") 216), (.str (Str.ofString "b") 217)]⟩ 0), ⟨[]⟩⟩
noncomputable def o39A (P : Params) : Obj := ⟨(.type "tuple"), none, (.seq ⟨[]⟩ 0), ⟨[]⟩⟩
noncomputable def o40A (P : Params) : Obj := ⟨.none, none, (.func (fdAt 4 0 .none .none .none .none none .none .none 0)), ⟨[]⟩⟩
noncomputable def o41A (P : Params) : Obj := ⟨(.type "code"), none, (.fields ⟨[(.str (Str.ofString "lshift") 213), (.str (Str.ofString "lshift") 214), (.str (Str.ofString "/claim/cut.py") 215), (.int (8) 0), (.int (2) 0), (.int (0) 0), (.int (0) 0), (.int (3) 0), (.ref 36), (.bool true), (.int (181) 0), (.ref 37), .none, (.ref 38), (.ref 39), (.ref 40), (.int (218) 0), (.int (8) 0), (.str (Str.ofString "/claim/cut.py") 219)]⟩), ⟨[]⟩⟩
noncomputable def o42A (P : Params) : Obj := ⟨(.type "function"), none, (.func (fdAt 4 3 .none .none .none (.str (Str.ofString "cpy313.operator") 187) none (.ref 41) .none 0)), ⟨[]⟩⟩
noncomputable def o43A (P : Params) : Obj := ⟨(.type "tuple"), none, (.seq ⟨[]⟩ 0), ⟨[]⟩⟩
noncomputable def o44A (P : Params) : Obj := ⟨.none, none, (.fields ⟨[]⟩), ⟨[]⟩⟩
noncomputable def o45A (P : Params) : Obj := ⟨(.type "tuple"), none, (.seq ⟨[(.str (Str.ofString "a") 224), (.str (Str.ofString "b") 225)]⟩ 0), ⟨[]⟩⟩
noncomputable def o46A (P : Params) : Obj := ⟨(.type "tuple"), none, (.seq ⟨[]⟩ 0), ⟨[]⟩⟩
noncomputable def o47A (P : Params) : Obj := ⟨.none, none, (.func (fdAt 5 0 .none .none .none .none none .none .none 0)), ⟨[]⟩⟩
noncomputable def o48A (P : Params) : Obj := ⟨(.type "code"), none, (.fields ⟨[(.str (Str.ofString "mul") 221), (.str (Str.ofString "mul") 222), (.str (Str.ofString "/claim/cut.py") 223), (.int (10) 0), (.int (2) 0), (.int (0) 0), (.int (0) 0), (.int (3) 0), (.ref 43), (.bool true), (.int (181) 0), (.ref 44), .none, (.ref 45), (.ref 46), (.ref 47), (.int (226) 0), (.int (10) 0), (.str (Str.ofString "/claim/cut.py") 227)]⟩), ⟨[]⟩⟩
noncomputable def o49A (P : Params) : Obj := ⟨(.type "function"), none, (.func (fdAt 5 3 .none .none .none (.str (Str.ofString "cpy313.operator") 187) none (.ref 48) .none 0)), ⟨[]⟩⟩
noncomputable def o50A (P : Params) : Obj := ⟨(.type "tuple"), none, (.seq ⟨[]⟩ 0), ⟨[]⟩⟩
noncomputable def o51A (P : Params) : Obj := ⟨.none, none, (.fields ⟨[]⟩), ⟨[]⟩⟩
noncomputable def o52A (P : Params) : Obj := ⟨(.type "tuple"), none, (.seq ⟨[(.str (Str.ofString "a") 232), (.str (Str.ofString "b") 233)]⟩ 0), ⟨[]⟩⟩
noncomputable def o53A (P : Params) : Obj := ⟨(.type "tuple"), none, (.seq ⟨[]⟩ 0), ⟨[]⟩⟩
noncomputable def o54A (P : Params) : Obj := ⟨.none, none, (.func (fdAt 6 0 .none .none .none .none none .none .none 0)), ⟨[]⟩⟩
noncomputable def o55A (P : Params) : Obj := ⟨(.type "code"), none, (.fields ⟨[(.str (Str.ofString "rshift") 229), (.str (Str.ofString "rshift") 230), (.str (Str.ofString "/claim/cut.py") 231), (.int (12) 0), (.int (2) 0), (.int (0) 0), (.int (0) 0), (.int (3) 0), (.ref 50), (.bool true), (.int (181) 0), (.ref 51), .none, (.ref 52), (.ref 53), (.ref 54), (.int (234) 0), (.int (12) 0), (.str (Str.ofString "/claim/cut.py") 235)]⟩), ⟨[]⟩⟩
noncomputable def o56A (P : Params) : Obj := ⟨(.type "function"), none, (.func (fdAt 6 3 .none .none .none (.str (Str.ofString "cpy313.operator") 187) none (.ref 55) .none 0)), ⟨[]⟩⟩
noncomputable def o57A (P : Params) : Obj := ⟨(.type "tuple"), none, (.seq ⟨[]⟩ 0), ⟨[]⟩⟩
noncomputable def o58A (P : Params) : Obj := ⟨.none, none, (.fields ⟨[]⟩), ⟨[]⟩⟩
noncomputable def o59A (P : Params) : Obj := ⟨(.type "tuple"), none, (.seq ⟨[(.str (Str.ofString "a") 240), (.str (Str.ofString "b") 241)]⟩ 0), ⟨[]⟩⟩
noncomputable def o60A (P : Params) : Obj := ⟨(.type "tuple"), none, (.seq ⟨[]⟩ 0), ⟨[]⟩⟩
noncomputable def o61A (P : Params) : Obj := ⟨.none, none, (.func (fdAt 7 0 .none .none .none .none none .none .none 0)), ⟨[]⟩⟩
noncomputable def o62A (P : Params) : Obj := ⟨(.type "code"), none, (.fields ⟨[(.str (Str.ofString "sub") 237), (.str (Str.ofString "sub") 238), (.str (Str.ofString "/claim/cut.py") 239), (.int (14) 0), (.int (2) 0), (.int (0) 0), (.int (0) 0), (.int (3) 0), (.ref 57), (.bool true), (.int (181) 0), (.ref 58), .none, (.ref 59), (.ref 60), (.ref 61), (.int (242) 0), (.int (14) 0), (.str (Str.ofString "/claim/cut.py") 243)]⟩), ⟨[]⟩⟩
noncomputable def o63A (P : Params) : Obj := ⟨(.type "function"), none, (.func (fdAt 7 3 .none .none .none (.str (Str.ofString "cpy313.operator") 187) none (.ref 62) .none 0)), ⟨[]⟩⟩
noncomputable def o64A (P : Params) : Obj := ⟨(.type "tuple"), none, (.seq ⟨[]⟩ 0), ⟨[]⟩⟩
noncomputable def o65A (P : Params) : Obj := ⟨.none, none, (.fields ⟨[]⟩), ⟨[]⟩⟩
noncomputable def o66A (P : Params) : Obj := ⟨(.type "tuple"), none, (.seq ⟨[(.str (Str.ofString "a") 248), (.str (Str.ofString "b") 249)]⟩ 0), ⟨[]⟩⟩
noncomputable def o67A (P : Params) : Obj := ⟨(.type "tuple"), none, (.seq ⟨[]⟩ 0), ⟨[]⟩⟩
noncomputable def o68A (P : Params) : Obj := ⟨.none, none, (.func (fdAt 8 0 .none .none .none .none none .none .none 0)), ⟨[]⟩⟩
noncomputable def o69A (P : Params) : Obj := ⟨(.type "code"), none, (.fields ⟨[(.str (Str.ofString "xor") 245), (.str (Str.ofString "xor") 246), (.str (Str.ofString "/claim/cut.py") 247), (.int (16) 0), (.int (2) 0), (.int (0) 0), (.int (0) 0), (.int (3) 0), (.ref 64), (.bool true), (.int (181) 0), (.ref 65), .none, (.ref 66), (.ref 67), (.ref 68), (.int (250) 0), (.int (16) 0), (.str (Str.ofString "/claim/cut.py") 251)]⟩), ⟨[]⟩⟩
noncomputable def o70A (P : Params) : Obj := ⟨(.type "function"), none, (.func (fdAt 8 3 .none .none .none (.str (Str.ofString "cpy313.operator") 187) none (.ref 69) .none 0)), ⟨[]⟩⟩
noncomputable def o71A (P : Params) : Obj := ⟨(.type "tuple"), none, (.seq ⟨[]⟩ 0), ⟨[]⟩⟩
noncomputable def o72A (P : Params) : Obj := ⟨.none, none, (.fields ⟨[]⟩), ⟨[]⟩⟩
noncomputable def o73A (P : Params) : Obj := ⟨(.type "tuple"), none, (.seq ⟨[(.str (Str.ofString "a") 256), (.str (Str.ofString "b") 257), (.str (Str.ofString "msg") 258)]⟩ 0), ⟨[]⟩⟩
noncomputable def o74A (P : Params) : Obj := ⟨(.type "tuple"), none, (.seq ⟨[]⟩ 0), ⟨[]⟩⟩
noncomputable def o75A (P : Params) : Obj := ⟨.none, none, (.func (fdAt 9 0 .none .none .none .none none .none .none 0)), ⟨[]⟩⟩
noncomputable def o76A (P : Params) : Obj := ⟨(.type "code"), none, (.fields ⟨[(.str (Str.ofString "concat") 253), (.str (Str.ofString "concat") 254), (.str (Str.ofString "/claim/cut.py") 255), (.int (18) 0), (.int (2) 0), (.int (0) 0), (.int (0) 0), (.int (3) 0), (.ref 71), (.bool true), (.int (181) 0), (.ref 72), .none, (.ref 73), (.ref 74), (.ref 75), (.int (259) 0), (.int (18) 0), (.str (Str.ofString "/claim/cut.py") 260)]⟩), ⟨[]⟩⟩
noncomputable def o77A (P : Params) : Obj := ⟨(.type "function"), none, (.func (fdAt 9 3 .none .none .none (.str (Str.ofString "cpy313.operator") 187) none (.ref 76) .none 0)), ⟨[]⟩⟩
noncomputable def o78A (P : Params) : Obj := ⟨(.type "tuple"), none, (.seq ⟨[]⟩ 0), ⟨[]⟩⟩
noncomputable def o79A (P : Params) : Obj := ⟨.none, none, (.fields ⟨[]⟩), ⟨[]⟩⟩
noncomputable def o80A (P : Params) : Obj := ⟨(.type "tuple"), none, (.seq ⟨[(.str (Str.ofString "a") 265), (.str (Str.ofString "b") 266), (.str (Str.ofString "count") 267), (.str (Str.ofString "i") 268)]⟩ 0), ⟨[]⟩⟩
noncomputable def o81A (P : Params) : Obj := ⟨(.type "tuple"), none, (.seq ⟨[]⟩ 0), ⟨[]⟩⟩
noncomputable def o82A (P : Params) : Obj := ⟨.none, none, (.func (fdAt 10 0 .none .none .none .none none .none .none 0)), ⟨[]⟩⟩
noncomputable def o83A (P : Params) : Obj := ⟨(.type "code"), none, (.fields ⟨[(.str (Str.ofString "countOf") 262), (.str (Str.ofString "countOf") 263), (.str (Str.ofString "/claim/cut.py") 264), (.int (23) 0), (.int (2) 0), (.int (0) 0), (.int (0) 0), (.int (3) 0), (.ref 78), (.bool true), (.int (181) 0), (.ref 79), .none, (.ref 80), (.ref 81), (.ref 82), (.int (269) 0), (.int (23) 0), (.str (Str.ofString "/claim/cut.py") 270)]⟩), ⟨[]⟩⟩
noncomputable def o84A (P : Params) : Obj := ⟨(.type "function"), none, (.func (fdAt 10 3 .none .none .none (.str (Str.ofString "cpy313.operator") 187) none (.ref 83) .none 0)), ⟨[]⟩⟩
noncomputable def treeA (P : Params) : BT := (.node (boot_o_0 P) (.node (boot_o_1 P) (.node (o3A P) (.node (boot_o_7 P) (.node (o15A P) (.node (o31A P) (.node (o63A P) .nil .nil) .nil) (.node (o47A P) (.node (o79A P) .nil .nil) .nil)) (.node (o23A P) (.node (o39A P) (.node (o71A P) .nil .nil) .nil) (.node (o55A P) .nil .nil))) (.node (o11a P) (.node (o19A P) (.node (o35A P) (.node (o67A P) .nil .nil) .nil) (.node (o51A P) (.node (o83A P) .nil .nil) .nil)) (.node (o27A P) (.node (o43A P) (.node (o75A P) .nil .nil) .nil) (.node (o59A P) .nil .nil)))) (.node (boot_o_5 P) (.node (boot_o_9 P) (.node (o17A P) (.node (o33A P) (.node (o65A P) .nil .nil) .nil) (.node (o49A P) (.node (o81A P) .nil .nil) .nil)) (.node (o25A P) (.node (o41A P) (.node (o73A P) .nil .nil) .nil) (.node (o57A P) .nil .nil))) (.node (o13a P) (.node (o21A P) (.node (o37A P) (.node (o69A P) .nil .nil) .nil) (.node (o53A P) .nil .nil)) (.node (o29A P) (.node (o45A P) (.node (o77A P) .nil .nil) .nil) (.node (o61A P) .nil .nil))))) (.node (boot_o_2 P) (.node (boot_o_4 P) (.node (boot_o_8 P) (.node (o16A P) (.node (o32A P) (.node (o64A P) .nil .nil) .nil) (.node (o48A P) (.node (o80A P) .nil .nil) .nil)) (.node (o24A P) (.node (o40A P) (.node (o72A P) .nil .nil) .nil) (.node (o56A P) .nil .nil))) (.node (o12A P) (.node (o20A P) (.node (o36A P) (.node (o68A P) .nil .nil) .nil) (.node (o52A P) (.node (o84A P) .nil .nil) .nil)) (.node (o28A P) (.node (o44A P) (.node (o76A P) .nil .nil) .nil) (.node (o60A P) .nil .nil)))) (.node (boot_o_6 P) (.node (boot_o_10 P) (.node (o18A P) (.node (o34A P) (.node (o66A P) .nil .nil) .nil) (.node (o50A P) (.node (o82A P) .nil .nil) .nil)) (.node (o26A P) (.node (o42A P) (.node (o74A P) .nil .nil) .nil) (.node (o58A P) .nil .nil))) (.node (o14a P) (.node (o22A P) (.node (o38A P) (.node (o70A P) .nil .nil) .nil) (.node (o54A P) .nil .nil)) (.node (o30A P) (.node (o46A P) (.node (o78A P) .nil .nil) .nil) (.node (o62A P) .nil .nil))))))
-- A: n 85 toks 274 pos { line := 29, col := 0, endLine := 29, endCol := 8 } gens 0
noncomputable def o3B (P : Params) : Obj := ⟨(.type "dict"), none, (.dict ⟨[⟨PyData.keyHash P (Str.ofString "__name__"), (.str (Str.ofString "__name__") 165), (.str (Str.ofString "cpy313.stringprep") 272)⟩, ⟨PyData.keyHash P (Str.ofString "__doc__"), (.str (Str.ofString "__doc__") 166), .none⟩, ⟨PyData.keyHash P (Str.ofString "__package__"), (.str (Str.ofString "__package__") 167), .none⟩, ⟨PyData.keyHash P (Str.ofString "__loader__"), (.str (Str.ofString "__loader__") 168), (.builtin "__main__.__loader__#opaque")⟩, ⟨PyData.keyHash P (Str.ofString "__spec__"), (.str (Str.ofString "__spec__") 169), .none⟩, ⟨PyData.keyHash P (Str.ofString "__annotations__"), (.str (Str.ofString "__annotations__") 170), (.ref 6)⟩, ⟨PyData.keyHash P (Str.ofString "__builtins__"), (.str (Str.ofString "__builtins__") 171), (.ref 4)⟩, ⟨PyData.keyHash P (Str.ofString "__file__"), (.str (Str.ofString "__file__") 173), (.str (Str.ofString "/claim/cut.py") 172)⟩, ⟨PyData.keyHash P (Str.ofString "__cached__"), (.str (Str.ofString "__cached__") 174), .none⟩, ⟨PyData.keyHash P (Str.ofString "eq"), (.str (Str.ofString "eq") 196), (.ref 21)⟩, ⟨PyData.keyHash P (Str.ofString "add"), (.str (Str.ofString "add") 204), (.ref 28)⟩, ⟨PyData.keyHash P (Str.ofString "and_"), (.str (Str.ofString "and_") 212), (.ref 35)⟩, ⟨PyData.keyHash P (Str.ofString "lshift"), (.str (Str.ofString "lshift") 220), (.ref 42)⟩, ⟨PyData.keyHash P (Str.ofString "mul"), (.str (Str.ofString "mul") 228), (.ref 49)⟩, ⟨PyData.keyHash P (Str.ofString "rshift"), (.str (Str.ofString "rshift") 236), (.ref 56)⟩, ⟨PyData.keyHash P (Str.ofString "sub"), (.str (Str.ofString "sub") 244), (.ref 63)⟩, ⟨PyData.keyHash P (Str.ofString "xor"), (.str (Str.ofString "xor") 252), (.ref 70)⟩, ⟨PyData.keyHash P (Str.ofString "concat"), (.str (Str.ofString "concat") 261), (.ref 77)⟩, ⟨PyData.keyHash P (Str.ofString "countOf"), (.str (Str.ofString "countOf") 271), (.ref 84)⟩, ⟨PyData.keyHash P (Str.ofString "b1_set"), (.str (Str.ofString "b1_set") 333), (.ref 92)⟩]⟩ 20), ⟨[]⟩⟩
noncomputable def o85B (P : Params) : Obj := ⟨(.type "list"), none, (.seq ⟨[(.int (173) 274), (.int (847) 275), (.int (6150) 276), (.int (6155) 277), (.int (6156) 278), (.int (6157) 279), (.int (8203) 280), (.int (8204) 281), (.int (8205) 282), (.int (8288) 283), (.int (65279) 284)]⟩ 0), ⟨[]⟩⟩
noncomputable def o86B (P : Params) : Obj := ⟨(.type "range"), none, (.fields ⟨[(.int (65024) 285), (.int (65040) 286), (.int (1) 287)]⟩), ⟨[]⟩⟩
noncomputable def o87B (P : Params) : Obj := ⟨(.type "list"), none, (.seq ⟨[(.int (65024) 290), (.int (65025) 291), (.int (65026) 292), (.int (65027) 293), (.int (65028) 294), (.int (65029) 295), (.int (65030) 296), (.int (65031) 297), (.int (65032) 298), (.int (65033) 299), (.int (65034) 300), (.int (65035) 301), (.int (65036) 302), (.int (65037) 303), (.int (65038) 304), (.int (65039) 305)]⟩ 18), ⟨[]⟩⟩
noncomputable def o88B (P : Params) : Obj := ⟨(.type "range_iterator"), none, (.fields ⟨[(.int (65040) 0), (.int (0) 0), (.int (1) 0)]⟩), ⟨[]⟩⟩
noncomputable def o89B (P : Params) : Obj := ⟨(.type "tuple"), none, (.seq ⟨[]⟩ 0), ⟨[]⟩⟩
noncomputable def o90B (P : Params) : Obj := ⟨(.type "StopIteration"), none, (.fields ⟨[(.ref 89), .none, .none, .none, (.bool false), .none]⟩), ⟨[]⟩⟩
noncomputable def o91B (P : Params) : Obj := ⟨(.type "list"), none, (.seq ⟨[(.int (173) 274), (.int (847) 275), (.int (6150) 276), (.int (6155) 277), (.int (6156) 278), (.int (6157) 279), (.int (8203) 280), (.int (8204) 281), (.int (8205) 282), (.int (8288) 283), (.int (65279) 284), (.int (65024) 290), (.int (65025) 291), (.int (65026) 292), (.int (65027) 293), (.int (65028) 294), (.int (65029) 295), (.int (65030) 296), (.int (65031) 297), (.int (65032) 298), (.int (65033) 299), (.int (65034) 300), (.int (65035) 301), (.int (65036) 302), (.int (65037) 303), (.int (65038) 304), (.int (65039) 305)]⟩ 0), ⟨[]⟩⟩
noncomputable def o92B (P : Params) : Obj := ⟨(.type "set"), none, (.set ⟨[(65024, (.int (65024) 290)), (65025, (.int (65025) 291)), (65026, (.int (65026) 292)), (65027, (.int (65027) 293)), (65028, (.int (65028) 294)), (65029, (.int (65029) 295)), (6150, (.int (6150) 276)), (65030, (.int (65030) 296)), (65031, (.int (65031) 297)), (65032, (.int (65032) 298)), (65033, (.int (65033) 299)), (6155, (.int (6155) 277)), (6156, (.int (6156) 278)), (6157, (.int (6157) 279)), (8203, (.int (8203) 280)), (8204, (.int (8204) 281)), (8205, (.int (8205) 282)), (65034, (.int (65034) 300)), (65035, (.int (65035) 301)), (65036, (.int (65036) 302)), (65037, (.int (65037) 303)), (65038, (.int (65038) 304)), (65039, (.int (65039) 305)), (173, (.int (173) 274)), (847, (.int (847) 275)), (8288, (.int (8288) 283)), (65279, (.int (65279) 284))]⟩ 29 ⟨127, ⟨[0, 1, 2, 3, 4, 5, 6, 7, 8, 9, 10, 11, 12, 13, 14, 15, 16, 17, 18, 19, 20, 21, 22, 45, 79, 96, 127]⟩, ⟨[]⟩, 0, !(P.followText "set-order"), 2, true⟩), ⟨[]⟩⟩
noncomputable def o93B (P : Params) : Obj := ⟨(.type "list_iterator"), none, (.fields ⟨[.none, (.int (27) 0)]⟩), ⟨[]⟩⟩
noncomputable def o94B (P : Params) : Obj := ⟨(.type "tuple"), none, (.seq ⟨[]⟩ 0), ⟨[]⟩⟩
noncomputable def o95B (P : Params) : Obj := ⟨(.type "StopIteration"), none, (.fields ⟨[(.ref 94), .none, .none, .none, (.bool false), .none]⟩), ⟨[]⟩⟩
noncomputable def treeB (P : Params) : BT := (.node (boot_o_0 P) (.node (boot_o_1 P) (.node (o3B P) (.node (boot_o_7 P) (.node (o15A P) (.node (o31A P) (.node (o63A P) .nil .nil) (.node (o95B P) .nil .nil)) (.node (o47A P) (.node (o79A P) .nil .nil) .nil)) (.node (o23A P) (.node (o39A P) (.node (o71A P) .nil .nil) .nil) (.node (o55A P) (.node (o87B P) .nil .nil) .nil))) (.node (o11a P) (.node (o19A P) (.node (o35A P) (.node (o67A P) .nil .nil) .nil) (.node (o51A P) (.node (o83A P) .nil .nil) .nil)) (.node (o27A P) (.node (o43A P) (.node (o75A P) .nil .nil) .nil) (.node (o59A P) (.node (o91B P) .nil .nil) .nil)))) (.node (boot_o_5 P) (.node (boot_o_9 P) (.node (o17A P) (.node (o33A P) (.node (o65A P) .nil .nil) .nil) (.node (o49A P) (.node (o81A P) .nil .nil) .nil)) (.node (o25A P) (.node (o41A P) (.node (o73A P) .nil .nil) .nil) (.node (o57A P) (.node (o89B P) .nil .nil) .nil))) (.node (o13a P) (.node (o21A P) (.node (o37A P) (.node (o69A P) .nil .nil) .nil) (.node (o53A P) (.node (o85B P) .nil .nil) .nil)) (.node (o29A P) (.node (o45A P) (.node (o77A P) .nil .nil) .nil) (.node (o61A P) (.node (o93B P) .nil .nil) .nil))))) (.node (boot_o_2 P) (.node (boot_o_4 P) (.node (boot_o_8 P) (.node (o16A P) (.node (o32A P) (.node (o64A P) .nil .nil) .nil) (.node (o48A P) (.node (o80A P) .nil .nil) .nil)) (.node (o24A P) (.node (o40A P) (.node (o72A P) .nil .nil) .nil) (.node (o56A P) (.node (o88B P) .nil .nil) .nil))) (.node (o12A P) (.node (o20A P) (.node (o36A P) (.node (o68A P) .nil .nil) .nil) (.node (o52A P) (.node (o84A P) .nil .nil) .nil)) (.node (o28A P) (.node (o44A P) (.node (o76A P) .nil .nil) .nil) (.node (o60A P) (.node (o92B P) .nil .nil) .nil)))) (.node (boot_o_6 P) (.node (boot_o_10 P) (.node (o18A P) (.node (o34A P) (.node (o66A P) .nil .nil) .nil) (.node (o50A P) (.node (o82A P) .nil .nil) .nil)) (.node (o26A P) (.node (o42A P) (.node (o74A P) .nil .nil) .nil) (.node (o58A P) (.node (o90B P) .nil .nil) .nil))) (.node (o14a P) (.node (o22A P) (.node (o38A P) (.node (o70A P) .nil .nil) .nil) (.node (o54A P) (.node (o86B P) .nil .nil) .nil)) (.node (o30A P) (.node (o46A P) (.node (o78A P) .nil .nil) .nil) (.node (o62A P) (.node (o94B P) .nil .nil) .nil))))))
-- B: n 96 toks 334 pos { line := 30, col := 0, endLine := 30, endCol := 6 } gens 0
noncomputable def o3C (P : Params) : Obj := ⟨(.type "dict"), none, (.dict ⟨[⟨PyData.keyHash P (Str.ofString "__name__"), (.str (Str.ofString "__name__") 165), (.str (Str.ofString "cpy313.stringprep") 272)⟩, ⟨PyData.keyHash P (Str.ofString "__doc__"), (.str (Str.ofString "__doc__") 166), .none⟩, ⟨PyData.keyHash P (Str.ofString "__package__"), (.str (Str.ofString "__package__") 167), .none⟩, ⟨PyData.keyHash P (Str.ofString "__loader__"), (.str (Str.ofString "__loader__") 168), (.builtin "__main__.__loader__#opaque")⟩, ⟨PyData.keyHash P (Str.ofString "__spec__"), (.str (Str.ofString "__spec__") 169), .none⟩, ⟨PyData.keyHash P (Str.ofString "__annotations__"), (.str (Str.ofString "__annotations__") 170), (.ref 6)⟩, ⟨PyData.keyHash P (Str.ofString "__builtins__"), (.str (Str.ofString "__builtins__") 171), (.ref 4)⟩, ⟨PyData.keyHash P (Str.ofString "__file__"), (.str (Str.ofString "__file__") 173), (.str (Str.ofString "/claim/cut.py") 172)⟩, ⟨PyData.keyHash P (Str.ofString "__cached__"), (.str (Str.ofString "__cached__") 174), .none⟩, ⟨PyData.keyHash P (Str.ofString "eq"), (.str (Str.ofString "eq") 196), (.ref 21)⟩, ⟨PyData.keyHash P (Str.ofString "add"), (.str (Str.ofString "add") 204), (.ref 28)⟩, ⟨PyData.keyHash P (Str.ofString "and_"), (.str (Str.ofString "and_") 212), (.ref 35)⟩, ⟨PyData.keyHash P (Str.ofString "lshift"), (.str (Str.ofString "lshift") 220), (.ref 42)⟩, ⟨PyData.keyHash P (Str.ofString "mul"), (.str (Str.ofString "mul") 228), (.ref 49)⟩, ⟨PyData.keyHash P (Str.ofString "rshift"), (.str (Str.ofString "rshift") 236), (.ref 56)⟩, ⟨PyData.keyHash P (Str.ofString "sub"), (.str (Str.ofString "sub") 244), (.ref 63)⟩, ⟨PyData.keyHash P (Str.ofString "xor"), (.str (Str.ofString "xor") 252), (.ref 70)⟩, ⟨PyData.keyHash P (Str.ofString "concat"), (.str (Str.ofString "concat") 261), (.ref 77)⟩, ⟨PyData.keyHash P (Str.ofString "countOf"), (.str (Str.ofString "countOf") 271), (.ref 84)⟩, ⟨PyData.keyHash P (Str.ofString "b1_set"), (.str (Str.ofString "b1_set") 333), (.ref 92)⟩, ⟨PyData.keyHash P (Str.ofString "in_table_b1"), (.str (Str.ofString "in_table_b1") 340), (.ref 102)⟩]⟩ 21), ⟨[]⟩⟩
noncomputable def o12C (P : Params) : Obj := ⟨.none, none, (.fields ⟨[(.int (2) 0), (.int (0) 0), (.ref 20), (.int (4) 0), (.int (0) 0), (.ref 27), (.int (6) 0), (.int (0) 0), (.ref 34), (.int (8) 0), (.int (0) 0), (.ref 41), (.int (10) 0), (.int (0) 0), (.ref 48), (.int (12) 0), (.int (0) 0), (.ref 55), (.int (14) 0), (.int (0) 0), (.ref 62), (.int (16) 0), (.int (0) 0), (.ref 69), (.int (18) 0), (.int (0) 0), (.ref 76), (.int (23) 0), (.int (0) 0), (.ref 83), (.int (31) 0), (.int (0) 0), (.ref 101)]⟩), ⟨[]⟩⟩
noncomputable def o96C (P : Params) : Obj := ⟨(.type "tuple"), none, (.seq ⟨[]⟩ 0), ⟨[]⟩⟩
noncomputable def o97C (P : Params) : Obj := ⟨.none, none, (.fields ⟨[]⟩), ⟨[]⟩⟩
noncomputable def o98C (P : Params) : Obj := ⟨(.type "tuple"), none, (.seq ⟨[(.str (Str.ofString "code") 337)]⟩ 0), ⟨[]⟩⟩
noncomputable def o99C (P : Params) : Obj := ⟨(.type "tuple"), none, (.seq ⟨[]⟩ 0), ⟨[]⟩⟩
noncomputable def o100C (P : Params) : Obj := ⟨.none, none, (.func (fdAt 13 0 .none .none .none .none none .none .none 0)), ⟨[]⟩⟩
noncomputable def o101C (P : Params) : Obj := ⟨(.type "code"), none, (.fields ⟨[(.str (Str.ofString "in_table_b1") 334), (.str (Str.ofString "in_table_b1") 335), (.str (Str.ofString "/claim/cut.py") 336), (.int (31) 0), (.int (1) 0), (.int (0) 0), (.int (0) 0), (.int (3) 0), (.ref 96), (.bool true), (.int (181) 0), (.ref 97), .none, (.ref 98), (.ref 99), (.ref 100), (.int (338) 0), (.int (31) 0), (.str (Str.ofString "/claim/cut.py") 339)]⟩), ⟨[]⟩⟩
noncomputable def o102C (P : Params) : Obj := ⟨(.type "function"), none, (.func (fdAt 13 3 .none .none .none (.str (Str.ofString "cpy313.stringprep") 272) none (.ref 101) .none 0)), ⟨[]⟩⟩
noncomputable def treeC (P : Params) : BT := (.node (boot_o_0 P) (.node (boot_o_1 P) (.node (o3C P) (.node (boot_o_7 P) (.node (o15A P) (.node (o31A P) (.node (o63A P) .nil .nil) (.node (o95B P) .nil .nil)) (.node (o47A P) (.node (o79A P) .nil .nil) .nil)) (.node (o23A P) (.node (o39A P) (.node (o71A P) .nil .nil) .nil) (.node (o55A P) (.node (o87B P) .nil .nil) .nil))) (.node (o11a P) (.node (o19A P) (.node (o35A P) (.node (o67A P) .nil .nil) (.node (o99C P) .nil .nil)) (.node (o51A P) (.node (o83A P) .nil .nil) .nil)) (.node (o27A P) (.node (o43A P) (.node (o75A P) .nil .nil) .nil) (.node (o59A P) (.node (o91B P) .nil .nil) .nil)))) (.node (boot_o_5 P) (.node (boot_o_9 P) (.node (o17A P) (.node (o33A P) (.node (o65A P) .nil .nil) (.node (o97C P) .nil .nil)) (.node (o49A P) (.node (o81A P) .nil .nil) .nil)) (.node (o25A P) (.node (o41A P) (.node (o73A P) .nil .nil) .nil) (.node (o57A P) (.node (o89B P) .nil .nil) .nil))) (.node (o13a P) (.node (o21A P) (.node (o37A P) (.node (o69A P) .nil .nil) (.node (o101C P) .nil .nil)) (.node (o53A P) (.node (o85B P) .nil .nil) .nil)) (.node (o29A P) (.node (o45A P) (.node (o77A P) .nil .nil) .nil) (.node (o61A P) (.node (o93B P) .nil .nil) .nil))))) (.node (boot_o_2 P) (.node (boot_o_4 P) (.node (boot_o_8 P) (.node (o16A P) (.node (o32A P) (.node (o64A P) .nil .nil) (.node (o96C P) .nil .nil)) (.node (o48A P) (.node (o80A P) .nil .nil) .nil)) (.node (o24A P) (.node (o40A P) (.node (o72A P) .nil .nil) .nil) (.node (o56A P) (.node (o88B P) .nil .nil) .nil))) (.node (o12C P) (.node (o20A P) (.node (o36A P) (.node (o68A P) .nil .nil) (.node (o100C P) .nil .nil)) (.node (o52A P) (.node (o84A P) .nil .nil) .nil)) (.node (o28A P) (.node (o44A P) (.node (o76A P) .nil .nil) .nil) (.node (o60A P) (.node (o92B P) .nil .nil) .nil)))) (.node (boot_o_6 P) (.node (boot_o_10 P) (.node (o18A P) (.node (o34A P) (.node (o66A P) .nil .nil) (.node (o98C P) .nil .nil)) (.node (o50A P) (.node (o82A P) .nil .nil) .nil)) (.node (o26A P) (.node (o42A P) (.node (o74A P) .nil .nil) .nil) (.node (o58A P) (.node (o90B P) .nil .nil) .nil))) (.node (o14a P) (.node (o22A P) (.node (o38A P) (.node (o70A P) .nil .nil) (.node (o102C P) .nil .nil)) (.node (o54A P) (.node (o86B P) .nil .nil) .nil)) (.node (o30A P) (.node (o46A P) (.node (o78A P) .nil .nil) .nil) (.node (o62A P) (.node (o94B P) .nil .nil) .nil))))))
-- C: n 103 toks 341 pos { line := 31, col := 0, endLine := 32, endCol := 30 } gens 0
noncomputable def o3D (P : Params) : Obj := ⟨(.type "dict"), none, (.dict ⟨[⟨PyData.keyHash P (Str.ofString "__name__"), (.str (Str.ofString "__name__") 165), (.str (Str.ofString "cpy313.stringprep") 272)⟩, ⟨PyData.keyHash P (Str.ofString "__doc__"), (.str (Str.ofString "__doc__") 166), .none⟩, ⟨PyData.keyHash P (Str.ofString "__package__"), (.str (Str.ofString "__package__") 167), .none⟩, ⟨PyData.keyHash P (Str.ofString "__loader__"), (.str (Str.ofString "__loader__") 168), (.builtin "__main__.__loader__#opaque")⟩, ⟨PyData.keyHash P (Str.ofString "__spec__"), (.str (Str.ofString "__spec__") 169), .none⟩, ⟨PyData.keyHash P (Str.ofString "__annotations__"), (.str (Str.ofString "__annotations__") 170), (.ref 6)⟩, ⟨PyData.keyHash P (Str.ofString "__builtins__"), (.str (Str.ofString "__builtins__") 171), (.ref 4)⟩, ⟨PyData.keyHash P (Str.ofString "__file__"), (.str (Str.ofString "__file__") 173), (.str (Str.ofString "/claim/cut.py") 172)⟩, ⟨PyData.keyHash P (Str.ofString "__cached__"), (.str (Str.ofString "__cached__") 174), .none⟩, ⟨PyData.keyHash P (Str.ofString "eq"), (.str (Str.ofString "eq") 196), (.ref 21)⟩, ⟨PyData.keyHash P (Str.ofString "add"), (.str (Str.ofString "add") 204), (.ref 28)⟩, ⟨PyData.keyHash P (Str.ofString "and_"), (.str (Str.ofString "and_") 212), (.ref 35)⟩, ⟨PyData.keyHash P (Str.ofString "lshift"), (.str (Str.ofString "lshift") 220), (.ref 42)⟩, ⟨PyData.keyHash P (Str.ofString "mul"), (.str (Str.ofString "mul") 228), (.ref 49)⟩, ⟨PyData.keyHash P (Str.ofString "rshift"), (.str (Str.ofString "rshift") 236), (.ref 56)⟩, ⟨PyData.keyHash P (Str.ofString "sub"), (.str (Str.ofString "sub") 244), (.ref 63)⟩, ⟨PyData.keyHash P (Str.ofString "xor"), (.str (Str.ofString "xor") 252), (.ref 70)⟩, ⟨PyData.keyHash P (Str.ofString "concat"), (.str (Str.ofString "concat") 261), (.ref 77)⟩, ⟨PyData.keyHash P (Str.ofString "countOf"), (.str (Str.ofString "countOf") 271), (.ref 84)⟩, ⟨PyData.keyHash P (Str.ofString "b1_set"), (.str (Str.ofString "b1_set") 333), (.ref 92)⟩, ⟨PyData.keyHash P (Str.ofString "in_table_b1"), (.str (Str.ofString "in_table_b1") 340), (.ref 102)⟩, ⟨PyData.keyHash P (Str.ofString "b3_exceptions"), (.str (Str.ofString "b3_exceptions") 2291), (.ref 103)⟩]⟩ 22), ⟨[]⟩⟩
noncomputable def b3es : List DictEntry := [
  ⟨(181), (.int (181) 341), (.str (Str.ofString "μ") 342)⟩,
  ⟨(223), (.int (223) 344), (.str (Str.ofString "ss") 345)⟩,
  ⟨(304), (.int (304) 347), (.str (Str.ofString "i̇") 348)⟩,
  ⟨(329), (.int (329) 350), (.str (Str.ofString "ʼn") 351)⟩,
  ⟨(383), (.int (383) 353), (.str (Str.ofString "s") 354)⟩,
  ⟨(496), (.int (496) 356), (.str (Str.ofString "ǰ") 357)⟩,
  ⟨(837), (.int (837) 359), (.str (Str.ofString "ι") 360)⟩,
  ⟨(890), (.int (890) 362), (.str (Str.ofString " ι") 363)⟩,
  ⟨(912), (.int (912) 365), (.str (Str.ofString "ΐ") 366)⟩,
  ⟨(944), (.int (944) 368), (.str (Str.ofString "ΰ") 369)⟩,
  ⟨(962), (.int (962) 371), (.str (Str.ofString "σ") 372)⟩,
  ⟨(976), (.int (976) 374), (.str (Str.ofString "β") 375)⟩,
  ⟨(977), (.int (977) 377), (.str (Str.ofString "θ") 378)⟩,
  ⟨(978), (.int (978) 380), (.str (Str.ofString "υ") 381)⟩,
  ⟨(979), (.int (979) 383), (.str (Str.ofString "ύ") 384)⟩,
  ⟨(980), (.int (980) 386), (.str (Str.ofString "ϋ") 387)⟩,
  ⟨(981), (.int (981) 389), (.str (Str.ofString "φ") 390)⟩,
  ⟨(982), (.int (982) 392), (.str (Str.ofString "π") 393)⟩,
  ⟨(1008), (.int (1008) 395), (.str (Str.ofString "κ") 396)⟩,
  ⟨(1009), (.int (1009) 398), (.str (Str.ofString "ρ") 399)⟩,
  ⟨(1010), (.int (1010) 401), (.str (Str.ofString "σ") 402)⟩,
  ⟨(1013), (.int (1013) 404), (.str (Str.ofString "ε") 405)⟩,
  ⟨(1415), (.int (1415) 407), (.str (Str.ofString "եւ") 408)⟩,
  ⟨(7830), (.int (7830) 410), (.str (Str.ofString "ẖ") 411)⟩,
  ⟨(7831), (.int (7831) 413), (.str (Str.ofString "ẗ") 414)⟩,
  ⟨(7832), (.int (7832) 416), (.str (Str.ofString "ẘ") 417)⟩,
  ⟨(7833), (.int (7833) 419), (.str (Str.ofString "ẙ") 420)⟩,
  ⟨(7834), (.int (7834) 422), (.str (Str.ofString "aʾ") 423)⟩,
  ⟨(7835), (.int (7835) 425), (.str (Str.ofString "ṡ") 426)⟩,
  ⟨(8016), (.int (8016) 428), (.str (Str.ofString "ὐ") 429)⟩,
  ⟨(8018), (.int (8018) 431), (.str (Str.ofString "ὒ") 432)⟩,
  ⟨(8020), (.int (8020) 434), (.str (Str.ofString "ὔ") 435)⟩,
  ⟨(8022), (.int (8022) 437), (.str (Str.ofString "ὖ") 438)⟩,
  ⟨(8064), (.int (8064) 440), (.str (Str.ofString "ἀι") 441)⟩,
  ⟨(8065), (.int (8065) 443), (.str (Str.ofString "ἁι") 444)⟩,
  ⟨(8066), (.int (8066) 446), (.str (Str.ofString "ἂι") 447)⟩,
  ⟨(8067), (.int (8067) 449), (.str (Str.ofString "ἃι") 450)⟩,
  ⟨(8068), (.int (8068) 452), (.str (Str.ofString "ἄι") 453)⟩,
  ⟨(8069), (.int (8069) 455), (.str (Str.ofString "ἅι") 456)⟩,
  ⟨(8070), (.int (8070) 458), (.str (Str.ofString "ἆι") 459)⟩,
  ⟨(8071), (.int (8071) 461), (.str (Str.ofString "ἇι") 462)⟩,
  ⟨(8072), (.int (8072) 464), (.str (Str.ofString "ἀι") 465)⟩,
  ⟨(8073), (.int (8073) 467), (.str (Str.ofString "ἁι") 468)⟩,
  ⟨(8074), (.int (8074) 470), (.str (Str.ofString "ἂι") 471)⟩,
  ⟨(8075), (.int (8075) 473), (.str (Str.ofString "ἃι") 474)⟩,
  ⟨(8076), (.int (8076) 476), (.str (Str.ofString "ἄι") 477)⟩,
  ⟨(8077), (.int (8077) 479), (.str (Str.ofString "ἅι") 480)⟩,
  ⟨(8078), (.int (8078) 482), (.str (Str.ofString "ἆι") 483)⟩,
  ⟨(8079), (.int (8079) 485), (.str (Str.ofString "ἇι") 486)⟩,
  ⟨(8080), (.int (8080) 488), (.str (Str.ofString "ἠι") 489)⟩,
  ⟨(8081), (.int (8081) 491), (.str (Str.ofString "ἡι") 492)⟩,
  ⟨(8082), (.int (8082) 494), (.str (Str.ofString "ἢι") 495)⟩,
  ⟨(8083), (.int (8083) 497), (.str (Str.ofString "ἣι") 498)⟩,
  ⟨(8084), (.int (8084) 500), (.str (Str.ofString "ἤι") 501)⟩,
  ⟨(8085), (.int (8085) 503), (.str (Str.ofString "ἥι") 504)⟩,
  ⟨(8086), (.int (8086) 506), (.str (Str.ofString "ἦι") 507)⟩,
  ⟨(8087), (.int (8087) 509), (.str (Str.ofString "ἧι") 510)⟩,
  ⟨(8088), (.int (8088) 512), (.str (Str.ofString "ἠι") 513)⟩,
  ⟨(8089), (.int (8089) 515), (.str (Str.ofString "ἡι") 516)⟩,
  ⟨(8090), (.int (8090) 518), (.str (Str.ofString "ἢι") 519)⟩,
  ⟨(8091), (.int (8091) 521), (.str (Str.ofString "ἣι") 522)⟩,
  ⟨(8092), (.int (8092) 524), (.str (Str.ofString "ἤι") 525)⟩,
  ⟨(8093), (.int (8093) 527), (.str (Str.ofString "ἥι") 528)⟩,
  ⟨(8094), (.int (8094) 530), (.str (Str.ofString "ἦι") 531)⟩,
  ⟨(8095), (.int (8095) 533), (.str (Str.ofString "ἧι") 534)⟩,
  ⟨(8096), (.int (8096) 536), (.str (Str.ofString "ὠι") 537)⟩,
  ⟨(8097), (.int (8097) 539), (.str (Str.ofString "ὡι") 540)⟩,
  ⟨(8098), (.int (8098) 542), (.str (Str.ofString "ὢι") 543)⟩,
  ⟨(8099), (.int (8099) 545), (.str (Str.ofString "ὣι") 546)⟩,
  ⟨(8100), (.int (8100) 548), (.str (Str.ofString "ὤι") 549)⟩,
  ⟨(8101), (.int (8101) 551), (.str (Str.ofString "ὥι") 552)⟩,
  ⟨(8102), (.int (8102) 554), (.str (Str.ofString "ὦι") 555)⟩,
  ⟨(8103), (.int (8103) 557), (.str (Str.ofString "ὧι") 558)⟩,
  ⟨(8104), (.int (8104) 560), (.str (Str.ofString "ὠι") 561)⟩,
  ⟨(8105), (.int (8105) 563), (.str (Str.ofString "ὡι") 564)⟩,
  ⟨(8106), (.int (8106) 566), (.str (Str.ofString "ὢι") 567)⟩,
  ⟨(8107), (.int (8107) 569), (.str (Str.ofString "ὣι") 570)⟩,
  ⟨(8108), (.int (8108) 572), (.str (Str.ofString "ὤι") 573)⟩,
  ⟨(8109), (.int (8109) 575), (.str (Str.ofString "ὥι") 576)⟩,
  ⟨(8110), (.int (8110) 578), (.str (Str.ofString "ὦι") 579)⟩,
  ⟨(8111), (.int (8111) 581), (.str (Str.ofString "ὧι") 582)⟩,
  ⟨(8114), (.int (8114) 584), (.str (Str.ofString "ὰι") 585)⟩,
  ⟨(8115), (.int (8115) 587), (.str (Str.ofString "αι") 588)⟩,
  ⟨(8116), (.int (8116) 590), (.str (Str.ofString "άι") 591)⟩,
  ⟨(8118), (.int (8118) 593), (.str (Str.ofString "ᾶ") 594)⟩,
  ⟨(8119), (.int (8119) 596), (.str (Str.ofString "ᾶι") 597)⟩,
  ⟨(8124), (.int (8124) 599), (.str (Str.ofString "αι") 600)⟩,
  ⟨(8126), (.int (8126) 602), (.str (Str.ofString "ι") 603)⟩,
  ⟨(8130), (.int (8130) 605), (.str (Str.ofString "ὴι") 606)⟩,
  ⟨(8131), (.int (8131) 608), (.str (Str.ofString "ηι") 609)⟩,
  ⟨(8132), (.int (8132) 611), (.str (Str.ofString "ήι") 612)⟩,
  ⟨(8134), (.int (8134) 614), (.str (Str.ofString "ῆ") 615)⟩,
  ⟨(8135), (.int (8135) 617), (.str (Str.ofString "ῆι") 618)⟩,
  ⟨(8140), (.int (8140) 620), (.str (Str.ofString "ηι") 621)⟩,
  ⟨(8146), (.int (8146) 623), (.str (Str.ofString "ῒ") 624)⟩,
  ⟨(8147), (.int (8147) 626), (.str (Str.ofString "ΐ") 627)⟩,
  ⟨(8150), (.int (8150) 629), (.str (Str.ofString "ῖ") 630)⟩,
  ⟨(8151), (.int (8151) 632), (.str (Str.ofString "ῗ") 633)⟩,
  ⟨(8162), (.int (8162) 635), (.str (Str.ofString "ῢ") 636)⟩,
  ⟨(8163), (.int (8163) 638), (.str (Str.ofString "ΰ") 639)⟩,
  ⟨(8164), (.int (8164) 641), (.str (Str.ofString "ῤ") 642)⟩,
  ⟨(8166), (.int (8166) 644), (.str (Str.ofString "ῦ") 645)⟩,
  ⟨(8167), (.int (8167) 647), (.str (Str.ofString "ῧ") 648)⟩,
  ⟨(8178), (.int (8178) 650), (.str (Str.ofString "ὼι") 651)⟩,
  ⟨(8179), (.int (8179) 653), (.str (Str.ofString "ωι") 654)⟩,
  ⟨(8180), (.int (8180) 656), (.str (Str.ofString "ώι") 657)⟩,
  ⟨(8182), (.int (8182) 659), (.str (Str.ofString "ῶ") 660)⟩,
  ⟨(8183), (.int (8183) 662), (.str (Str.ofString "ῶι") 663)⟩,
  ⟨(8188), (.int (8188) 665), (.str (Str.ofString "ωι") 666)⟩,
  ⟨(8360), (.int (8360) 668), (.str (Str.ofString "rs") 669)⟩,
  ⟨(8450), (.int (8450) 671), (.str (Str.ofString "c") 672)⟩,
  ⟨(8451), (.int (8451) 674), (.str (Str.ofString "°c") 675)⟩,
  ⟨(8455), (.int (8455) 677), (.str (Str.ofString "ɛ") 678)⟩,
  ⟨(8457), (.int (8457) 680), (.str (Str.ofString "°f") 681)⟩,
  ⟨(8459), (.int (8459) 683), (.str (Str.ofString "h") 684)⟩,
  ⟨(8460), (.int (8460) 686), (.str (Str.ofString "h") 687)⟩,
  ⟨(8461), (.int (8461) 689), (.str (Str.ofString "h") 690)⟩,
  ⟨(8464), (.int (8464) 692), (.str (Str.ofString "i") 693)⟩,
  ⟨(8465), (.int (8465) 695), (.str (Str.ofString "i") 696)⟩,
  ⟨(8466), (.int (8466) 698), (.str (Str.ofString "l") 699)⟩,
  ⟨(8469), (.int (8469) 701), (.str (Str.ofString "n") 702)⟩,
  ⟨(8470), (.int (8470) 704), (.str (Str.ofString "no") 705)⟩,
  ⟨(8473), (.int (8473) 707), (.str (Str.ofString "p") 708)⟩,
  ⟨(8474), (.int (8474) 710), (.str (Str.ofString "q") 711)⟩,
  ⟨(8475), (.int (8475) 713), (.str (Str.ofString "r") 714)⟩,
  ⟨(8476), (.int (8476) 716), (.str (Str.ofString "r") 717)⟩,
  ⟨(8477), (.int (8477) 719), (.str (Str.ofString "r") 720)⟩,
  ⟨(8480), (.int (8480) 722), (.str (Str.ofString "sm") 723)⟩,
  ⟨(8481), (.int (8481) 725), (.str (Str.ofString "tel") 726)⟩,
  ⟨(8482), (.int (8482) 728), (.str (Str.ofString "tm") 729)⟩,
  ⟨(8484), (.int (8484) 731), (.str (Str.ofString "z") 732)⟩,
  ⟨(8488), (.int (8488) 734), (.str (Str.ofString "z") 735)⟩,
  ⟨(8492), (.int (8492) 737), (.str (Str.ofString "b") 738)⟩,
  ⟨(8493), (.int (8493) 740), (.str (Str.ofString "c") 741)⟩,
  ⟨(8496), (.int (8496) 743), (.str (Str.ofString "e") 744)⟩,
  ⟨(8497), (.int (8497) 746), (.str (Str.ofString "f") 747)⟩,
  ⟨(8499), (.int (8499) 749), (.str (Str.ofString "m") 750)⟩,
  ⟨(8510), (.int (8510) 752), (.str (Str.ofString "γ") 753)⟩,
  ⟨(8511), (.int (8511) 755), (.str (Str.ofString "π") 756)⟩,
  ⟨(8517), (.int (8517) 758), (.str (Str.ofString "d") 759)⟩,
  ⟨(13169), (.int (13169) 761), (.str (Str.ofString "hpa") 762)⟩,
  ⟨(13171), (.int (13171) 764), (.str (Str.ofString "au") 765)⟩,
  ⟨(13173), (.int (13173) 767), (.str (Str.ofString "ov") 768)⟩,
  ⟨(13184), (.int (13184) 770), (.str (Str.ofString "pa") 771)⟩,
  ⟨(13185), (.int (13185) 773), (.str (Str.ofString "na") 774)⟩,
  ⟨(13186), (.int (13186) 776), (.str (Str.ofString "μa") 777)⟩,
  ⟨(13187), (.int (13187) 779), (.str (Str.ofString "ma") 780)⟩,
  ⟨(13188), (.int (13188) 782), (.str (Str.ofString "ka") 783)⟩,
  ⟨(13189), (.int (13189) 785), (.str (Str.ofString "kb") 786)⟩,
  ⟨(13190), (.int (13190) 788), (.str (Str.ofString "mb") 789)⟩,
  ⟨(13191), (.int (13191) 791), (.str (Str.ofString "gb") 792)⟩,
  ⟨(13194), (.int (13194) 794), (.str (Str.ofString "pf") 795)⟩,
  ⟨(13195), (.int (13195) 797), (.str (Str.ofString "nf") 798)⟩,
  ⟨(13196), (.int (13196) 800), (.str (Str.ofString "μf") 801)⟩,
  ⟨(13200), (.int (13200) 803), (.str (Str.ofString "hz") 804)⟩,
  ⟨(13201), (.int (13201) 806), (.str (Str.ofString "khz") 807)⟩,
  ⟨(13202), (.int (13202) 809), (.str (Str.ofString "mhz") 810)⟩,
  ⟨(13203), (.int (13203) 812), (.str (Str.ofString "ghz") 813)⟩,
  ⟨(13204), (.int (13204) 815), (.str (Str.ofString "thz") 816)⟩,
  ⟨(13225), (.int (13225) 818), (.str (Str.ofString "pa") 819)⟩,
  ⟨(13226), (.int (13226) 821), (.str (Str.ofString "kpa") 822)⟩,
  ⟨(13227), (.int (13227) 824), (.str (Str.ofString "mpa") 825)⟩,
  ⟨(13228), (.int (13228) 827), (.str (Str.ofString "gpa") 828)⟩,
  ⟨(13236), (.int (13236) 830), (.str (Str.ofString "pv") 831)⟩,
  ⟨(13237), (.int (13237) 833), (.str (Str.ofString "nv") 834)⟩,
  ⟨(13238), (.int (13238) 836), (.str (Str.ofString "μv") 837)⟩,
  ⟨(13239), (.int (13239) 839), (.str (Str.ofString "mv") 840)⟩,
  ⟨(13240), (.int (13240) 842), (.str (Str.ofString "kv") 843)⟩,
  ⟨(13241), (.int (13241) 845), (.str (Str.ofString "mv") 846)⟩,
  ⟨(13242), (.int (13242) 848), (.str (Str.ofString "pw") 849)⟩,
  ⟨(13243), (.int (13243) 851), (.str (Str.ofString "nw") 852)⟩,
  ⟨(13244), (.int (13244) 854), (.str (Str.ofString "μw") 855)⟩,
  ⟨(13245), (.int (13245) 857), (.str (Str.ofString "mw") 858)⟩,
  ⟨(13246), (.int (13246) 860), (.str (Str.ofString "kw") 861)⟩,
  ⟨(13247), (.int (13247) 863), (.str (Str.ofString "mw") 864)⟩,
  ⟨(13248), (.int (13248) 866), (.str (Str.ofString "kω") 867)⟩,
  ⟨(13249), (.int (13249) 869), (.str (Str.ofString "mω") 870)⟩,
  ⟨(13251), (.int (13251) 872), (.str (Str.ofString "bq") 873)⟩,
  ⟨(13254), (.int (13254) 875), (.str (Str.ofString "c∕kg") 876)⟩,
  ⟨(13255), (.int (13255) 878), (.str (Str.ofString "co.") 879)⟩,
  ⟨(13256), (.int (13256) 881), (.str (Str.ofString "db") 882)⟩,
  ⟨(13257), (.int (13257) 884), (.str (Str.ofString "gy") 885)⟩,
  ⟨(13259), (.int (13259) 887), (.str (Str.ofString "hp") 888)⟩,
  ⟨(13261), (.int (13261) 890), (.str (Str.ofString "kk") 891)⟩,
  ⟨(13262), (.int (13262) 893), (.str (Str.ofString "km") 894)⟩,
  ⟨(13271), (.int (13271) 896), (.str (Str.ofString "ph") 897)⟩,
  ⟨(13273), (.int (13273) 899), (.str (Str.ofString "ppm") 900)⟩,
  ⟨(13274), (.int (13274) 902), (.str (Str.ofString "pr") 903)⟩,
  ⟨(13276), (.int (13276) 905), (.str (Str.ofString "sv") 906)⟩,
  ⟨(13277), (.int (13277) 908), (.str (Str.ofString "wb") 909)⟩,
  ⟨(64256), (.int (64256) 911), (.str (Str.ofString "ff") 912)⟩,
  ⟨(64257), (.int (64257) 914), (.str (Str.ofString "fi") 915)⟩,
  ⟨(64258), (.int (64258) 917), (.str (Str.ofString "fl") 918)⟩,
  ⟨(64259), (.int (64259) 920), (.str (Str.ofString "ffi") 921)⟩,
  ⟨(64260), (.int (64260) 923), (.str (Str.ofString "ffl") 924)⟩,
  ⟨(64261), (.int (64261) 926), (.str (Str.ofString "st") 927)⟩,
  ⟨(64262), (.int (64262) 929), (.str (Str.ofString "st") 930)⟩,
  ⟨(64275), (.int (64275) 932), (.str (Str.ofString "մն") 933)⟩,
  ⟨(64276), (.int (64276) 935), (.str (Str.ofString "մե") 936)⟩,
  ⟨(64277), (.int (64277) 938), (.str (Str.ofString "մի") 939)⟩,
  ⟨(64278), (.int (64278) 941), (.str (Str.ofString "վն") 942)⟩,
  ⟨(64279), (.int (64279) 944), (.str (Str.ofString "մխ") 945)⟩,
  ⟨(119808), (.int (119808) 947), (.str (Str.ofString "a") 948)⟩,
  ⟨(119809), (.int (119809) 950), (.str (Str.ofString "b") 951)⟩,
  ⟨(119810), (.int (119810) 953), (.str (Str.ofString "c") 954)⟩,
  ⟨(119811), (.int (119811) 956), (.str (Str.ofString "d") 957)⟩,
  ⟨(119812), (.int (119812) 959), (.str (Str.ofString "e") 960)⟩,
  ⟨(119813), (.int (119813) 962), (.str (Str.ofString "f") 963)⟩,
  ⟨(119814), (.int (119814) 965), (.str (Str.ofString "g") 966)⟩,
  ⟨(119815), (.int (119815) 968), (.str (Str.ofString "h") 969)⟩,
  ⟨(119816), (.int (119816) 971), (.str (Str.ofString "i") 972)⟩,
  ⟨(119817), (.int (119817) 974), (.str (Str.ofString "j") 975)⟩,
  ⟨(119818), (.int (119818) 977), (.str (Str.ofString "k") 978)⟩,
  ⟨(119819), (.int (119819) 980), (.str (Str.ofString "l") 981)⟩,
  ⟨(119820), (.int (119820) 983), (.str (Str.ofString "m") 984)⟩,
  ⟨(119821), (.int (119821) 986), (.str (Str.ofString "n") 987)⟩,
  ⟨(119822), (.int (119822) 989), (.str (Str.ofString "o") 990)⟩,
  ⟨(119823), (.int (119823) 992), (.str (Str.ofString "p") 993)⟩,
  ⟨(119824), (.int (119824) 995), (.str (Str.ofString "q") 996)⟩,
  ⟨(119825), (.int (119825) 998), (.str (Str.ofString "r") 999)⟩,
  ⟨(119826), (.int (119826) 1001), (.str (Str.ofString "s") 1002)⟩,
  ⟨(119827), (.int (119827) 1004), (.str (Str.ofString "t") 1005)⟩,
  ⟨(119828), (.int (119828) 1007), (.str (Str.ofString "u") 1008)⟩,
  ⟨(119829), (.int (119829) 1010), (.str (Str.ofString "v") 1011)⟩,
  ⟨(119830), (.int (119830) 1013), (.str (Str.ofString "w") 1014)⟩,
  ⟨(119831), (.int (119831) 1016), (.str (Str.ofString "x") 1017)⟩,
  ⟨(119832), (.int (119832) 1019), (.str (Str.ofString "y") 1020)⟩,
  ⟨(119833), (.int (119833) 1022), (.str (Str.ofString "z") 1023)⟩,
  ⟨(119860), (.int (119860) 1025), (.str (Str.ofString "a") 1026)⟩,
  ⟨(119861), (.int (119861) 1028), (.str (Str.ofString "b") 1029)⟩,
  ⟨(119862), (.int (119862) 1031), (.str (Str.ofString "c") 1032)⟩,
  ⟨(119863), (.int (119863) 1034), (.str (Str.ofString "d") 1035)⟩,
  ⟨(119864), (.int (119864) 1037), (.str (Str.ofString "e") 1038)⟩,
  ⟨(119865), (.int (119865) 1040), (.str (Str.ofString "f") 1041)⟩,
  ⟨(119866), (.int (119866) 1043), (.str (Str.ofString "g") 1044)⟩,
  ⟨(119867), (.int (119867) 1046), (.str (Str.ofString "h") 1047)⟩,
  ⟨(119868), (.int (119868) 1049), (.str (Str.ofString "i") 1050)⟩,
  ⟨(119869), (.int (119869) 1052), (.str (Str.ofString "j") 1053)⟩,
  ⟨(119870), (.int (119870) 1055), (.str (Str.ofString "k") 1056)⟩,
  ⟨(119871), (.int (119871) 1058), (.str (Str.ofString "l") 1059)⟩,
  ⟨(119872), (.int (119872) 1061), (.str (Str.ofString "m") 1062)⟩,
  ⟨(119873), (.int (119873) 1064), (.str (Str.ofString "n") 1065)⟩,
  ⟨(119874), (.int (119874) 1067), (.str (Str.ofString "o") 1068)⟩,
  ⟨(119875), (.int (119875) 1070), (.str (Str.ofString "p") 1071)⟩,
  ⟨(119876), (.int (119876) 1073), (.str (Str.ofString "q") 1074)⟩,
  ⟨(119877), (.int (119877) 1076), (.str (Str.ofString "r") 1077)⟩,
  ⟨(119878), (.int (119878) 1079), (.str (Str.ofString "s") 1080)⟩,
  ⟨(119879), (.int (119879) 1082), (.str (Str.ofString "t") 1083)⟩,
  ⟨(119880), (.int (119880) 1085), (.str (Str.ofString "u") 1086)⟩,
  ⟨(119881), (.int (119881) 1088), (.str (Str.ofString "v") 1089)⟩,
  ⟨(119882), (.int (119882) 1091), (.str (Str.ofString "w") 1092)⟩,
  ⟨(119883), (.int (119883) 1094), (.str (Str.ofString "x") 1095)⟩,
  ⟨(119884), (.int (119884) 1097), (.str (Str.ofString "y") 1098)⟩,
  ⟨(119885), (.int (119885) 1100), (.str (Str.ofString "z") 1101)⟩,
  ⟨(119912), (.int (119912) 1103), (.str (Str.ofString "a") 1104)⟩,
  ⟨(119913), (.int (119913) 1106), (.str (Str.ofString "b") 1107)⟩,
  ⟨(119914), (.int (119914) 1109), (.str (Str.ofString "c") 1110)⟩,
  ⟨(119915), (.int (119915) 1112), (.str (Str.ofString "d") 1113)⟩,
  ⟨(119916), (.int (119916) 1115), (.str (Str.ofString "e") 1116)⟩,
  ⟨(119917), (.int (119917) 1118), (.str (Str.ofString "f") 1119)⟩,
  ⟨(119918), (.int (119918) 1121), (.str (Str.ofString "g") 1122)⟩,
  ⟨(119919), (.int (119919) 1124), (.str (Str.ofString "h") 1125)⟩,
  ⟨(119920), (.int (119920) 1127), (.str (Str.ofString "i") 1128)⟩,
  ⟨(119921), (.int (119921) 1130), (.str (Str.ofString "j") 1131)⟩,
  ⟨(119922), (.int (119922) 1133), (.str (Str.ofString "k") 1134)⟩,
  ⟨(119923), (.int (119923) 1136), (.str (Str.ofString "l") 1137)⟩,
  ⟨(119924), (.int (119924) 1139), (.str (Str.ofString "m") 1140)⟩,
  ⟨(119925), (.int (119925) 1142), (.str (Str.ofString "n") 1143)⟩,
  ⟨(119926), (.int (119926) 1145), (.str (Str.ofString "o") 1146)⟩,
  ⟨(119927), (.int (119927) 1148), (.str (Str.ofString "p") 1149)⟩,
  ⟨(119928), (.int (119928) 1151), (.str (Str.ofString "q") 1152)⟩,
  ⟨(119929), (.int (119929) 1154), (.str (Str.ofString "r") 1155)⟩,
  ⟨(119930), (.int (119930) 1157), (.str (Str.ofString "s") 1158)⟩,
  ⟨(119931), (.int (119931) 1160), (.str (Str.ofString "t") 1161)⟩,
  ⟨(119932), (.int (119932) 1163), (.str (Str.ofString "u") 1164)⟩,
  ⟨(119933), (.int (119933) 1166), (.str (Str.ofString "v") 1167)⟩,
  ⟨(119934), (.int (119934) 1169), (.str (Str.ofString "w") 1170)⟩,
  ⟨(119935), (.int (119935) 1172), (.str (Str.ofString "x") 1173)⟩,
  ⟨(119936), (.int (119936) 1175), (.str (Str.ofString "y") 1176)⟩,
  ⟨(119937), (.int (119937) 1178), (.str (Str.ofString "z") 1179)⟩,
  ⟨(119964), (.int (119964) 1181), (.str (Str.ofString "a") 1182)⟩,
  ⟨(119966), (.int (119966) 1184), (.str (Str.ofString "c") 1185)⟩,
  ⟨(119967), (.int (119967) 1187), (.str (Str.ofString "d") 1188)⟩,
  ⟨(119970), (.int (119970) 1190), (.str (Str.ofString "g") 1191)⟩,
  ⟨(119973), (.int (119973) 1193), (.str (Str.ofString "j") 1194)⟩,
  ⟨(119974), (.int (119974) 1196), (.str (Str.ofString "k") 1197)⟩,
  ⟨(119977), (.int (119977) 1199), (.str (Str.ofString "n") 1200)⟩,
  ⟨(119978), (.int (119978) 1202), (.str (Str.ofString "o") 1203)⟩,
  ⟨(119979), (.int (119979) 1205), (.str (Str.ofString "p") 1206)⟩,
  ⟨(119980), (.int (119980) 1208), (.str (Str.ofString "q") 1209)⟩,
  ⟨(119982), (.int (119982) 1211), (.str (Str.ofString "s") 1212)⟩,
  ⟨(119983), (.int (119983) 1214), (.str (Str.ofString "t") 1215)⟩,
  ⟨(119984), (.int (119984) 1217), (.str (Str.ofString "u") 1218)⟩,
  ⟨(119985), (.int (119985) 1220), (.str (Str.ofString "v") 1221)⟩,
  ⟨(119986), (.int (119986) 1223), (.str (Str.ofString "w") 1224)⟩,
  ⟨(119987), (.int (119987) 1226), (.str (Str.ofString "x") 1227)⟩,
  ⟨(119988), (.int (119988) 1229), (.str (Str.ofString "y") 1230)⟩,
  ⟨(119989), (.int (119989) 1232), (.str (Str.ofString "z") 1233)⟩,
  ⟨(120016), (.int (120016) 1235), (.str (Str.ofString "a") 1236)⟩,
  ⟨(120017), (.int (120017) 1238), (.str (Str.ofString "b") 1239)⟩,
  ⟨(120018), (.int (120018) 1241), (.str (Str.ofString "c") 1242)⟩,
  ⟨(120019), (.int (120019) 1244), (.str (Str.ofString "d") 1245)⟩,
  ⟨(120020), (.int (120020) 1247), (.str (Str.ofString "e") 1248)⟩,
  ⟨(120021), (.int (120021) 1250), (.str (Str.ofString "f") 1251)⟩,
  ⟨(120022), (.int (120022) 1253), (.str (Str.ofString "g") 1254)⟩,
  ⟨(120023), (.int (120023) 1256), (.str (Str.ofString "h") 1257)⟩,
  ⟨(120024), (.int (120024) 1259), (.str (Str.ofString "i") 1260)⟩,
  ⟨(120025), (.int (120025) 1262), (.str (Str.ofString "j") 1263)⟩,
  ⟨(120026), (.int (120026) 1265), (.str (Str.ofString "k") 1266)⟩,
  ⟨(120027), (.int (120027) 1268), (.str (Str.ofString "l") 1269)⟩,
  ⟨(120028), (.int (120028) 1271), (.str (Str.ofString "m") 1272)⟩,
  ⟨(120029), (.int (120029) 1274), (.str (Str.ofString "n") 1275)⟩,
  ⟨(120030), (.int (120030) 1277), (.str (Str.ofString "o") 1278)⟩,
  ⟨(120031), (.int (120031) 1280), (.str (Str.ofString "p") 1281)⟩,
  ⟨(120032), (.int (120032) 1283), (.str (Str.ofString "q") 1284)⟩,
  ⟨(120033), (.int (120033) 1286), (.str (Str.ofString "r") 1287)⟩,
  ⟨(120034), (.int (120034) 1289), (.str (Str.ofString "s") 1290)⟩,
  ⟨(120035), (.int (120035) 1292), (.str (Str.ofString "t") 1293)⟩,
  ⟨(120036), (.int (120036) 1295), (.str (Str.ofString "u") 1296)⟩,
  ⟨(120037), (.int (120037) 1298), (.str (Str.ofString "v") 1299)⟩,
  ⟨(120038), (.int (120038) 1301), (.str (Str.ofString "w") 1302)⟩,
  ⟨(120039), (.int (120039) 1304), (.str (Str.ofString "x") 1305)⟩,
  ⟨(120040), (.int (120040) 1307), (.str (Str.ofString "y") 1308)⟩,
  ⟨(120041), (.int (120041) 1310), (.str (Str.ofString "z") 1311)⟩,
  ⟨(120068), (.int (120068) 1313), (.str (Str.ofString "a") 1314)⟩,
  ⟨(120069), (.int (120069) 1316), (.str (Str.ofString "b") 1317)⟩,
  ⟨(120071), (.int (120071) 1319), (.str (Str.ofString "d") 1320)⟩,
  ⟨(120072), (.int (120072) 1322), (.str (Str.ofString "e") 1323)⟩,
  ⟨(120073), (.int (120073) 1325), (.str (Str.ofString "f") 1326)⟩,
  ⟨(120074), (.int (120074) 1328), (.str (Str.ofString "g") 1329)⟩,
  ⟨(120077), (.int (120077) 1331), (.str (Str.ofString "j") 1332)⟩,
  ⟨(120078), (.int (120078) 1334), (.str (Str.ofString "k") 1335)⟩,
  ⟨(120079), (.int (120079) 1337), (.str (Str.ofString "l") 1338)⟩,
  ⟨(120080), (.int (120080) 1340), (.str (Str.ofString "m") 1341)⟩,
  ⟨(120081), (.int (120081) 1343), (.str (Str.ofString "n") 1344)⟩,
  ⟨(120082), (.int (120082) 1346), (.str (Str.ofString "o") 1347)⟩,
  ⟨(120083), (.int (120083) 1349), (.str (Str.ofString "p") 1350)⟩,
  ⟨(120084), (.int (120084) 1352), (.str (Str.ofString "q") 1353)⟩,
  ⟨(120086), (.int (120086) 1355), (.str (Str.ofString "s") 1356)⟩,
  ⟨(120087), (.int (120087) 1358), (.str (Str.ofString "t") 1359)⟩,
  ⟨(120088), (.int (120088) 1361), (.str (Str.ofString "u") 1362)⟩,
  ⟨(120089), (.int (120089) 1364), (.str (Str.ofString "v") 1365)⟩,
  ⟨(120090), (.int (120090) 1367), (.str (Str.ofString "w") 1368)⟩,
  ⟨(120091), (.int (120091) 1370), (.str (Str.ofString "x") 1371)⟩,
  ⟨(120092), (.int (120092) 1373), (.str (Str.ofString "y") 1374)⟩,
  ⟨(120120), (.int (120120) 1376), (.str (Str.ofString "a") 1377)⟩,
  ⟨(120121), (.int (120121) 1379), (.str (Str.ofString "b") 1380)⟩,
  ⟨(120123), (.int (120123) 1382), (.str (Str.ofString "d") 1383)⟩,
  ⟨(120124), (.int (120124) 1385), (.str (Str.ofString "e") 1386)⟩,
  ⟨(120125), (.int (120125) 1388), (.str (Str.ofString "f") 1389)⟩,
  ⟨(120126), (.int (120126) 1391), (.str (Str.ofString "g") 1392)⟩,
  ⟨(120128), (.int (120128) 1394), (.str (Str.ofString "i") 1395)⟩,
  ⟨(120129), (.int (120129) 1397), (.str (Str.ofString "j") 1398)⟩,
  ⟨(120130), (.int (120130) 1400), (.str (Str.ofString "k") 1401)⟩,
  ⟨(120131), (.int (120131) 1403), (.str (Str.ofString "l") 1404)⟩,
  ⟨(120132), (.int (120132) 1406), (.str (Str.ofString "m") 1407)⟩,
  ⟨(120134), (.int (120134) 1409), (.str (Str.ofString "o") 1410)⟩,
  ⟨(120138), (.int (120138) 1412), (.str (Str.ofString "s") 1413)⟩,
  ⟨(120139), (.int (120139) 1415), (.str (Str.ofString "t") 1416)⟩,
  ⟨(120140), (.int (120140) 1418), (.str (Str.ofString "u") 1419)⟩,
  ⟨(120141), (.int (120141) 1421), (.str (Str.ofString "v") 1422)⟩,
  ⟨(120142), (.int (120142) 1424), (.str (Str.ofString "w") 1425)⟩,
  ⟨(120143), (.int (120143) 1427), (.str (Str.ofString "x") 1428)⟩,
  ⟨(120144), (.int (120144) 1430), (.str (Str.ofString "y") 1431)⟩,
  ⟨(120172), (.int (120172) 1433), (.str (Str.ofString "a") 1434)⟩,
  ⟨(120173), (.int (120173) 1436), (.str (Str.ofString "b") 1437)⟩,
  ⟨(120174), (.int (120174) 1439), (.str (Str.ofString "c") 1440)⟩,
  ⟨(120175), (.int (120175) 1442), (.str (Str.ofString "d") 1443)⟩,
  ⟨(120176), (.int (120176) 1445), (.str (Str.ofString "e") 1446)⟩,
  ⟨(120177), (.int (120177) 1448), (.str (Str.ofString "f") 1449)⟩,
  ⟨(120178), (.int (120178) 1451), (.str (Str.ofString "g") 1452)⟩,
  ⟨(120179), (.int (120179) 1454), (.str (Str.ofString "h") 1455)⟩,
  ⟨(120180), (.int (120180) 1457), (.str (Str.ofString "i") 1458)⟩,
  ⟨(120181), (.int (120181) 1460), (.str (Str.ofString "j") 1461)⟩,
  ⟨(120182), (.int (120182) 1463), (.str (Str.ofString "k") 1464)⟩,
  ⟨(120183), (.int (120183) 1466), (.str (Str.ofString "l") 1467)⟩,
  ⟨(120184), (.int (120184) 1469), (.str (Str.ofString "m") 1470)⟩,
  ⟨(120185), (.int (120185) 1472), (.str (Str.ofString "n") 1473)⟩,
  ⟨(120186), (.int (120186) 1475), (.str (Str.ofString "o") 1476)⟩,
  ⟨(120187), (.int (120187) 1478), (.str (Str.ofString "p") 1479)⟩,
  ⟨(120188), (.int (120188) 1481), (.str (Str.ofString "q") 1482)⟩,
  ⟨(120189), (.int (120189) 1484), (.str (Str.ofString "r") 1485)⟩,
  ⟨(120190), (.int (120190) 1487), (.str (Str.ofString "s") 1488)⟩,
  ⟨(120191), (.int (120191) 1490), (.str (Str.ofString "t") 1491)⟩,
  ⟨(120192), (.int (120192) 1493), (.str (Str.ofString "u") 1494)⟩,
  ⟨(120193), (.int (120193) 1496), (.str (Str.ofString "v") 1497)⟩,
  ⟨(120194), (.int (120194) 1499), (.str (Str.ofString "w") 1500)⟩,
  ⟨(120195), (.int (120195) 1502), (.str (Str.ofString "x") 1503)⟩,
  ⟨(120196), (.int (120196) 1505), (.str (Str.ofString "y") 1506)⟩,
  ⟨(120197), (.int (120197) 1508), (.str (Str.ofString "z") 1509)⟩,
  ⟨(120224), (.int (120224) 1511), (.str (Str.ofString "a") 1512)⟩,
  ⟨(120225), (.int (120225) 1514), (.str (Str.ofString "b") 1515)⟩,
  ⟨(120226), (.int (120226) 1517), (.str (Str.ofString "c") 1518)⟩,
  ⟨(120227), (.int (120227) 1520), (.str (Str.ofString "d") 1521)⟩,
  ⟨(120228), (.int (120228) 1523), (.str (Str.ofString "e") 1524)⟩,
  ⟨(120229), (.int (120229) 1526), (.str (Str.ofString "f") 1527)⟩,
  ⟨(120230), (.int (120230) 1529), (.str (Str.ofString "g") 1530)⟩,
  ⟨(120231), (.int (120231) 1532), (.str (Str.ofString "h") 1533)⟩,
  ⟨(120232), (.int (120232) 1535), (.str (Str.ofString "i") 1536)⟩,
  ⟨(120233), (.int (120233) 1538), (.str (Str.ofString "j") 1539)⟩,
  ⟨(120234), (.int (120234) 1541), (.str (Str.ofString "k") 1542)⟩,
  ⟨(120235), (.int (120235) 1544), (.str (Str.ofString "l") 1545)⟩,
  ⟨(120236), (.int (120236) 1547), (.str (Str.ofString "m") 1548)⟩,
  ⟨(120237), (.int (120237) 1550), (.str (Str.ofString "n") 1551)⟩,
  ⟨(120238), (.int (120238) 1553), (.str (Str.ofString "o") 1554)⟩,
  ⟨(120239), (.int (120239) 1556), (.str (Str.ofString "p") 1557)⟩,
  ⟨(120240), (.int (120240) 1559), (.str (Str.ofString "q") 1560)⟩,
  ⟨(120241), (.int (120241) 1562), (.str (Str.ofString "r") 1563)⟩,
  ⟨(120242), (.int (120242) 1565), (.str (Str.ofString "s") 1566)⟩,
  ⟨(120243), (.int (120243) 1568), (.str (Str.ofString "t") 1569)⟩,
  ⟨(120244), (.int (120244) 1571), (.str (Str.ofString "u") 1572)⟩,
  ⟨(120245), (.int (120245) 1574), (.str (Str.ofString "v") 1575)⟩,
  ⟨(120246), (.int (120246) 1577), (.str (Str.ofString "w") 1578)⟩,
  ⟨(120247), (.int (120247) 1580), (.str (Str.ofString "x") 1581)⟩,
  ⟨(120248), (.int (120248) 1583), (.str (Str.ofString "y") 1584)⟩,
  ⟨(120249), (.int (120249) 1586), (.str (Str.ofString "z") 1587)⟩,
  ⟨(120276), (.int (120276) 1589), (.str (Str.ofString "a") 1590)⟩,
  ⟨(120277), (.int (120277) 1592), (.str (Str.ofString "b") 1593)⟩,
  ⟨(120278), (.int (120278) 1595), (.str (Str.ofString "c") 1596)⟩,
  ⟨(120279), (.int (120279) 1598), (.str (Str.ofString "d") 1599)⟩,
  ⟨(120280), (.int (120280) 1601), (.str (Str.ofString "e") 1602)⟩,
  ⟨(120281), (.int (120281) 1604), (.str (Str.ofString "f") 1605)⟩,
  ⟨(120282), (.int (120282) 1607), (.str (Str.ofString "g") 1608)⟩,
  ⟨(120283), (.int (120283) 1610), (.str (Str.ofString "h") 1611)⟩,
  ⟨(120284), (.int (120284) 1613), (.str (Str.ofString "i") 1614)⟩,
  ⟨(120285), (.int (120285) 1616), (.str (Str.ofString "j") 1617)⟩,
  ⟨(120286), (.int (120286) 1619), (.str (Str.ofString "k") 1620)⟩,
  ⟨(120287), (.int (120287) 1622), (.str (Str.ofString "l") 1623)⟩,
  ⟨(120288), (.int (120288) 1625), (.str (Str.ofString "m") 1626)⟩,
  ⟨(120289), (.int (120289) 1628), (.str (Str.ofString "n") 1629)⟩,
  ⟨(120290), (.int (120290) 1631), (.str (Str.ofString "o") 1632)⟩,
  ⟨(120291), (.int (120291) 1634), (.str (Str.ofString "p") 1635)⟩,
  ⟨(120292), (.int (120292) 1637), (.str (Str.ofString "q") 1638)⟩,
  ⟨(120293), (.int (120293) 1640), (.str (Str.ofString "r") 1641)⟩,
  ⟨(120294), (.int (120294) 1643), (.str (Str.ofString "s") 1644)⟩,
  ⟨(120295), (.int (120295) 1646), (.str (Str.ofString "t") 1647)⟩,
  ⟨(120296), (.int (120296) 1649), (.str (Str.ofString "u") 1650)⟩,
  ⟨(120297), (.int (120297) 1652), (.str (Str.ofString "v") 1653)⟩,
  ⟨(120298), (.int (120298) 1655), (.str (Str.ofString "w") 1656)⟩,
  ⟨(120299), (.int (120299) 1658), (.str (Str.ofString "x") 1659)⟩,
  ⟨(120300), (.int (120300) 1661), (.str (Str.ofString "y") 1662)⟩,
  ⟨(120301), (.int (120301) 1664), (.str (Str.ofString "z") 1665)⟩,
  ⟨(120328), (.int (120328) 1667), (.str (Str.ofString "a") 1668)⟩,
  ⟨(120329), (.int (120329) 1670), (.str (Str.ofString "b") 1671)⟩,
  ⟨(120330), (.int (120330) 1673), (.str (Str.ofString "c") 1674)⟩,
  ⟨(120331), (.int (120331) 1676), (.str (Str.ofString "d") 1677)⟩,
  ⟨(120332), (.int (120332) 1679), (.str (Str.ofString "e") 1680)⟩,
  ⟨(120333), (.int (120333) 1682), (.str (Str.ofString "f") 1683)⟩,
  ⟨(120334), (.int (120334) 1685), (.str (Str.ofString "g") 1686)⟩,
  ⟨(120335), (.int (120335) 1688), (.str (Str.ofString "h") 1689)⟩,
  ⟨(120336), (.int (120336) 1691), (.str (Str.ofString "i") 1692)⟩,
  ⟨(120337), (.int (120337) 1694), (.str (Str.ofString "j") 1695)⟩,
  ⟨(120338), (.int (120338) 1697), (.str (Str.ofString "k") 1698)⟩,
  ⟨(120339), (.int (120339) 1700), (.str (Str.ofString "l") 1701)⟩,
  ⟨(120340), (.int (120340) 1703), (.str (Str.ofString "m") 1704)⟩,
  ⟨(120341), (.int (120341) 1706), (.str (Str.ofString "n") 1707)⟩,
  ⟨(120342), (.int (120342) 1709), (.str (Str.ofString "o") 1710)⟩,
  ⟨(120343), (.int (120343) 1712), (.str (Str.ofString "p") 1713)⟩,
  ⟨(120344), (.int (120344) 1715), (.str (Str.ofString "q") 1716)⟩,
  ⟨(120345), (.int (120345) 1718), (.str (Str.ofString "r") 1719)⟩,
  ⟨(120346), (.int (120346) 1721), (.str (Str.ofString "s") 1722)⟩,
  ⟨(120347), (.int (120347) 1724), (.str (Str.ofString "t") 1725)⟩,
  ⟨(120348), (.int (120348) 1727), (.str (Str.ofString "u") 1728)⟩,
  ⟨(120349), (.int (120349) 1730), (.str (Str.ofString "v") 1731)⟩,
  ⟨(120350), (.int (120350) 1733), (.str (Str.ofString "w") 1734)⟩,
  ⟨(120351), (.int (120351) 1736), (.str (Str.ofString "x") 1737)⟩,
  ⟨(120352), (.int (120352) 1739), (.str (Str.ofString "y") 1740)⟩,
  ⟨(120353), (.int (120353) 1742), (.str (Str.ofString "z") 1743)⟩,
  ⟨(120380), (.int (120380) 1745), (.str (Str.ofString "a") 1746)⟩,
  ⟨(120381), (.int (120381) 1748), (.str (Str.ofString "b") 1749)⟩,
  ⟨(120382), (.int (120382) 1751), (.str (Str.ofString "c") 1752)⟩,
  ⟨(120383), (.int (120383) 1754), (.str (Str.ofString "d") 1755)⟩,
  ⟨(120384), (.int (120384) 1757), (.str (Str.ofString "e") 1758)⟩,
  ⟨(120385), (.int (120385) 1760), (.str (Str.ofString "f") 1761)⟩,
  ⟨(120386), (.int (120386) 1763), (.str (Str.ofString "g") 1764)⟩,
  ⟨(120387), (.int (120387) 1766), (.str (Str.ofString "h") 1767)⟩,
  ⟨(120388), (.int (120388) 1769), (.str (Str.ofString "i") 1770)⟩,
  ⟨(120389), (.int (120389) 1772), (.str (Str.ofString "j") 1773)⟩,
  ⟨(120390), (.int (120390) 1775), (.str (Str.ofString "k") 1776)⟩,
  ⟨(120391), (.int (120391) 1778), (.str (Str.ofString "l") 1779)⟩,
  ⟨(120392), (.int (120392) 1781), (.str (Str.ofString "m") 1782)⟩,
  ⟨(120393), (.int (120393) 1784), (.str (Str.ofString "n") 1785)⟩,
  ⟨(120394), (.int (120394) 1787), (.str (Str.ofString "o") 1788)⟩,
  ⟨(120395), (.int (120395) 1790), (.str (Str.ofString "p") 1791)⟩,
  ⟨(120396), (.int (120396) 1793), (.str (Str.ofString "q") 1794)⟩,
  ⟨(120397), (.int (120397) 1796), (.str (Str.ofString "r") 1797)⟩,
  ⟨(120398), (.int (120398) 1799), (.str (Str.ofString "s") 1800)⟩,
  ⟨(120399), (.int (120399) 1802), (.str (Str.ofString "t") 1803)⟩,
  ⟨(120400), (.int (120400) 1805), (.str (Str.ofString "u") 1806)⟩,
  ⟨(120401), (.int (120401) 1808), (.str (Str.ofString "v") 1809)⟩,
  ⟨(120402), (.int (120402) 1811), (.str (Str.ofString "w") 1812)⟩,
  ⟨(120403), (.int (120403) 1814), (.str (Str.ofString "x") 1815)⟩,
  ⟨(120404), (.int (120404) 1817), (.str (Str.ofString "y") 1818)⟩,
  ⟨(120405), (.int (120405) 1820), (.str (Str.ofString "z") 1821)⟩,
  ⟨(120432), (.int (120432) 1823), (.str (Str.ofString "a") 1824)⟩,
  ⟨(120433), (.int (120433) 1826), (.str (Str.ofString "b") 1827)⟩,
  ⟨(120434), (.int (120434) 1829), (.str (Str.ofString "c") 1830)⟩,
  ⟨(120435), (.int (120435) 1832), (.str (Str.ofString "d") 1833)⟩,
  ⟨(120436), (.int (120436) 1835), (.str (Str.ofString "e") 1836)⟩,
  ⟨(120437), (.int (120437) 1838), (.str (Str.ofString "f") 1839)⟩,
  ⟨(120438), (.int (120438) 1841), (.str (Str.ofString "g") 1842)⟩,
  ⟨(120439), (.int (120439) 1844), (.str (Str.ofString "h") 1845)⟩,
  ⟨(120440), (.int (120440) 1847), (.str (Str.ofString "i") 1848)⟩,
  ⟨(120441), (.int (120441) 1850), (.str (Str.ofString "j") 1851)⟩,
  ⟨(120442), (.int (120442) 1853), (.str (Str.ofString "k") 1854)⟩,
  ⟨(120443), (.int (120443) 1856), (.str (Str.ofString "l") 1857)⟩,
  ⟨(120444), (.int (120444) 1859), (.str (Str.ofString "m") 1860)⟩,
  ⟨(120445), (.int (120445) 1862), (.str (Str.ofString "n") 1863)⟩,
  ⟨(120446), (.int (120446) 1865), (.str (Str.ofString "o") 1866)⟩,
  ⟨(120447), (.int (120447) 1868), (.str (Str.ofString "p") 1869)⟩,
  ⟨(120448), (.int (120448) 1871), (.str (Str.ofString "q") 1872)⟩,
  ⟨(120449), (.int (120449) 1874), (.str (Str.ofString "r") 1875)⟩,
  ⟨(120450), (.int (120450) 1877), (.str (Str.ofString "s") 1878)⟩,
  ⟨(120451), (.int (120451) 1880), (.str (Str.ofString "t") 1881)⟩,
  ⟨(120452), (.int (120452) 1883), (.str (Str.ofString "u") 1884)⟩,
  ⟨(120453), (.int (120453) 1886), (.str (Str.ofString "v") 1887)⟩,
  ⟨(120454), (.int (120454) 1889), (.str (Str.ofString "w") 1890)⟩,
  ⟨(120455), (.int (120455) 1892), (.str (Str.ofString "x") 1893)⟩,
  ⟨(120456), (.int (120456) 1895), (.str (Str.ofString "y") 1896)⟩,
  ⟨(120457), (.int (120457) 1898), (.str (Str.ofString "z") 1899)⟩,
  ⟨(120488), (.int (120488) 1901), (.str (Str.ofString "α") 1902)⟩,
  ⟨(120489), (.int (120489) 1904), (.str (Str.ofString "β") 1905)⟩,
  ⟨(120490), (.int (120490) 1907), (.str (Str.ofString "γ") 1908)⟩,
  ⟨(120491), (.int (120491) 1910), (.str (Str.ofString "δ") 1911)⟩,
  ⟨(120492), (.int (120492) 1913), (.str (Str.ofString "ε") 1914)⟩,
  ⟨(120493), (.int (120493) 1916), (.str (Str.ofString "ζ") 1917)⟩,
  ⟨(120494), (.int (120494) 1919), (.str (Str.ofString "η") 1920)⟩,
  ⟨(120495), (.int (120495) 1922), (.str (Str.ofString "θ") 1923)⟩,
  ⟨(120496), (.int (120496) 1925), (.str (Str.ofString "ι") 1926)⟩,
  ⟨(120497), (.int (120497) 1928), (.str (Str.ofString "κ") 1929)⟩,
  ⟨(120498), (.int (120498) 1931), (.str (Str.ofString "λ") 1932)⟩,
  ⟨(120499), (.int (120499) 1934), (.str (Str.ofString "μ") 1935)⟩,
  ⟨(120500), (.int (120500) 1937), (.str (Str.ofString "ν") 1938)⟩,
  ⟨(120501), (.int (120501) 1940), (.str (Str.ofString "ξ") 1941)⟩,
  ⟨(120502), (.int (120502) 1943), (.str (Str.ofString "ο") 1944)⟩,
  ⟨(120503), (.int (120503) 1946), (.str (Str.ofString "π") 1947)⟩,
  ⟨(120504), (.int (120504) 1949), (.str (Str.ofString "ρ") 1950)⟩,
  ⟨(120505), (.int (120505) 1952), (.str (Str.ofString "θ") 1953)⟩,
  ⟨(120506), (.int (120506) 1955), (.str (Str.ofString "σ") 1956)⟩,
  ⟨(120507), (.int (120507) 1958), (.str (Str.ofString "τ") 1959)⟩,
  ⟨(120508), (.int (120508) 1961), (.str (Str.ofString "υ") 1962)⟩,
  ⟨(120509), (.int (120509) 1964), (.str (Str.ofString "φ") 1965)⟩,
  ⟨(120510), (.int (120510) 1967), (.str (Str.ofString "χ") 1968)⟩,
  ⟨(120511), (.int (120511) 1970), (.str (Str.ofString "ψ") 1971)⟩,
  ⟨(120512), (.int (120512) 1973), (.str (Str.ofString "ω") 1974)⟩,
  ⟨(120531), (.int (120531) 1976), (.str (Str.ofString "σ") 1977)⟩,
  ⟨(120546), (.int (120546) 1979), (.str (Str.ofString "α") 1980)⟩,
  ⟨(120547), (.int (120547) 1982), (.str (Str.ofString "β") 1983)⟩,
  ⟨(120548), (.int (120548) 1985), (.str (Str.ofString "γ") 1986)⟩,
  ⟨(120549), (.int (120549) 1988), (.str (Str.ofString "δ") 1989)⟩,
  ⟨(120550), (.int (120550) 1991), (.str (Str.ofString "ε") 1992)⟩,
  ⟨(120551), (.int (120551) 1994), (.str (Str.ofString "ζ") 1995)⟩,
  ⟨(120552), (.int (120552) 1997), (.str (Str.ofString "η") 1998)⟩,
  ⟨(120553), (.int (120553) 2000), (.str (Str.ofString "θ") 2001)⟩,
  ⟨(120554), (.int (120554) 2003), (.str (Str.ofString "ι") 2004)⟩,
  ⟨(120555), (.int (120555) 2006), (.str (Str.ofString "κ") 2007)⟩,
  ⟨(120556), (.int (120556) 2009), (.str (Str.ofString "λ") 2010)⟩,
  ⟨(120557), (.int (120557) 2012), (.str (Str.ofString "μ") 2013)⟩,
  ⟨(120558), (.int (120558) 2015), (.str (Str.ofString "ν") 2016)⟩,
  ⟨(120559), (.int (120559) 2018), (.str (Str.ofString "ξ") 2019)⟩,
  ⟨(120560), (.int (120560) 2021), (.str (Str.ofString "ο") 2022)⟩,
  ⟨(120561), (.int (120561) 2024), (.str (Str.ofString "π") 2025)⟩,
  ⟨(120562), (.int (120562) 2027), (.str (Str.ofString "ρ") 2028)⟩,
  ⟨(120563), (.int (120563) 2030), (.str (Str.ofString "θ") 2031)⟩,
  ⟨(120564), (.int (120564) 2033), (.str (Str.ofString "σ") 2034)⟩,
  ⟨(120565), (.int (120565) 2036), (.str (Str.ofString "τ") 2037)⟩,
  ⟨(120566), (.int (120566) 2039), (.str (Str.ofString "υ") 2040)⟩,
  ⟨(120567), (.int (120567) 2042), (.str (Str.ofString "φ") 2043)⟩,
  ⟨(120568), (.int (120568) 2045), (.str (Str.ofString "χ") 2046)⟩,
  ⟨(120569), (.int (120569) 2048), (.str (Str.ofString "ψ") 2049)⟩,
  ⟨(120570), (.int (120570) 2051), (.str (Str.ofString "ω") 2052)⟩,
  ⟨(120589), (.int (120589) 2054), (.str (Str.ofString "σ") 2055)⟩,
  ⟨(120604), (.int (120604) 2057), (.str (Str.ofString "α") 2058)⟩,
  ⟨(120605), (.int (120605) 2060), (.str (Str.ofString "β") 2061)⟩,
  ⟨(120606), (.int (120606) 2063), (.str (Str.ofString "γ") 2064)⟩,
  ⟨(120607), (.int (120607) 2066), (.str (Str.ofString "δ") 2067)⟩,
  ⟨(120608), (.int (120608) 2069), (.str (Str.ofString "ε") 2070)⟩,
  ⟨(120609), (.int (120609) 2072), (.str (Str.ofString "ζ") 2073)⟩,
  ⟨(120610), (.int (120610) 2075), (.str (Str.ofString "η") 2076)⟩,
  ⟨(120611), (.int (120611) 2078), (.str (Str.ofString "θ") 2079)⟩,
  ⟨(120612), (.int (120612) 2081), (.str (Str.ofString "ι") 2082)⟩,
  ⟨(120613), (.int (120613) 2084), (.str (Str.ofString "κ") 2085)⟩,
  ⟨(120614), (.int (120614) 2087), (.str (Str.ofString "λ") 2088)⟩,
  ⟨(120615), (.int (120615) 2090), (.str (Str.ofString "μ") 2091)⟩,
  ⟨(120616), (.int (120616) 2093), (.str (Str.ofString "ν") 2094)⟩,
  ⟨(120617), (.int (120617) 2096), (.str (Str.ofString "ξ") 2097)⟩,
  ⟨(120618), (.int (120618) 2099), (.str (Str.ofString "ο") 2100)⟩,
  ⟨(120619), (.int (120619) 2102), (.str (Str.ofString "π") 2103)⟩,
  ⟨(120620), (.int (120620) 2105), (.str (Str.ofString "ρ") 2106)⟩,
  ⟨(120621), (.int (120621) 2108), (.str (Str.ofString "θ") 2109)⟩,
  ⟨(120622), (.int (120622) 2111), (.str (Str.ofString "σ") 2112)⟩,
  ⟨(120623), (.int (120623) 2114), (.str (Str.ofString "τ") 2115)⟩,
  ⟨(120624), (.int (120624) 2117), (.str (Str.ofString "υ") 2118)⟩,
  ⟨(120625), (.int (120625) 2120), (.str (Str.ofString "φ") 2121)⟩,
  ⟨(120626), (.int (120626) 2123), (.str (Str.ofString "χ") 2124)⟩,
  ⟨(120627), (.int (120627) 2126), (.str (Str.ofString "ψ") 2127)⟩,
  ⟨(120628), (.int (120628) 2129), (.str (Str.ofString "ω") 2130)⟩,
  ⟨(120647), (.int (120647) 2132), (.str (Str.ofString "σ") 2133)⟩,
  ⟨(120662), (.int (120662) 2135), (.str (Str.ofString "α") 2136)⟩,
  ⟨(120663), (.int (120663) 2138), (.str (Str.ofString "β") 2139)⟩,
  ⟨(120664), (.int (120664) 2141), (.str (Str.ofString "γ") 2142)⟩,
  ⟨(120665), (.int (120665) 2144), (.str (Str.ofString "δ") 2145)⟩,
  ⟨(120666), (.int (120666) 2147), (.str (Str.ofString "ε") 2148)⟩,
  ⟨(120667), (.int (120667) 2150), (.str (Str.ofString "ζ") 2151)⟩,
  ⟨(120668), (.int (120668) 2153), (.str (Str.ofString "η") 2154)⟩,
  ⟨(120669), (.int (120669) 2156), (.str (Str.ofString "θ") 2157)⟩,
  ⟨(120670), (.int (120670) 2159), (.str (Str.ofString "ι") 2160)⟩,
  ⟨(120671), (.int (120671) 2162), (.str (Str.ofString "κ") 2163)⟩,
  ⟨(120672), (.int (120672) 2165), (.str (Str.ofString "λ") 2166)⟩,
  ⟨(120673), (.int (120673) 2168), (.str (Str.ofString "μ") 2169)⟩,
  ⟨(120674), (.int (120674) 2171), (.str (Str.ofString "ν") 2172)⟩,
  ⟨(120675), (.int (120675) 2174), (.str (Str.ofString "ξ") 2175)⟩,
  ⟨(120676), (.int (120676) 2177), (.str (Str.ofString "ο") 2178)⟩,
  ⟨(120677), (.int (120677) 2180), (.str (Str.ofString "π") 2181)⟩,
  ⟨(120678), (.int (120678) 2183), (.str (Str.ofString "ρ") 2184)⟩,
  ⟨(120679), (.int (120679) 2186), (.str (Str.ofString "θ") 2187)⟩,
  ⟨(120680), (.int (120680) 2189), (.str (Str.ofString "σ") 2190)⟩,
  ⟨(120681), (.int (120681) 2192), (.str (Str.ofString "τ") 2193)⟩,
  ⟨(120682), (.int (120682) 2195), (.str (Str.ofString "υ") 2196)⟩,
  ⟨(120683), (.int (120683) 2198), (.str (Str.ofString "φ") 2199)⟩,
  ⟨(120684), (.int (120684) 2201), (.str (Str.ofString "χ") 2202)⟩,
  ⟨(120685), (.int (120685) 2204), (.str (Str.ofString "ψ") 2205)⟩,
  ⟨(120686), (.int (120686) 2207), (.str (Str.ofString "ω") 2208)⟩,
  ⟨(120705), (.int (120705) 2210), (.str (Str.ofString "σ") 2211)⟩,
  ⟨(120720), (.int (120720) 2213), (.str (Str.ofString "α") 2214)⟩,
  ⟨(120721), (.int (120721) 2216), (.str (Str.ofString "β") 2217)⟩,
  ⟨(120722), (.int (120722) 2219), (.str (Str.ofString "γ") 2220)⟩,
  ⟨(120723), (.int (120723) 2222), (.str (Str.ofString "δ") 2223)⟩,
  ⟨(120724), (.int (120724) 2225), (.str (Str.ofString "ε") 2226)⟩,
  ⟨(120725), (.int (120725) 2228), (.str (Str.ofString "ζ") 2229)⟩,
  ⟨(120726), (.int (120726) 2231), (.str (Str.ofString "η") 2232)⟩,
  ⟨(120727), (.int (120727) 2234), (.str (Str.ofString "θ") 2235)⟩,
  ⟨(120728), (.int (120728) 2237), (.str (Str.ofString "ι") 2238)⟩,
  ⟨(120729), (.int (120729) 2240), (.str (Str.ofString "κ") 2241)⟩,
  ⟨(120730), (.int (120730) 2243), (.str (Str.ofString "λ") 2244)⟩,
  ⟨(120731), (.int (120731) 2246), (.str (Str.ofString "μ") 2247)⟩,
  ⟨(120732), (.int (120732) 2249), (.str (Str.ofString "ν") 2250)⟩,
  ⟨(120733), (.int (120733) 2252), (.str (Str.ofString "ξ") 2253)⟩,
  ⟨(120734), (.int (120734) 2255), (.str (Str.ofString "ο") 2256)⟩,
  ⟨(120735), (.int (120735) 2258), (.str (Str.ofString "π") 2259)⟩,
  ⟨(120736), (.int (120736) 2261), (.str (Str.ofString "ρ") 2262)⟩,
  ⟨(120737), (.int (120737) 2264), (.str (Str.ofString "θ") 2265)⟩,
  ⟨(120738), (.int (120738) 2267), (.str (Str.ofString "σ") 2268)⟩,
  ⟨(120739), (.int (120739) 2270), (.str (Str.ofString "τ") 2271)⟩,
  ⟨(120740), (.int (120740) 2273), (.str (Str.ofString "υ") 2274)⟩,
  ⟨(120741), (.int (120741) 2276), (.str (Str.ofString "φ") 2277)⟩,
  ⟨(120742), (.int (120742) 2279), (.str (Str.ofString "χ") 2280)⟩,
  ⟨(120743), (.int (120743) 2281), (.str (Str.ofString "ψ") 2282)⟩,
  ⟨(120744), (.int (120744) 2283), (.str (Str.ofString "ω") 2284)⟩,
  ⟨(120763), (.int (120763) 2285), (.str (Str.ofString "σ") 2286)⟩]
noncomputable def dictO (es : List DictEntry) (n : Nat) : Obj := ⟨.type "dict", none, .dict ⟨es⟩ n, ⟨[]⟩⟩
noncomputable def o103D (P : Params) : Obj := dictO b3es 650
noncomputable def o104D (P : Params) : Obj := dictO ((b3es.drop 17).take 17) 17
noncomputable def o105D (P : Params) : Obj := dictO ((b3es.drop 34).take 17) 17
noncomputable def o106D (P : Params) : Obj := dictO ((b3es.drop 51).take 17) 17
noncomputable def o107D (P : Params) : Obj := dictO ((b3es.drop 68).take 17) 17
noncomputable def o108D (P : Params) : Obj := dictO ((b3es.drop 85).take 17) 17
noncomputable def o109D (P : Params) : Obj := dictO ((b3es.drop 102).take 17) 17
noncomputable def o110D (P : Params) : Obj := dictO ((b3es.drop 119).take 17) 17
noncomputable def o111D (P : Params) : Obj := dictO ((b3es.drop 136).take 17) 17
noncomputable def o112D (P : Params) : Obj := dictO ((b3es.drop 153).take 17) 17
noncomputable def o113D (P : Params) : Obj := dictO ((b3es.drop 170).take 17) 17
noncomputable def o114D (P : Params) : Obj := dictO ((b3es.drop 187).take 17) 17
noncomputable def o115D (P : Params) : Obj := dictO ((b3es.drop 204).take 17) 17
noncomputable def o116D (P : Params) : Obj := dictO ((b3es.drop 221).take 17) 17
noncomputable def o117D (P : Params) : Obj := dictO ((b3es.drop 238).take 17) 17
noncomputable def o118D (P : Params) : Obj := dictO ((b3es.drop 255).take 17) 17
noncomputable def o119D (P : Params) : Obj := dictO ((b3es.drop 272).take 17) 17
noncomputable def o120D (P : Params) : Obj := dictO ((b3es.drop 289).take 17) 17
noncomputable def o121D (P : Params) : Obj := dictO ((b3es.drop 306).take 17) 17
noncomputable def o122D (P : Params) : Obj := dictO ((b3es.drop 323).take 17) 17
noncomputable def o123D (P : Params) : Obj := dictO ((b3es.drop 340).take 17) 17
noncomputable def o124D (P : Params) : Obj := dictO ((b3es.drop 357).take 17) 17
noncomputable def o125D (P : Params) : Obj := dictO ((b3es.drop 374).take 17) 17
noncomputable def o126D (P : Params) : Obj := dictO ((b3es.drop 391).take 17) 17
noncomputable def o127D (P : Params) : Obj := dictO ((b3es.drop 408).take 17) 17
noncomputable def o128D (P : Params) : Obj := dictO ((b3es.drop 425).take 17) 17
noncomputable def o129D (P : Params) : Obj := dictO ((b3es.drop 442).take 17) 17
noncomputable def o130D (P : Params) : Obj := dictO ((b3es.drop 459).take 17) 17
noncomputable def o131D (P : Params) : Obj := dictO ((b3es.drop 476).take 17) 17
noncomputable def o132D (P : Params) : Obj := dictO ((b3es.drop 493).take 17) 17
noncomputable def o133D (P : Params) : Obj := dictO ((b3es.drop 510).take 17) 17
noncomputable def o134D (P : Params) : Obj := dictO ((b3es.drop 527).take 17) 17
noncomputable def o135D (P : Params) : Obj := dictO ((b3es.drop 544).take 17) 17
noncomputable def o136D (P : Params) : Obj := dictO ((b3es.drop 561).take 17) 17
noncomputable def o137D (P : Params) : Obj := dictO ((b3es.drop 578).take 17) 17
noncomputable def o138D (P : Params) : Obj := dictO ((b3es.drop 595).take 17) 17
noncomputable def o139D (P : Params) : Obj := dictO ((b3es.drop 612).take 17) 17
noncomputable def o140D (P : Params) : Obj := dictO ((b3es.drop 629).take 17) 17
noncomputable def o141D (P : Params) : Obj := dictO ((b3es.drop 646).take 4) 4
noncomputable def o103D0 (P : Params) : Obj := dictO (b3es.take 51) 51
noncomputable def treeD0 (P : Params) : BT := (.node (boot_o_0 P) (.node (boot_o_1 P) (.node (o3C P) (.node (boot_o_7 P) (.node (o15A P) (.node (o31A P) (.node (o63A P) .nil .nil) (.node (o95B P) .nil .nil)) (.node (o47A P) (.node (o79A P) .nil .nil) .nil)) (.node (o23A P) (.node (o39A P) (.node (o71A P) .nil .nil) (.node (o103D0 P) .nil .nil)) (.node (o55A P) (.node (o87B P) .nil .nil) .nil))) (.node (o11a P) (.node (o19A P) (.node (o35A P) (.node (o67A P) .nil .nil) (.node (o99C P) .nil .nil)) (.node (o51A P) (.node (o83A P) .nil .nil) .nil)) (.node (o27A P) (.node (o43A P) (.node (o75A P) .nil .nil) .nil) (.node (o59A P) (.node (o91B P) .nil .nil) .nil)))) (.node (boot_o_5 P) (.node (boot_o_9 P) (.node (o17A P) (.node (o33A P) (.node (o65A P) .nil .nil) (.node (o97C P) .nil .nil)) (.node (o49A P) (.node (o81A P) .nil .nil) .nil)) (.node (o25A P) (.node (o41A P) (.node (o73A P) .nil .nil) (.node (o105D P) .nil .nil)) (.node (o57A P) (.node (o89B P) .nil .nil) .nil))) (.node (o13a P) (.node (o21A P) (.node (o37A P) (.node (o69A P) .nil .nil) (.node (o101C P) .nil .nil)) (.node (o53A P) (.node (o85B P) .nil .nil) .nil)) (.node (o29A P) (.node (o45A P) (.node (o77A P) .nil .nil) .nil) (.node (o61A P) (.node (o93B P) .nil .nil) .nil))))) (.node (boot_o_2 P) (.node (boot_o_4 P) (.node (boot_o_8 P) (.node (o16A P) (.node (o32A P) (.node (o64A P) .nil .nil) (.node (o96C P) .nil .nil)) (.node (o48A P) (.node (o80A P) .nil .nil) .nil)) (.node (o24A P) (.node (o40A P) (.node (o72A P) .nil .nil) (.node (o104D P) .nil .nil)) (.node (o56A P) (.node (o88B P) .nil .nil) .nil))) (.node (o12C P) (.node (o20A P) (.node (o36A P) (.node (o68A P) .nil .nil) (.node (o100C P) .nil .nil)) (.node (o52A P) (.node (o84A P) .nil .nil) .nil)) (.node (o28A P) (.node (o44A P) (.node (o76A P) .nil .nil) .nil) (.node (o60A P) (.node (o92B P) .nil .nil) .nil)))) (.node (boot_o_6 P) (.node (boot_o_10 P) (.node (o18A P) (.node (o34A P) (.node (o66A P) .nil .nil) (.node (o98C P) .nil .nil)) (.node (o50A P) (.node (o82A P) .nil .nil) .nil)) (.node (o26A P) (.node (o42A P) (.node (o74A P) .nil .nil) .nil) (.node (o58A P) (.node (o90B P) .nil .nil) .nil))) (.node (o14a P) (.node (o22A P) (.node (o38A P) (.node (o70A P) .nil .nil) (.node (o102C P) .nil .nil)) (.node (o54A P) (.node (o86B P) .nil .nil) .nil)) (.node (o30A P) (.node (o46A P) (.node (o78A P) .nil .nil) .nil) (.node (o62A P) (.node (o94B P) .nil .nil) .nil))))))
noncomputable def o103D1 (P : Params) : Obj := dictO (b3es.take 102) 102
noncomputable def treeD1 (P : Params) : BT := (.node (boot_o_0 P) (.node (boot_o_1 P) (.node (o3C P) (.node (boot_o_7 P) (.node (o15A P) (.node (o31A P) (.node (o63A P) .nil .nil) (.node (o95B P) .nil .nil)) (.node (o47A P) (.node (o79A P) .nil .nil) .nil)) (.node (o23A P) (.node (o39A P) (.node (o71A P) .nil .nil) (.node (o103D1 P) .nil .nil)) (.node (o55A P) (.node (o87B P) .nil .nil) .nil))) (.node (o11a P) (.node (o19A P) (.node (o35A P) (.node (o67A P) .nil .nil) (.node (o99C P) .nil .nil)) (.node (o51A P) (.node (o83A P) .nil .nil) .nil)) (.node (o27A P) (.node (o43A P) (.node (o75A P) .nil .nil) (.node (o107D P) .nil .nil)) (.node (o59A P) (.node (o91B P) .nil .nil) .nil)))) (.node (boot_o_5 P) (.node (boot_o_9 P) (.node (o17A P) (.node (o33A P) (.node (o65A P) .nil .nil) (.node (o97C P) .nil .nil)) (.node (o49A P) (.node (o81A P) .nil .nil) .nil)) (.node (o25A P) (.node (o41A P) (.node (o73A P) .nil .nil) (.node (o105D P) .nil .nil)) (.node (o57A P) (.node (o89B P) .nil .nil) .nil))) (.node (o13a P) (.node (o21A P) (.node (o37A P) (.node (o69A P) .nil .nil) (.node (o101C P) .nil .nil)) (.node (o53A P) (.node (o85B P) .nil .nil) .nil)) (.node (o29A P) (.node (o45A P) (.node (o77A P) .nil .nil) .nil) (.node (o61A P) (.node (o93B P) .nil .nil) .nil))))) (.node (boot_o_2 P) (.node (boot_o_4 P) (.node (boot_o_8 P) (.node (o16A P) (.node (o32A P) (.node (o64A P) .nil .nil) (.node (o96C P) .nil .nil)) (.node (o48A P) (.node (o80A P) .nil .nil) .nil)) (.node (o24A P) (.node (o40A P) (.node (o72A P) .nil .nil) (.node (o104D P) .nil .nil)) (.node (o56A P) (.node (o88B P) .nil .nil) .nil))) (.node (o12C P) (.node (o20A P) (.node (o36A P) (.node (o68A P) .nil .nil) (.node (o100C P) .nil .nil)) (.node (o52A P) (.node (o84A P) .nil .nil) .nil)) (.node (o28A P) (.node (o44A P) (.node (o76A P) .nil .nil) (.node (o108D P) .nil .nil)) (.node (o60A P) (.node (o92B P) .nil .nil) .nil)))) (.node (boot_o_6 P) (.node (boot_o_10 P) (.node (o18A P) (.node (o34A P) (.node (o66A P) .nil .nil) (.node (o98C P) .nil .nil)) (.node (o50A P) (.node (o82A P) .nil .nil) .nil)) (.node (o26A P) (.node (o42A P) (.node (o74A P) .nil .nil) (.node (o106D P) .nil .nil)) (.node (o58A P) (.node (o90B P) .nil .nil) .nil))) (.node (o14a P) (.node (o22A P) (.node (o38A P) (.node (o70A P) .nil .nil) (.node (o102C P) .nil .nil)) (.node (o54A P) (.node (o86B P) .nil .nil) .nil)) (.node (o30A P) (.node (o46A P) (.node (o78A P) .nil .nil) .nil) (.node (o62A P) (.node (o94B P) .nil .nil) .nil))))))
noncomputable def o103D2 (P : Params) : Obj := dictO (b3es.take 153) 153
noncomputable def treeD2 (P : Params) : BT := (.node (boot_o_0 P) (.node (boot_o_1 P) (.node (o3C P) (.node (boot_o_7 P) (.node (o15A P) (.node (o31A P) (.node (o63A P) .nil .nil) (.node (o95B P) .nil .nil)) (.node (o47A P) (.node (o79A P) .nil .nil) (.node (o111D P) .nil .nil))) (.node (o23A P) (.node (o39A P) (.node (o71A P) .nil .nil) (.node (o103D2 P) .nil .nil)) (.node (o55A P) (.node (o87B P) .nil .nil) .nil))) (.node (o11a P) (.node (o19A P) (.node (o35A P) (.node (o67A P) .nil .nil) (.node (o99C P) .nil .nil)) (.node (o51A P) (.node (o83A P) .nil .nil) .nil)) (.node (o27A P) (.node (o43A P) (.node (o75A P) .nil .nil) (.node (o107D P) .nil .nil)) (.node (o59A P) (.node (o91B P) .nil .nil) .nil)))) (.node (boot_o_5 P) (.node (boot_o_9 P) (.node (o17A P) (.node (o33A P) (.node (o65A P) .nil .nil) (.node (o97C P) .nil .nil)) (.node (o49A P) (.node (o81A P) .nil .nil) .nil)) (.node (o25A P) (.node (o41A P) (.node (o73A P) .nil .nil) (.node (o105D P) .nil .nil)) (.node (o57A P) (.node (o89B P) .nil .nil) .nil))) (.node (o13a P) (.node (o21A P) (.node (o37A P) (.node (o69A P) .nil .nil) (.node (o101C P) .nil .nil)) (.node (o53A P) (.node (o85B P) .nil .nil) .nil)) (.node (o29A P) (.node (o45A P) (.node (o77A P) .nil .nil) (.node (o109D P) .nil .nil)) (.node (o61A P) (.node (o93B P) .nil .nil) .nil))))) (.node (boot_o_2 P) (.node (boot_o_4 P) (.node (boot_o_8 P) (.node (o16A P) (.node (o32A P) (.node (o64A P) .nil .nil) (.node (o96C P) .nil .nil)) (.node (o48A P) (.node (o80A P) .nil .nil) .nil)) (.node (o24A P) (.node (o40A P) (.node (o72A P) .nil .nil) (.node (o104D P) .nil .nil)) (.node (o56A P) (.node (o88B P) .nil .nil) .nil))) (.node (o12C P) (.node (o20A P) (.node (o36A P) (.node (o68A P) .nil .nil) (.node (o100C P) .nil .nil)) (.node (o52A P) (.node (o84A P) .nil .nil) .nil)) (.node (o28A P) (.node (o44A P) (.node (o76A P) .nil .nil) (.node (o108D P) .nil .nil)) (.node (o60A P) (.node (o92B P) .nil .nil) .nil)))) (.node (boot_o_6 P) (.node (boot_o_10 P) (.node (o18A P) (.node (o34A P) (.node (o66A P) .nil .nil) (.node (o98C P) .nil .nil)) (.node (o50A P) (.node (o82A P) .nil .nil) .nil)) (.node (o26A P) (.node (o42A P) (.node (o74A P) .nil .nil) (.node (o106D P) .nil .nil)) (.node (o58A P) (.node (o90B P) .nil .nil) .nil))) (.node (o14a P) (.node (o22A P) (.node (o38A P) (.node (o70A P) .nil .nil) (.node (o102C P) .nil .nil)) (.node (o54A P) (.node (o86B P) .nil .nil) .nil)) (.node (o30A P) (.node (o46A P) (.node (o78A P) .nil .nil) (.node (o110D P) .nil .nil)) (.node (o62A P) (.node (o94B P) .nil .nil) .nil))))))
noncomputable def o103D3 (P : Params) : Obj := dictO (b3es.take 204) 204
noncomputable def treeD3 (P : Params) : BT := (.node (boot_o_0 P) (.node (boot_o_1 P) (.node (o3C P) (.node (boot_o_7 P) (.node (o15A P) (.node (o31A P) (.node (o63A P) .nil .nil) (.node (o95B P) .nil .nil)) (.node (o47A P) (.node (o79A P) .nil .nil) (.node (o111D P) .nil .nil))) (.node (o23A P) (.node (o39A P) (.node (o71A P) .nil .nil) (.node (o103D3 P) .nil .nil)) (.node (o55A P) (.node (o87B P) .nil .nil) .nil))) (.node (o11a P) (.node (o19A P) (.node (o35A P) (.node (o67A P) .nil .nil) (.node (o99C P) .nil .nil)) (.node (o51A P) (.node (o83A P) .nil .nil) .nil)) (.node (o27A P) (.node (o43A P) (.node (o75A P) .nil .nil) (.node (o107D P) .nil .nil)) (.node (o59A P) (.node (o91B P) .nil .nil) .nil)))) (.node (boot_o_5 P) (.node (boot_o_9 P) (.node (o17A P) (.node (o33A P) (.node (o65A P) .nil .nil) (.node (o97C P) .nil .nil)) (.node (o49A P) (.node (o81A P) .nil .nil) (.node (o113D P) .nil .nil))) (.node (o25A P) (.node (o41A P) (.node (o73A P) .nil .nil) (.node (o105D P) .nil .nil)) (.node (o57A P) (.node (o89B P) .nil .nil) .nil))) (.node (o13a P) (.node (o21A P) (.node (o37A P) (.node (o69A P) .nil .nil) (.node (o101C P) .nil .nil)) (.node (o53A P) (.node (o85B P) .nil .nil) .nil)) (.node (o29A P) (.node (o45A P) (.node (o77A P) .nil .nil) (.node (o109D P) .nil .nil)) (.node (o61A P) (.node (o93B P) .nil .nil) .nil))))) (.node (boot_o_2 P) (.node (boot_o_4 P) (.node (boot_o_8 P) (.node (o16A P) (.node (o32A P) (.node (o64A P) .nil .nil) (.node (o96C P) .nil .nil)) (.node (o48A P) (.node (o80A P) .nil .nil) (.node (o112D P) .nil .nil))) (.node (o24A P) (.node (o40A P) (.node (o72A P) .nil .nil) (.node (o104D P) .nil .nil)) (.node (o56A P) (.node (o88B P) .nil .nil) .nil))) (.node (o12C P) (.node (o20A P) (.node (o36A P) (.node (o68A P) .nil .nil) (.node (o100C P) .nil .nil)) (.node (o52A P) (.node (o84A P) .nil .nil) .nil)) (.node (o28A P) (.node (o44A P) (.node (o76A P) .nil .nil) (.node (o108D P) .nil .nil)) (.node (o60A P) (.node (o92B P) .nil .nil) .nil)))) (.node (boot_o_6 P) (.node (boot_o_10 P) (.node (o18A P) (.node (o34A P) (.node (o66A P) .nil .nil) (.node (o98C P) .nil .nil)) (.node (o50A P) (.node (o82A P) .nil .nil) (.node (o114D P) .nil .nil))) (.node (o26A P) (.node (o42A P) (.node (o74A P) .nil .nil) (.node (o106D P) .nil .nil)) (.node (o58A P) (.node (o90B P) .nil .nil) .nil))) (.node (o14a P) (.node (o22A P) (.node (o38A P) (.node (o70A P) .nil .nil) (.node (o102C P) .nil .nil)) (.node (o54A P) (.node (o86B P) .nil .nil) .nil)) (.node (o30A P) (.node (o46A P) (.node (o78A P) .nil .nil) (.node (o110D P) .nil .nil)) (.node (o62A P) (.node (o94B P) .nil .nil) .nil))))))
noncomputable def o103D4 (P : Params) : Obj := dictO (b3es.take 255) 255
noncomputable def treeD4 (P : Params) : BT := (.node (boot_o_0 P) (.node (boot_o_1 P) (.node (o3C P) (.node (boot_o_7 P) (.node (o15A P) (.node (o31A P) (.node (o63A P) .nil .nil) (.node (o95B P) .nil .nil)) (.node (o47A P) (.node (o79A P) .nil .nil) (.node (o111D P) .nil .nil))) (.node (o23A P) (.node (o39A P) (.node (o71A P) .nil .nil) (.node (o103D4 P) .nil .nil)) (.node (o55A P) (.node (o87B P) .nil .nil) .nil))) (.node (o11a P) (.node (o19A P) (.node (o35A P) (.node (o67A P) .nil .nil) (.node (o99C P) .nil .nil)) (.node (o51A P) (.node (o83A P) .nil .nil) (.node (o115D P) .nil .nil))) (.node (o27A P) (.node (o43A P) (.node (o75A P) .nil .nil) (.node (o107D P) .nil .nil)) (.node (o59A P) (.node (o91B P) .nil .nil) .nil)))) (.node (boot_o_5 P) (.node (boot_o_9 P) (.node (o17A P) (.node (o33A P) (.node (o65A P) .nil .nil) (.node (o97C P) .nil .nil)) (.node (o49A P) (.node (o81A P) .nil .nil) (.node (o113D P) .nil .nil))) (.node (o25A P) (.node (o41A P) (.node (o73A P) .nil .nil) (.node (o105D P) .nil .nil)) (.node (o57A P) (.node (o89B P) .nil .nil) .nil))) (.node (o13a P) (.node (o21A P) (.node (o37A P) (.node (o69A P) .nil .nil) (.node (o101C P) .nil .nil)) (.node (o53A P) (.node (o85B P) .nil .nil) (.node (o117D P) .nil .nil))) (.node (o29A P) (.node (o45A P) (.node (o77A P) .nil .nil) (.node (o109D P) .nil .nil)) (.node (o61A P) (.node (o93B P) .nil .nil) .nil))))) (.node (boot_o_2 P) (.node (boot_o_4 P) (.node (boot_o_8 P) (.node (o16A P) (.node (o32A P) (.node (o64A P) .nil .nil) (.node (o96C P) .nil .nil)) (.node (o48A P) (.node (o80A P) .nil .nil) (.node (o112D P) .nil .nil))) (.node (o24A P) (.node (o40A P) (.node (o72A P) .nil .nil) (.node (o104D P) .nil .nil)) (.node (o56A P) (.node (o88B P) .nil .nil) .nil))) (.node (o12C P) (.node (o20A P) (.node (o36A P) (.node (o68A P) .nil .nil) (.node (o100C P) .nil .nil)) (.node (o52A P) (.node (o84A P) .nil .nil) (.node (o116D P) .nil .nil))) (.node (o28A P) (.node (o44A P) (.node (o76A P) .nil .nil) (.node (o108D P) .nil .nil)) (.node (o60A P) (.node (o92B P) .nil .nil) .nil)))) (.node (boot_o_6 P) (.node (boot_o_10 P) (.node (o18A P) (.node (o34A P) (.node (o66A P) .nil .nil) (.node (o98C P) .nil .nil)) (.node (o50A P) (.node (o82A P) .nil .nil) (.node (o114D P) .nil .nil))) (.node (o26A P) (.node (o42A P) (.node (o74A P) .nil .nil) (.node (o106D P) .nil .nil)) (.node (o58A P) (.node (o90B P) .nil .nil) .nil))) (.node (o14a P) (.node (o22A P) (.node (o38A P) (.node (o70A P) .nil .nil) (.node (o102C P) .nil .nil)) (.node (o54A P) (.node (o86B P) .nil .nil) .nil)) (.node (o30A P) (.node (o46A P) (.node (o78A P) .nil .nil) (.node (o110D P) .nil .nil)) (.node (o62A P) (.node (o94B P) .nil .nil) .nil))))))
noncomputable def o103D5 (P : Params) : Obj := dictO (b3es.take 306) 306
noncomputable def treeD5 (P : Params) : BT := (.node (boot_o_0 P) (.node (boot_o_1 P) (.node (o3C P) (.node (boot_o_7 P) (.node (o15A P) (.node (o31A P) (.node (o63A P) .nil .nil) (.node (o95B P) .nil .nil)) (.node (o47A P) (.node (o79A P) .nil .nil) (.node (o111D P) .nil .nil))) (.node (o23A P) (.node (o39A P) (.node (o71A P) .nil .nil) (.node (o103D5 P) .nil .nil)) (.node (o55A P) (.node (o87B P) .nil .nil) (.node (o119D P) .nil .nil)))) (.node (o11a P) (.node (o19A P) (.node (o35A P) (.node (o67A P) .nil .nil) (.node (o99C P) .nil .nil)) (.node (o51A P) (.node (o83A P) .nil .nil) (.node (o115D P) .nil .nil))) (.node (o27A P) (.node (o43A P) (.node (o75A P) .nil .nil) (.node (o107D P) .nil .nil)) (.node (o59A P) (.node (o91B P) .nil .nil) .nil)))) (.node (boot_o_5 P) (.node (boot_o_9 P) (.node (o17A P) (.node (o33A P) (.node (o65A P) .nil .nil) (.node (o97C P) .nil .nil)) (.node (o49A P) (.node (o81A P) .nil .nil) (.node (o113D P) .nil .nil))) (.node (o25A P) (.node (o41A P) (.node (o73A P) .nil .nil) (.node (o105D P) .nil .nil)) (.node (o57A P) (.node (o89B P) .nil .nil) .nil))) (.node (o13a P) (.node (o21A P) (.node (o37A P) (.node (o69A P) .nil .nil) (.node (o101C P) .nil .nil)) (.node (o53A P) (.node (o85B P) .nil .nil) (.node (o117D P) .nil .nil))) (.node (o29A P) (.node (o45A P) (.node (o77A P) .nil .nil) (.node (o109D P) .nil .nil)) (.node (o61A P) (.node (o93B P) .nil .nil) .nil))))) (.node (boot_o_2 P) (.node (boot_o_4 P) (.node (boot_o_8 P) (.node (o16A P) (.node (o32A P) (.node (o64A P) .nil .nil) (.node (o96C P) .nil .nil)) (.node (o48A P) (.node (o80A P) .nil .nil) (.node (o112D P) .nil .nil))) (.node (o24A P) (.node (o40A P) (.node (o72A P) .nil .nil) (.node (o104D P) .nil .nil)) (.node (o56A P) (.node (o88B P) .nil .nil) (.node (o120D P) .nil .nil)))) (.node (o12C P) (.node (o20A P) (.node (o36A P) (.node (o68A P) .nil .nil) (.node (o100C P) .nil .nil)) (.node (o52A P) (.node (o84A P) .nil .nil) (.node (o116D P) .nil .nil))) (.node (o28A P) (.node (o44A P) (.node (o76A P) .nil .nil) (.node (o108D P) .nil .nil)) (.node (o60A P) (.node (o92B P) .nil .nil) .nil)))) (.node (boot_o_6 P) (.node (boot_o_10 P) (.node (o18A P) (.node (o34A P) (.node (o66A P) .nil .nil) (.node (o98C P) .nil .nil)) (.node (o50A P) (.node (o82A P) .nil .nil) (.node (o114D P) .nil .nil))) (.node (o26A P) (.node (o42A P) (.node (o74A P) .nil .nil) (.node (o106D P) .nil .nil)) (.node (o58A P) (.node (o90B P) .nil .nil) .nil))) (.node (o14a P) (.node (o22A P) (.node (o38A P) (.node (o70A P) .nil .nil) (.node (o102C P) .nil .nil)) (.node (o54A P) (.node (o86B P) .nil .nil) (.node (o118D P) .nil .nil))) (.node (o30A P) (.node (o46A P) (.node (o78A P) .nil .nil) (.node (o110D P) .nil .nil)) (.node (o62A P) (.node (o94B P) .nil .nil) .nil))))))
noncomputable def o103D6 (P : Params) : Obj := dictO (b3es.take 357) 357
noncomputable def treeD6 (P : Params) : BT := (.node (boot_o_0 P) (.node (boot_o_1 P) (.node (o3C P) (.node (boot_o_7 P) (.node (o15A P) (.node (o31A P) (.node (o63A P) .nil .nil) (.node (o95B P) .nil .nil)) (.node (o47A P) (.node (o79A P) .nil .nil) (.node (o111D P) .nil .nil))) (.node (o23A P) (.node (o39A P) (.node (o71A P) .nil .nil) (.node (o103D6 P) .nil .nil)) (.node (o55A P) (.node (o87B P) .nil .nil) (.node (o119D P) .nil .nil)))) (.node (o11a P) (.node (o19A P) (.node (o35A P) (.node (o67A P) .nil .nil) (.node (o99C P) .nil .nil)) (.node (o51A P) (.node (o83A P) .nil .nil) (.node (o115D P) .nil .nil))) (.node (o27A P) (.node (o43A P) (.node (o75A P) .nil .nil) (.node (o107D P) .nil .nil)) (.node (o59A P) (.node (o91B P) .nil .nil) (.node (o123D P) .nil .nil))))) (.node (boot_o_5 P) (.node (boot_o_9 P) (.node (o17A P) (.node (o33A P) (.node (o65A P) .nil .nil) (.node (o97C P) .nil .nil)) (.node (o49A P) (.node (o81A P) .nil .nil) (.node (o113D P) .nil .nil))) (.node (o25A P) (.node (o41A P) (.node (o73A P) .nil .nil) (.node (o105D P) .nil .nil)) (.node (o57A P) (.node (o89B P) .nil .nil) (.node (o121D P) .nil .nil)))) (.node (o13a P) (.node (o21A P) (.node (o37A P) (.node (o69A P) .nil .nil) (.node (o101C P) .nil .nil)) (.node (o53A P) (.node (o85B P) .nil .nil) (.node (o117D P) .nil .nil))) (.node (o29A P) (.node (o45A P) (.node (o77A P) .nil .nil) (.node (o109D P) .nil .nil)) (.node (o61A P) (.node (o93B P) .nil .nil) .nil))))) (.node (boot_o_2 P) (.node (boot_o_4 P) (.node (boot_o_8 P) (.node (o16A P) (.node (o32A P) (.node (o64A P) .nil .nil) (.node (o96C P) .nil .nil)) (.node (o48A P) (.node (o80A P) .nil .nil) (.node (o112D P) .nil .nil))) (.node (o24A P) (.node (o40A P) (.node (o72A P) .nil .nil) (.node (o104D P) .nil .nil)) (.node (o56A P) (.node (o88B P) .nil .nil) (.node (o120D P) .nil .nil)))) (.node (o12C P) (.node (o20A P) (.node (o36A P) (.node (o68A P) .nil .nil) (.node (o100C P) .nil .nil)) (.node (o52A P) (.node (o84A P) .nil .nil) (.node (o116D P) .nil .nil))) (.node (o28A P) (.node (o44A P) (.node (o76A P) .nil .nil) (.node (o108D P) .nil .nil)) (.node (o60A P) (.node (o92B P) .nil .nil) .nil)))) (.node (boot_o_6 P) (.node (boot_o_10 P) (.node (o18A P) (.node (o34A P) (.node (o66A P) .nil .nil) (.node (o98C P) .nil .nil)) (.node (o50A P) (.node (o82A P) .nil .nil) (.node (o114D P) .nil .nil))) (.node (o26A P) (.node (o42A P) (.node (o74A P) .nil .nil) (.node (o106D P) .nil .nil)) (.node (o58A P) (.node (o90B P) .nil .nil) (.node (o122D P) .nil .nil)))) (.node (o14a P) (.node (o22A P) (.node (o38A P) (.node (o70A P) .nil .nil) (.node (o102C P) .nil .nil)) (.node (o54A P) (.node (o86B P) .nil .nil) (.node (o118D P) .nil .nil))) (.node (o30A P) (.node (o46A P) (.node (o78A P) .nil .nil) (.node (o110D P) .nil .nil)) (.node (o62A P) (.node (o94B P) .nil .nil) .nil))))))
noncomputable def o103D7 (P : Params) : Obj := dictO (b3es.take 408) 408
noncomputable def treeD7 (P : Params) : BT := (.node (boot_o_0 P) (.node (boot_o_1 P) (.node (o3C P) (.node (boot_o_7 P) (.node (o15A P) (.node (o31A P) (.node (o63A P) .nil .nil) (.node (o95B P) .nil .nil)) (.node (o47A P) (.node (o79A P) .nil .nil) (.node (o111D P) .nil .nil))) (.node (o23A P) (.node (o39A P) (.node (o71A P) .nil .nil) (.node (o103D7 P) .nil .nil)) (.node (o55A P) (.node (o87B P) .nil .nil) (.node (o119D P) .nil .nil)))) (.node (o11a P) (.node (o19A P) (.node (o35A P) (.node (o67A P) .nil .nil) (.node (o99C P) .nil .nil)) (.node (o51A P) (.node (o83A P) .nil .nil) (.node (o115D P) .nil .nil))) (.node (o27A P) (.node (o43A P) (.node (o75A P) .nil .nil) (.node (o107D P) .nil .nil)) (.node (o59A P) (.node (o91B P) .nil .nil) (.node (o123D P) .nil .nil))))) (.node (boot_o_5 P) (.node (boot_o_9 P) (.node (o17A P) (.node (o33A P) (.node (o65A P) .nil .nil) (.node (o97C P) .nil .nil)) (.node (o49A P) (.node (o81A P) .nil .nil) (.node (o113D P) .nil .nil))) (.node (o25A P) (.node (o41A P) (.node (o73A P) .nil .nil) (.node (o105D P) .nil .nil)) (.node (o57A P) (.node (o89B P) .nil .nil) (.node (o121D P) .nil .nil)))) (.node (o13a P) (.node (o21A P) (.node (o37A P) (.node (o69A P) .nil .nil) (.node (o101C P) .nil .nil)) (.node (o53A P) (.node (o85B P) .nil .nil) (.node (o117D P) .nil .nil))) (.node (o29A P) (.node (o45A P) (.node (o77A P) .nil .nil) (.node (o109D P) .nil .nil)) (.node (o61A P) (.node (o93B P) .nil .nil) (.node (o125D P) .nil .nil)))))) (.node (boot_o_2 P) (.node (boot_o_4 P) (.node (boot_o_8 P) (.node (o16A P) (.node (o32A P) (.node (o64A P) .nil .nil) (.node (o96C P) .nil .nil)) (.node (o48A P) (.node (o80A P) .nil .nil) (.node (o112D P) .nil .nil))) (.node (o24A P) (.node (o40A P) (.node (o72A P) .nil .nil) (.node (o104D P) .nil .nil)) (.node (o56A P) (.node (o88B P) .nil .nil) (.node (o120D P) .nil .nil)))) (.node (o12C P) (.node (o20A P) (.node (o36A P) (.node (o68A P) .nil .nil) (.node (o100C P) .nil .nil)) (.node (o52A P) (.node (o84A P) .nil .nil) (.node (o116D P) .nil .nil))) (.node (o28A P) (.node (o44A P) (.node (o76A P) .nil .nil) (.node (o108D P) .nil .nil)) (.node (o60A P) (.node (o92B P) .nil .nil) (.node (o124D P) .nil .nil))))) (.node (boot_o_6 P) (.node (boot_o_10 P) (.node (o18A P) (.node (o34A P) (.node (o66A P) .nil .nil) (.node (o98C P) .nil .nil)) (.node (o50A P) (.node (o82A P) .nil .nil) (.node (o114D P) .nil .nil))) (.node (o26A P) (.node (o42A P) (.node (o74A P) .nil .nil) (.node (o106D P) .nil .nil)) (.node (o58A P) (.node (o90B P) .nil .nil) (.node (o122D P) .nil .nil)))) (.node (o14a P) (.node (o22A P) (.node (o38A P) (.node (o70A P) .nil .nil) (.node (o102C P) .nil .nil)) (.node (o54A P) (.node (o86B P) .nil .nil) (.node (o118D P) .nil .nil))) (.node (o30A P) (.node (o46A P) (.node (o78A P) .nil .nil) (.node (o110D P) .nil .nil)) (.node (o62A P) (.node (o94B P) .nil .nil) (.node (o126D P) .nil .nil)))))))
noncomputable def o103D8 (P : Params) : Obj := dictO (b3es.take 459) 459
noncomputable def treeD8 (P : Params) : BT := (.node (boot_o_0 P) (.node (boot_o_1 P) (.node (o3C P) (.node (boot_o_7 P) (.node (o15A P) (.node (o31A P) (.node (o63A P) (.node (o127D P) .nil .nil) .nil) (.node (o95B P) .nil .nil)) (.node (o47A P) (.node (o79A P) .nil .nil) (.node (o111D P) .nil .nil))) (.node (o23A P) (.node (o39A P) (.node (o71A P) .nil .nil) (.node (o103D8 P) .nil .nil)) (.node (o55A P) (.node (o87B P) .nil .nil) (.node (o119D P) .nil .nil)))) (.node (o11a P) (.node (o19A P) (.node (o35A P) (.node (o67A P) .nil .nil) (.node (o99C P) .nil .nil)) (.node (o51A P) (.node (o83A P) .nil .nil) (.node (o115D P) .nil .nil))) (.node (o27A P) (.node (o43A P) (.node (o75A P) .nil .nil) (.node (o107D P) .nil .nil)) (.node (o59A P) (.node (o91B P) .nil .nil) (.node (o123D P) .nil .nil))))) (.node (boot_o_5 P) (.node (boot_o_9 P) (.node (o17A P) (.node (o33A P) (.node (o65A P) (.node (o129D P) .nil .nil) .nil) (.node (o97C P) .nil .nil)) (.node (o49A P) (.node (o81A P) .nil .nil) (.node (o113D P) .nil .nil))) (.node (o25A P) (.node (o41A P) (.node (o73A P) .nil .nil) (.node (o105D P) .nil .nil)) (.node (o57A P) (.node (o89B P) .nil .nil) (.node (o121D P) .nil .nil)))) (.node (o13a P) (.node (o21A P) (.node (o37A P) (.node (o69A P) .nil .nil) (.node (o101C P) .nil .nil)) (.node (o53A P) (.node (o85B P) .nil .nil) (.node (o117D P) .nil .nil))) (.node (o29A P) (.node (o45A P) (.node (o77A P) .nil .nil) (.node (o109D P) .nil .nil)) (.node (o61A P) (.node (o93B P) .nil .nil) (.node (o125D P) .nil .nil)))))) (.node (boot_o_2 P) (.node (boot_o_4 P) (.node (boot_o_8 P) (.node (o16A P) (.node (o32A P) (.node (o64A P) (.node (o128D P) .nil .nil) .nil) (.node (o96C P) .nil .nil)) (.node (o48A P) (.node (o80A P) .nil .nil) (.node (o112D P) .nil .nil))) (.node (o24A P) (.node (o40A P) (.node (o72A P) .nil .nil) (.node (o104D P) .nil .nil)) (.node (o56A P) (.node (o88B P) .nil .nil) (.node (o120D P) .nil .nil)))) (.node (o12C P) (.node (o20A P) (.node (o36A P) (.node (o68A P) .nil .nil) (.node (o100C P) .nil .nil)) (.node (o52A P) (.node (o84A P) .nil .nil) (.node (o116D P) .nil .nil))) (.node (o28A P) (.node (o44A P) (.node (o76A P) .nil .nil) (.node (o108D P) .nil .nil)) (.node (o60A P) (.node (o92B P) .nil .nil) (.node (o124D P) .nil .nil))))) (.node (boot_o_6 P) (.node (boot_o_10 P) (.node (o18A P) (.node (o34A P) (.node (o66A P) .nil .nil) (.node (o98C P) .nil .nil)) (.node (o50A P) (.node (o82A P) .nil .nil) (.node (o114D P) .nil .nil))) (.node (o26A P) (.node (o42A P) (.node (o74A P) .nil .nil) (.node (o106D P) .nil .nil)) (.node (o58A P) (.node (o90B P) .nil .nil) (.node (o122D P) .nil .nil)))) (.node (o14a P) (.node (o22A P) (.node (o38A P) (.node (o70A P) .nil .nil) (.node (o102C P) .nil .nil)) (.node (o54A P) (.node (o86B P) .nil .nil) (.node (o118D P) .nil .nil))) (.node (o30A P) (.node (o46A P) (.node (o78A P) .nil .nil) (.node (o110D P) .nil .nil)) (.node (o62A P) (.node (o94B P) .nil .nil) (.node (o126D P) .nil .nil)))))))
noncomputable def o103D9 (P : Params) : Obj := dictO (b3es.take 510) 510
noncomputable def treeD9 (P : Params) : BT := (.node (boot_o_0 P) (.node (boot_o_1 P) (.node (o3C P) (.node (boot_o_7 P) (.node (o15A P) (.node (o31A P) (.node (o63A P) (.node (o127D P) .nil .nil) .nil) (.node (o95B P) .nil .nil)) (.node (o47A P) (.node (o79A P) .nil .nil) (.node (o111D P) .nil .nil))) (.node (o23A P) (.node (o39A P) (.node (o71A P) .nil .nil) (.node (o103D9 P) .nil .nil)) (.node (o55A P) (.node (o87B P) .nil .nil) (.node (o119D P) .nil .nil)))) (.node (o11a P) (.node (o19A P) (.node (o35A P) (.node (o67A P) (.node (o131D P) .nil .nil) .nil) (.node (o99C P) .nil .nil)) (.node (o51A P) (.node (o83A P) .nil .nil) (.node (o115D P) .nil .nil))) (.node (o27A P) (.node (o43A P) (.node (o75A P) .nil .nil) (.node (o107D P) .nil .nil)) (.node (o59A P) (.node (o91B P) .nil .nil) (.node (o123D P) .nil .nil))))) (.node (boot_o_5 P) (.node (boot_o_9 P) (.node (o17A P) (.node (o33A P) (.node (o65A P) (.node (o129D P) .nil .nil) .nil) (.node (o97C P) .nil .nil)) (.node (o49A P) (.node (o81A P) .nil .nil) (.node (o113D P) .nil .nil))) (.node (o25A P) (.node (o41A P) (.node (o73A P) .nil .nil) (.node (o105D P) .nil .nil)) (.node (o57A P) (.node (o89B P) .nil .nil) (.node (o121D P) .nil .nil)))) (.node (o13a P) (.node (o21A P) (.node (o37A P) (.node (o69A P) .nil .nil) (.node (o101C P) .nil .nil)) (.node (o53A P) (.node (o85B P) .nil .nil) (.node (o117D P) .nil .nil))) (.node (o29A P) (.node (o45A P) (.node (o77A P) .nil .nil) (.node (o109D P) .nil .nil)) (.node (o61A P) (.node (o93B P) .nil .nil) (.node (o125D P) .nil .nil)))))) (.node (boot_o_2 P) (.node (boot_o_4 P) (.node (boot_o_8 P) (.node (o16A P) (.node (o32A P) (.node (o64A P) (.node (o128D P) .nil .nil) .nil) (.node (o96C P) .nil .nil)) (.node (o48A P) (.node (o80A P) .nil .nil) (.node (o112D P) .nil .nil))) (.node (o24A P) (.node (o40A P) (.node (o72A P) .nil .nil) (.node (o104D P) .nil .nil)) (.node (o56A P) (.node (o88B P) .nil .nil) (.node (o120D P) .nil .nil)))) (.node (o12C P) (.node (o20A P) (.node (o36A P) (.node (o68A P) (.node (o132D P) .nil .nil) .nil) (.node (o100C P) .nil .nil)) (.node (o52A P) (.node (o84A P) .nil .nil) (.node (o116D P) .nil .nil))) (.node (o28A P) (.node (o44A P) (.node (o76A P) .nil .nil) (.node (o108D P) .nil .nil)) (.node (o60A P) (.node (o92B P) .nil .nil) (.node (o124D P) .nil .nil))))) (.node (boot_o_6 P) (.node (boot_o_10 P) (.node (o18A P) (.node (o34A P) (.node (o66A P) (.node (o130D P) .nil .nil) .nil) (.node (o98C P) .nil .nil)) (.node (o50A P) (.node (o82A P) .nil .nil) (.node (o114D P) .nil .nil))) (.node (o26A P) (.node (o42A P) (.node (o74A P) .nil .nil) (.node (o106D P) .nil .nil)) (.node (o58A P) (.node (o90B P) .nil .nil) (.node (o122D P) .nil .nil)))) (.node (o14a P) (.node (o22A P) (.node (o38A P) (.node (o70A P) .nil .nil) (.node (o102C P) .nil .nil)) (.node (o54A P) (.node (o86B P) .nil .nil) (.node (o118D P) .nil .nil))) (.node (o30A P) (.node (o46A P) (.node (o78A P) .nil .nil) (.node (o110D P) .nil .nil)) (.node (o62A P) (.node (o94B P) .nil .nil) (.node (o126D P) .nil .nil)))))))
noncomputable def o103D10 (P : Params) : Obj := dictO (b3es.take 561) 561
noncomputable def treeD10 (P : Params) : BT := (.node (boot_o_0 P) (.node (boot_o_1 P) (.node (o3C P) (.node (boot_o_7 P) (.node (o15A P) (.node (o31A P) (.node (o63A P) (.node (o127D P) .nil .nil) .nil) (.node (o95B P) .nil .nil)) (.node (o47A P) (.node (o79A P) .nil .nil) (.node (o111D P) .nil .nil))) (.node (o23A P) (.node (o39A P) (.node (o71A P) (.node (o135D P) .nil .nil) .nil) (.node (o103D10 P) .nil .nil)) (.node (o55A P) (.node (o87B P) .nil .nil) (.node (o119D P) .nil .nil)))) (.node (o11a P) (.node (o19A P) (.node (o35A P) (.node (o67A P) (.node (o131D P) .nil .nil) .nil) (.node (o99C P) .nil .nil)) (.node (o51A P) (.node (o83A P) .nil .nil) (.node (o115D P) .nil .nil))) (.node (o27A P) (.node (o43A P) (.node (o75A P) .nil .nil) (.node (o107D P) .nil .nil)) (.node (o59A P) (.node (o91B P) .nil .nil) (.node (o123D P) .nil .nil))))) (.node (boot_o_5 P) (.node (boot_o_9 P) (.node (o17A P) (.node (o33A P) (.node (o65A P) (.node (o129D P) .nil .nil) .nil) (.node (o97C P) .nil .nil)) (.node (o49A P) (.node (o81A P) .nil .nil) (.node (o113D P) .nil .nil))) (.node (o25A P) (.node (o41A P) (.node (o73A P) .nil .nil) (.node (o105D P) .nil .nil)) (.node (o57A P) (.node (o89B P) .nil .nil) (.node (o121D P) .nil .nil)))) (.node (o13a P) (.node (o21A P) (.node (o37A P) (.node (o69A P) (.node (o133D P) .nil .nil) .nil) (.node (o101C P) .nil .nil)) (.node (o53A P) (.node (o85B P) .nil .nil) (.node (o117D P) .nil .nil))) (.node (o29A P) (.node (o45A P) (.node (o77A P) .nil .nil) (.node (o109D P) .nil .nil)) (.node (o61A P) (.node (o93B P) .nil .nil) (.node (o125D P) .nil .nil)))))) (.node (boot_o_2 P) (.node (boot_o_4 P) (.node (boot_o_8 P) (.node (o16A P) (.node (o32A P) (.node (o64A P) (.node (o128D P) .nil .nil) .nil) (.node (o96C P) .nil .nil)) (.node (o48A P) (.node (o80A P) .nil .nil) (.node (o112D P) .nil .nil))) (.node (o24A P) (.node (o40A P) (.node (o72A P) .nil .nil) (.node (o104D P) .nil .nil)) (.node (o56A P) (.node (o88B P) .nil .nil) (.node (o120D P) .nil .nil)))) (.node (o12C P) (.node (o20A P) (.node (o36A P) (.node (o68A P) (.node (o132D P) .nil .nil) .nil) (.node (o100C P) .nil .nil)) (.node (o52A P) (.node (o84A P) .nil .nil) (.node (o116D P) .nil .nil))) (.node (o28A P) (.node (o44A P) (.node (o76A P) .nil .nil) (.node (o108D P) .nil .nil)) (.node (o60A P) (.node (o92B P) .nil .nil) (.node (o124D P) .nil .nil))))) (.node (boot_o_6 P) (.node (boot_o_10 P) (.node (o18A P) (.node (o34A P) (.node (o66A P) (.node (o130D P) .nil .nil) .nil) (.node (o98C P) .nil .nil)) (.node (o50A P) (.node (o82A P) .nil .nil) (.node (o114D P) .nil .nil))) (.node (o26A P) (.node (o42A P) (.node (o74A P) .nil .nil) (.node (o106D P) .nil .nil)) (.node (o58A P) (.node (o90B P) .nil .nil) (.node (o122D P) .nil .nil)))) (.node (o14a P) (.node (o22A P) (.node (o38A P) (.node (o70A P) (.node (o134D P) .nil .nil) .nil) (.node (o102C P) .nil .nil)) (.node (o54A P) (.node (o86B P) .nil .nil) (.node (o118D P) .nil .nil))) (.node (o30A P) (.node (o46A P) (.node (o78A P) .nil .nil) (.node (o110D P) .nil .nil)) (.node (o62A P) (.node (o94B P) .nil .nil) (.node (o126D P) .nil .nil)))))))
noncomputable def o103D11 (P : Params) : Obj := dictO (b3es.take 612) 612
noncomputable def treeD11 (P : Params) : BT := (.node (boot_o_0 P) (.node (boot_o_1 P) (.node (o3C P) (.node (boot_o_7 P) (.node (o15A P) (.node (o31A P) (.node (o63A P) (.node (o127D P) .nil .nil) .nil) (.node (o95B P) .nil .nil)) (.node (o47A P) (.node (o79A P) .nil .nil) (.node (o111D P) .nil .nil))) (.node (o23A P) (.node (o39A P) (.node (o71A P) (.node (o135D P) .nil .nil) .nil) (.node (o103D11 P) .nil .nil)) (.node (o55A P) (.node (o87B P) .nil .nil) (.node (o119D P) .nil .nil)))) (.node (o11a P) (.node (o19A P) (.node (o35A P) (.node (o67A P) (.node (o131D P) .nil .nil) .nil) (.node (o99C P) .nil .nil)) (.node (o51A P) (.node (o83A P) .nil .nil) (.node (o115D P) .nil .nil))) (.node (o27A P) (.node (o43A P) (.node (o75A P) .nil .nil) (.node (o107D P) .nil .nil)) (.node (o59A P) (.node (o91B P) .nil .nil) (.node (o123D P) .nil .nil))))) (.node (boot_o_5 P) (.node (boot_o_9 P) (.node (o17A P) (.node (o33A P) (.node (o65A P) (.node (o129D P) .nil .nil) .nil) (.node (o97C P) .nil .nil)) (.node (o49A P) (.node (o81A P) .nil .nil) (.node (o113D P) .nil .nil))) (.node (o25A P) (.node (o41A P) (.node (o73A P) (.node (o137D P) .nil .nil) .nil) (.node (o105D P) .nil .nil)) (.node (o57A P) (.node (o89B P) .nil .nil) (.node (o121D P) .nil .nil)))) (.node (o13a P) (.node (o21A P) (.node (o37A P) (.node (o69A P) (.node (o133D P) .nil .nil) .nil) (.node (o101C P) .nil .nil)) (.node (o53A P) (.node (o85B P) .nil .nil) (.node (o117D P) .nil .nil))) (.node (o29A P) (.node (o45A P) (.node (o77A P) .nil .nil) (.node (o109D P) .nil .nil)) (.node (o61A P) (.node (o93B P) .nil .nil) (.node (o125D P) .nil .nil)))))) (.node (boot_o_2 P) (.node (boot_o_4 P) (.node (boot_o_8 P) (.node (o16A P) (.node (o32A P) (.node (o64A P) (.node (o128D P) .nil .nil) .nil) (.node (o96C P) .nil .nil)) (.node (o48A P) (.node (o80A P) .nil .nil) (.node (o112D P) .nil .nil))) (.node (o24A P) (.node (o40A P) (.node (o72A P) (.node (o136D P) .nil .nil) .nil) (.node (o104D P) .nil .nil)) (.node (o56A P) (.node (o88B P) .nil .nil) (.node (o120D P) .nil .nil)))) (.node (o12C P) (.node (o20A P) (.node (o36A P) (.node (o68A P) (.node (o132D P) .nil .nil) .nil) (.node (o100C P) .nil .nil)) (.node (o52A P) (.node (o84A P) .nil .nil) (.node (o116D P) .nil .nil))) (.node (o28A P) (.node (o44A P) (.node (o76A P) .nil .nil) (.node (o108D P) .nil .nil)) (.node (o60A P) (.node (o92B P) .nil .nil) (.node (o124D P) .nil .nil))))) (.node (boot_o_6 P) (.node (boot_o_10 P) (.node (o18A P) (.node (o34A P) (.node (o66A P) (.node (o130D P) .nil .nil) .nil) (.node (o98C P) .nil .nil)) (.node (o50A P) (.node (o82A P) .nil .nil) (.node (o114D P) .nil .nil))) (.node (o26A P) (.node (o42A P) (.node (o74A P) (.node (o138D P) .nil .nil) .nil) (.node (o106D P) .nil .nil)) (.node (o58A P) (.node (o90B P) .nil .nil) (.node (o122D P) .nil .nil)))) (.node (o14a P) (.node (o22A P) (.node (o38A P) (.node (o70A P) (.node (o134D P) .nil .nil) .nil) (.node (o102C P) .nil .nil)) (.node (o54A P) (.node (o86B P) .nil .nil) (.node (o118D P) .nil .nil))) (.node (o30A P) (.node (o46A P) (.node (o78A P) .nil .nil) (.node (o110D P) .nil .nil)) (.node (o62A P) (.node (o94B P) .nil .nil) (.node (o126D P) .nil .nil)))))))
noncomputable def treeDz (P : Params) : BT := (.node (boot_o_0 P) (.node (boot_o_1 P) (.node (o3C P) (.node (boot_o_7 P) (.node (o15A P) (.node (o31A P) (.node (o63A P) (.node (o127D P) .nil .nil) .nil) (.node (o95B P) .nil .nil)) (.node (o47A P) (.node (o79A P) .nil .nil) (.node (o111D P) .nil .nil))) (.node (o23A P) (.node (o39A P) (.node (o71A P) (.node (o135D P) .nil .nil) .nil) (.node (o103D P) .nil .nil)) (.node (o55A P) (.node (o87B P) .nil .nil) (.node (o119D P) .nil .nil)))) (.node (o11a P) (.node (o19A P) (.node (o35A P) (.node (o67A P) (.node (o131D P) .nil .nil) .nil) (.node (o99C P) .nil .nil)) (.node (o51A P) (.node (o83A P) .nil .nil) (.node (o115D P) .nil .nil))) (.node (o27A P) (.node (o43A P) (.node (o75A P) (.node (o139D P) .nil .nil) .nil) (.node (o107D P) .nil .nil)) (.node (o59A P) (.node (o91B P) .nil .nil) (.node (o123D P) .nil .nil))))) (.node (boot_o_5 P) (.node (boot_o_9 P) (.node (o17A P) (.node (o33A P) (.node (o65A P) (.node (o129D P) .nil .nil) .nil) (.node (o97C P) .nil .nil)) (.node (o49A P) (.node (o81A P) .nil .nil) (.node (o113D P) .nil .nil))) (.node (o25A P) (.node (o41A P) (.node (o73A P) (.node (o137D P) .nil .nil) .nil) (.node (o105D P) .nil .nil)) (.node (o57A P) (.node (o89B P) .nil .nil) (.node (o121D P) .nil .nil)))) (.node (o13a P) (.node (o21A P) (.node (o37A P) (.node (o69A P) (.node (o133D P) .nil .nil) .nil) (.node (o101C P) .nil .nil)) (.node (o53A P) (.node (o85B P) .nil .nil) (.node (o117D P) .nil .nil))) (.node (o29A P) (.node (o45A P) (.node (o77A P) (.node (o141D P) .nil .nil) .nil) (.node (o109D P) .nil .nil)) (.node (o61A P) (.node (o93B P) .nil .nil) (.node (o125D P) .nil .nil)))))) (.node (boot_o_2 P) (.node (boot_o_4 P) (.node (boot_o_8 P) (.node (o16A P) (.node (o32A P) (.node (o64A P) (.node (o128D P) .nil .nil) .nil) (.node (o96C P) .nil .nil)) (.node (o48A P) (.node (o80A P) .nil .nil) (.node (o112D P) .nil .nil))) (.node (o24A P) (.node (o40A P) (.node (o72A P) (.node (o136D P) .nil .nil) .nil) (.node (o104D P) .nil .nil)) (.node (o56A P) (.node (o88B P) .nil .nil) (.node (o120D P) .nil .nil)))) (.node (o12C P) (.node (o20A P) (.node (o36A P) (.node (o68A P) (.node (o132D P) .nil .nil) .nil) (.node (o100C P) .nil .nil)) (.node (o52A P) (.node (o84A P) .nil .nil) (.node (o116D P) .nil .nil))) (.node (o28A P) (.node (o44A P) (.node (o76A P) (.node (o140D P) .nil .nil) .nil) (.node (o108D P) .nil .nil)) (.node (o60A P) (.node (o92B P) .nil .nil) (.node (o124D P) .nil .nil))))) (.node (boot_o_6 P) (.node (boot_o_10 P) (.node (o18A P) (.node (o34A P) (.node (o66A P) (.node (o130D P) .nil .nil) .nil) (.node (o98C P) .nil .nil)) (.node (o50A P) (.node (o82A P) .nil .nil) (.node (o114D P) .nil .nil))) (.node (o26A P) (.node (o42A P) (.node (o74A P) (.node (o138D P) .nil .nil) .nil) (.node (o106D P) .nil .nil)) (.node (o58A P) (.node (o90B P) .nil .nil) (.node (o122D P) .nil .nil)))) (.node (o14a P) (.node (o22A P) (.node (o38A P) (.node (o70A P) (.node (o134D P) .nil .nil) .nil) (.node (o102C P) .nil .nil)) (.node (o54A P) (.node (o86B P) .nil .nil) (.node (o118D P) .nil .nil))) (.node (o30A P) (.node (o46A P) (.node (o78A P) .nil .nil) (.node (o110D P) .nil .nil)) (.node (o62A P) (.node (o94B P) .nil .nil) (.node (o126D P) .nil .nil)))))))
noncomputable def treeD (P : Params) : BT := (.node (boot_o_0 P) (.node (boot_o_1 P) (.node (o3D P) (.node (boot_o_7 P) (.node (o15A P) (.node (o31A P) (.node (o63A P) (.node (o127D P) .nil .nil) .nil) (.node (o95B P) .nil .nil)) (.node (o47A P) (.node (o79A P) .nil .nil) (.node (o111D P) .nil .nil))) (.node (o23A P) (.node (o39A P) (.node (o71A P) (.node (o135D P) .nil .nil) .nil) (.node (o103D P) .nil .nil)) (.node (o55A P) (.node (o87B P) .nil .nil) (.node (o119D P) .nil .nil)))) (.node (o11a P) (.node (o19A P) (.node (o35A P) (.node (o67A P) (.node (o131D P) .nil .nil) .nil) (.node (o99C P) .nil .nil)) (.node (o51A P) (.node (o83A P) .nil .nil) (.node (o115D P) .nil .nil))) (.node (o27A P) (.node (o43A P) (.node (o75A P) (.node (o139D P) .nil .nil) .nil) (.node (o107D P) .nil .nil)) (.node (o59A P) (.node (o91B P) .nil .nil) (.node (o123D P) .nil .nil))))) (.node (boot_o_5 P) (.node (boot_o_9 P) (.node (o17A P) (.node (o33A P) (.node (o65A P) (.node (o129D P) .nil .nil) .nil) (.node (o97C P) .nil .nil)) (.node (o49A P) (.node (o81A P) .nil .nil) (.node (o113D P) .nil .nil))) (.node (o25A P) (.node (o41A P) (.node (o73A P) (.node (o137D P) .nil .nil) .nil) (.node (o105D P) .nil .nil)) (.node (o57A P) (.node (o89B P) .nil .nil) (.node (o121D P) .nil .nil)))) (.node (o13a P) (.node (o21A P) (.node (o37A P) (.node (o69A P) (.node (o133D P) .nil .nil) .nil) (.node (o101C P) .nil .nil)) (.node (o53A P) (.node (o85B P) .nil .nil) (.node (o117D P) .nil .nil))) (.node (o29A P) (.node (o45A P) (.node (o77A P) (.node (o141D P) .nil .nil) .nil) (.node (o109D P) .nil .nil)) (.node (o61A P) (.node (o93B P) .nil .nil) (.node (o125D P) .nil .nil)))))) (.node (boot_o_2 P) (.node (boot_o_4 P) (.node (boot_o_8 P) (.node (o16A P) (.node (o32A P) (.node (o64A P) (.node (o128D P) .nil .nil) .nil) (.node (o96C P) .nil .nil)) (.node (o48A P) (.node (o80A P) .nil .nil) (.node (o112D P) .nil .nil))) (.node (o24A P) (.node (o40A P) (.node (o72A P) (.node (o136D P) .nil .nil) .nil) (.node (o104D P) .nil .nil)) (.node (o56A P) (.node (o88B P) .nil .nil) (.node (o120D P) .nil .nil)))) (.node (o12C P) (.node (o20A P) (.node (o36A P) (.node (o68A P) (.node (o132D P) .nil .nil) .nil) (.node (o100C P) .nil .nil)) (.node (o52A P) (.node (o84A P) .nil .nil) (.node (o116D P) .nil .nil))) (.node (o28A P) (.node (o44A P) (.node (o76A P) (.node (o140D P) .nil .nil) .nil) (.node (o108D P) .nil .nil)) (.node (o60A P) (.node (o92B P) .nil .nil) (.node (o124D P) .nil .nil))))) (.node (boot_o_6 P) (.node (boot_o_10 P) (.node (o18A P) (.node (o34A P) (.node (o66A P) (.node (o130D P) .nil .nil) .nil) (.node (o98C P) .nil .nil)) (.node (o50A P) (.node (o82A P) .nil .nil) (.node (o114D P) .nil .nil))) (.node (o26A P) (.node (o42A P) (.node (o74A P) (.node (o138D P) .nil .nil) .nil) (.node (o106D P) .nil .nil)) (.node (o58A P) (.node (o90B P) .nil .nil) (.node (o122D P) .nil .nil)))) (.node (o14a P) (.node (o22A P) (.node (o38A P) (.node (o70A P) (.node (o134D P) .nil .nil) .nil) (.node (o102C P) .nil .nil)) (.node (o54A P) (.node (o86B P) .nil .nil) (.node (o118D P) .nil .nil))) (.node (o30A P) (.node (o46A P) (.node (o78A P) .nil .nil) (.node (o110D P) .nil .nil)) (.node (o62A P) (.node (o94B P) .nil .nil) (.node (o126D P) .nil .nil)))))))
-- D: n 142 toks 2292 pos { line := 33, col := 0, endLine := 33, endCol := 13 } gens 0
noncomputable def o3E (P : Params) : Obj := ⟨(.type "dict"), none, (.dict ⟨[⟨PyData.keyHash P (Str.ofString "__name__"), (.str (Str.ofString "__name__") 165), (.str (Str.ofString "law_pg0226_01") 2307)⟩, ⟨PyData.keyHash P (Str.ofString "__doc__"), (.str (Str.ofString "__doc__") 166), .none⟩, ⟨PyData.keyHash P (Str.ofString "__package__"), (.str (Str.ofString "__package__") 167), .none⟩, ⟨PyData.keyHash P (Str.ofString "__loader__"), (.str (Str.ofString "__loader__") 168), (.builtin "__main__.__loader__#opaque")⟩, ⟨PyData.keyHash P (Str.ofString "__spec__"), (.str (Str.ofString "__spec__") 169), .none⟩, ⟨PyData.keyHash P (Str.ofString "__annotations__"), (.str (Str.ofString "__annotations__") 170), (.ref 6)⟩, ⟨PyData.keyHash P (Str.ofString "__builtins__"), (.str (Str.ofString "__builtins__") 171), (.ref 4)⟩, ⟨PyData.keyHash P (Str.ofString "__file__"), (.str (Str.ofString "__file__") 173), (.str (Str.ofString "/claim/cut.py") 172)⟩, ⟨PyData.keyHash P (Str.ofString "__cached__"), (.str (Str.ofString "__cached__") 174), .none⟩, ⟨PyData.keyHash P (Str.ofString "eq"), (.str (Str.ofString "eq") 196), (.ref 21)⟩, ⟨PyData.keyHash P (Str.ofString "add"), (.str (Str.ofString "add") 204), (.ref 28)⟩, ⟨PyData.keyHash P (Str.ofString "and_"), (.str (Str.ofString "and_") 212), (.ref 35)⟩, ⟨PyData.keyHash P (Str.ofString "lshift"), (.str (Str.ofString "lshift") 220), (.ref 42)⟩, ⟨PyData.keyHash P (Str.ofString "mul"), (.str (Str.ofString "mul") 228), (.ref 49)⟩, ⟨PyData.keyHash P (Str.ofString "rshift"), (.str (Str.ofString "rshift") 236), (.ref 56)⟩, ⟨PyData.keyHash P (Str.ofString "sub"), (.str (Str.ofString "sub") 244), (.ref 63)⟩, ⟨PyData.keyHash P (Str.ofString "xor"), (.str (Str.ofString "xor") 252), (.ref 70)⟩, ⟨PyData.keyHash P (Str.ofString "concat"), (.str (Str.ofString "concat") 261), (.ref 77)⟩, ⟨PyData.keyHash P (Str.ofString "countOf"), (.str (Str.ofString "countOf") 271), (.ref 84)⟩, ⟨PyData.keyHash P (Str.ofString "b1_set"), (.str (Str.ofString "b1_set") 333), (.ref 92)⟩, ⟨PyData.keyHash P (Str.ofString "in_table_b1"), (.str (Str.ofString "in_table_b1") 340), (.ref 102)⟩, ⟨PyData.keyHash P (Str.ofString "b3_exceptions"), (.str (Str.ofString "b3_exceptions") 2291), (.ref 103)⟩, ⟨PyData.keyHash P (Str.ofString "map_table_b3"), (.str (Str.ofString "map_table_b3") 2299), (.ref 148)⟩, ⟨PyData.keyHash P (Str.ofString "in_table_c11"), (.str (Str.ofString "in_table_c11") 2306), (.ref 155)⟩, ⟨PyData.keyHash P (Str.ofString "_law_gap"), (.str (Str.ofString "_law_gap") 2315), (.ref 162)⟩, ⟨PyData.keyHash P (Str.ofString "_law_draw"), (.str (Str.ofString "_law_draw") 2326), (.ref 169)⟩, ⟨PyData.keyHash P (Str.ofString "_law_read"), (.str (Str.ofString "_law_read") 2338), (.ref 176)⟩, ⟨PyData.keyHash P (Str.ofString "_law_write"), (.str (Str.ofString "_law_write") 2350), (.ref 183)⟩, ⟨PyData.keyHash P (Str.ofString "law"), (.str (Str.ofString "law") 2356), (.ref 188)⟩]⟩ 29), ⟨[]⟩⟩
noncomputable def o12E (P : Params) : Obj := ⟨.none, none, (.fields ⟨[(.int (2) 0), (.int (0) 0), (.ref 20), (.int (4) 0), (.int (0) 0), (.ref 27), (.int (6) 0), (.int (0) 0), (.ref 34), (.int (8) 0), (.int (0) 0), (.ref 41), (.int (10) 0), (.int (0) 0), (.ref 48), (.int (12) 0), (.int (0) 0), (.ref 55), (.int (14) 0), (.int (0) 0), (.ref 62), (.int (16) 0), (.int (0) 0), (.ref 69), (.int (18) 0), (.int (0) 0), (.ref 76), (.int (23) 0), (.int (0) 0), (.ref 83), (.int (31) 0), (.int (0) 0), (.ref 101), (.int (34) 0), (.int (0) 0), (.ref 147), (.int (39) 0), (.int (0) 0), (.ref 154), (.int (42) 0), (.int (0) 0), (.ref 161), (.int (46) 0), (.int (0) 0), (.ref 168), (.int (69) 0), (.int (0) 0), (.ref 175), (.int (85) 0), (.int (0) 0), (.ref 182), (.int (98) 0), (.int (0) 0), (.ref 187)]⟩), ⟨[]⟩⟩
noncomputable def o142E (P : Params) : Obj := ⟨(.type "tuple"), none, (.seq ⟨[]⟩ 0), ⟨[]⟩⟩
noncomputable def o143E (P : Params) : Obj := ⟨.none, none, (.fields ⟨[]⟩), ⟨[]⟩⟩
noncomputable def o144E (P : Params) : Obj := ⟨(.type "tuple"), none, (.seq ⟨[(.str (Str.ofString "code") 2295), (.str (Str.ofString "r") 2296)]⟩ 0), ⟨[]⟩⟩
noncomputable def o145E (P : Params) : Obj := ⟨(.type "tuple"), none, (.seq ⟨[]⟩ 0), ⟨[]⟩⟩
noncomputable def o146E (P : Params) : Obj := ⟨.none, none, (.func (fdAt 15 0 .none .none .none .none none .none .none 0)), ⟨[]⟩⟩
noncomputable def o147E (P : Params) : Obj := ⟨(.type "code"), none, (.fields ⟨[(.str (Str.ofString "map_table_b3") 2292), (.str (Str.ofString "map_table_b3") 2293), (.str (Str.ofString "/claim/cut.py") 2294), (.int (34) 0), (.int (1) 0), (.int (0) 0), (.int (0) 0), (.int (3) 0), (.ref 142), (.bool true), (.int (181) 0), (.ref 143), .none, (.ref 144), (.ref 145), (.ref 146), (.int (2297) 0), (.int (34) 0), (.str (Str.ofString "/claim/cut.py") 2298)]⟩), ⟨[]⟩⟩
noncomputable def o148E (P : Params) : Obj := ⟨(.type "function"), none, (.func (fdAt 15 3 .none .none .none (.str (Str.ofString "cpy313.stringprep") 272) none (.ref 147) .none 0)), ⟨[]⟩⟩
noncomputable def o149E (P : Params) : Obj := ⟨(.type "tuple"), none, (.seq ⟨[]⟩ 0), ⟨[]⟩⟩
noncomputable def o150E (P : Params) : Obj := ⟨.none, none, (.fields ⟨[]⟩), ⟨[]⟩⟩
noncomputable def o151E (P : Params) : Obj := ⟨(.type "tuple"), none, (.seq ⟨[(.str (Str.ofString "code") 2303)]⟩ 0), ⟨[]⟩⟩
noncomputable def o152E (P : Params) : Obj := ⟨(.type "tuple"), none, (.seq ⟨[]⟩ 0), ⟨[]⟩⟩
noncomputable def o153E (P : Params) : Obj := ⟨.none, none, (.func (fdAt 16 0 .none .none .none .none none .none .none 0)), ⟨[]⟩⟩
noncomputable def o154E (P : Params) : Obj := ⟨(.type "code"), none, (.fields ⟨[(.str (Str.ofString "in_table_c11") 2300), (.str (Str.ofString "in_table_c11") 2301), (.str (Str.ofString "/claim/cut.py") 2302), (.int (39) 0), (.int (1) 0), (.int (0) 0), (.int (0) 0), (.int (3) 0), (.ref 149), (.bool true), (.int (181) 0), (.ref 150), .none, (.ref 151), (.ref 152), (.ref 153), (.int (2304) 0), (.int (39) 0), (.str (Str.ofString "/claim/cut.py") 2305)]⟩), ⟨[]⟩⟩
noncomputable def o155E (P : Params) : Obj := ⟨(.type "function"), none, (.func (fdAt 16 3 .none .none .none (.str (Str.ofString "cpy313.stringprep") 272) none (.ref 154) .none 0)), ⟨[]⟩⟩
noncomputable def o156E (P : Params) : Obj := ⟨(.type "tuple"), none, (.seq ⟨[]⟩ 0), ⟨[]⟩⟩
noncomputable def o157E (P : Params) : Obj := ⟨.none, none, (.fields ⟨[]⟩), ⟨[]⟩⟩
noncomputable def o158E (P : Params) : Obj := ⟨(.type "tuple"), none, (.seq ⟨[(.str (Str.ofString "which") 2312)]⟩ 0), ⟨[]⟩⟩
noncomputable def o159E (P : Params) : Obj := ⟨(.type "tuple"), none, (.seq ⟨[]⟩ 0), ⟨[]⟩⟩
noncomputable def o160E (P : Params) : Obj := ⟨.none, none, (.func (fdAt 18 0 .none .none .none .none none .none .none 0)), ⟨[]⟩⟩
noncomputable def o161E (P : Params) : Obj := ⟨(.type "code"), none, (.fields ⟨[(.str (Str.ofString "_law_gap") 2309), (.str (Str.ofString "_law_gap") 2310), (.str (Str.ofString "/claim/cut.py") 2311), (.int (42) 0), (.int (1) 0), (.int (0) 0), (.int (0) 0), (.int (3) 0), (.ref 156), (.bool true), (.int (181) 0), (.ref 157), .none, (.ref 158), (.ref 159), (.ref 160), (.int (2313) 0), (.int (42) 0), (.str (Str.ofString "/claim/cut.py") 2314)]⟩), ⟨[]⟩⟩
noncomputable def o162E (P : Params) : Obj := ⟨(.type "function"), none, (.func (fdAt 18 3 .none .none .none (.str (Str.ofString "law_pg0226_01") 2307) none (.ref 161) .none 0)), ⟨[]⟩⟩
noncomputable def o163E (P : Params) : Obj := ⟨(.type "tuple"), none, (.seq ⟨[]⟩ 0), ⟨[]⟩⟩
noncomputable def o164E (P : Params) : Obj := ⟨.none, none, (.fields ⟨[]⟩), ⟨[]⟩⟩
noncomputable def o165E (P : Params) : Obj := ⟨(.type "tuple"), none, (.seq ⟨[(.str (Str.ofString "numbers") 2319), (.str (Str.ofString "spelling") 2320), (.str (Str.ofString "places") 2321), (.str (Str.ofString "x") 2322), (.str (Str.ofString "pick") 2323)]⟩ 0), ⟨[]⟩⟩
noncomputable def o166E (P : Params) : Obj := ⟨(.type "tuple"), none, (.seq ⟨[]⟩ 0), ⟨[]⟩⟩
noncomputable def o167E (P : Params) : Obj := ⟨.none, none, (.func (fdAt 19 0 .none .none .none .none none .none .none 0)), ⟨[]⟩⟩
noncomputable def o168E (P : Params) : Obj := ⟨(.type "code"), none, (.fields ⟨[(.str (Str.ofString "_law_draw") 2316), (.str (Str.ofString "_law_draw") 2317), (.str (Str.ofString "/claim/cut.py") 2318), (.int (46) 0), (.int (1) 0), (.int (0) 0), (.int (0) 0), (.int (3) 0), (.ref 163), (.bool true), (.int (181) 0), (.ref 164), .none, (.ref 165), (.ref 166), (.ref 167), (.int (2324) 0), (.int (46) 0), (.str (Str.ofString "/claim/cut.py") 2325)]⟩), ⟨[]⟩⟩
noncomputable def o169E (P : Params) : Obj := ⟨(.type "function"), none, (.func (fdAt 19 3 .none .none .none (.str (Str.ofString "law_pg0226_01") 2307) none (.ref 168) .none 0)), ⟨[]⟩⟩
noncomputable def o170E (P : Params) : Obj := ⟨(.type "tuple"), none, (.seq ⟨[]⟩ 0), ⟨[]⟩⟩
noncomputable def o171E (P : Params) : Obj := ⟨.none, none, (.fields ⟨[]⟩), ⟨[]⟩⟩
noncomputable def o172E (P : Params) : Obj := ⟨(.type "tuple"), none, (.seq ⟨[(.str (Str.ofString "spelling") 2330), (.str (Str.ofString "worth") 2331), (.str (Str.ofString "place") 2332), (.str (Str.ofString "sign") 2333), (.str (Str.ofString "folded") 2334), (.str (Str.ofString "letter") 2335)]⟩ 0), ⟨[]⟩⟩
noncomputable def o173E (P : Params) : Obj := ⟨(.type "tuple"), none, (.seq ⟨[]⟩ 0), ⟨[]⟩⟩
noncomputable def o174E (P : Params) : Obj := ⟨.none, none, (.func (fdAt 20 0 .none .none .none .none none .none .none 0)), ⟨[]⟩⟩
noncomputable def o175E (P : Params) : Obj := ⟨(.type "code"), none, (.fields ⟨[(.str (Str.ofString "_law_read") 2327), (.str (Str.ofString "_law_read") 2328), (.str (Str.ofString "/claim/cut.py") 2329), (.int (69) 0), (.int (1) 0), (.int (0) 0), (.int (0) 0), (.int (3) 0), (.ref 170), (.bool true), (.int (181) 0), (.ref 171), .none, (.ref 172), (.ref 173), (.ref 174), (.int (2336) 0), (.int (69) 0), (.str (Str.ofString "/claim/cut.py") 2337)]⟩), ⟨[]⟩⟩
noncomputable def o176E (P : Params) : Obj := ⟨(.type "function"), none, (.func (fdAt 20 3 .none .none .none (.str (Str.ofString "law_pg0226_01") 2307) none (.ref 175) .none 0)), ⟨[]⟩⟩
noncomputable def o177E (P : Params) : Obj := ⟨(.type "tuple"), none, (.seq ⟨[]⟩ 0), ⟨[]⟩⟩
noncomputable def o178E (P : Params) : Obj := ⟨.none, none, (.fields ⟨[]⟩), ⟨[]⟩⟩
noncomputable def o179E (P : Params) : Obj := ⟨(.type "tuple"), none, (.seq ⟨[(.str (Str.ofString "worth") 2342), (.str (Str.ofString "size") 2343), (.str (Str.ofString "triple") 2344), (.str (Str.ofString "unlike") 2345), (.str (Str.ofString "row") 2346), (.str (Str.ofString "place") 2347)]⟩ 0), ⟨[]⟩⟩
noncomputable def o180E (P : Params) : Obj := ⟨(.type "tuple"), none, (.seq ⟨[]⟩ 0), ⟨[]⟩⟩
noncomputable def o181E (P : Params) : Obj := ⟨.none, none, (.func (fdAt 21 0 .none .none .none .none none .none .none 0)), ⟨[]⟩⟩
noncomputable def o182E (P : Params) : Obj := ⟨(.type "code"), none, (.fields ⟨[(.str (Str.ofString "_law_write") 2339), (.str (Str.ofString "_law_write") 2340), (.str (Str.ofString "/claim/cut.py") 2341), (.int (85) 0), (.int (2) 0), (.int (0) 0), (.int (0) 0), (.int (3) 0), (.ref 177), (.bool true), (.int (181) 0), (.ref 178), .none, (.ref 179), (.ref 180), (.ref 181), (.int (2348) 0), (.int (85) 0), (.str (Str.ofString "/claim/cut.py") 2349)]⟩), ⟨[]⟩⟩
noncomputable def o183E (P : Params) : Obj := ⟨(.type "function"), none, (.func (fdAt 21 3 .none .none .none (.str (Str.ofString "law_pg0226_01") 2307) none (.ref 182) .none 0)), ⟨[]⟩⟩
noncomputable def o184E (P : Params) : Obj := ⟨(.type "tuple"), none, (.seq ⟨[]⟩ 0), ⟨[]⟩⟩
noncomputable def o185E (P : Params) : Obj := ⟨.none, none, (.fields ⟨[]⟩), ⟨[]⟩⟩
noncomputable def o186E (P : Params) : Obj := ⟨.none, none, (.func (fdAt 22 0 .none .none .none .none none .none .none 0)), ⟨[]⟩⟩
noncomputable def o187E (P : Params) : Obj := ⟨(.type "code"), none, (.fields ⟨[(.str (Str.ofString "law") 2351), (.str (Str.ofString "law") 2352), (.str (Str.ofString "/claim/cut.py") 2353), (.int (98) 0), (.int (1) 0), (.int (0) 0), (.int (0) 0), (.int (3) 0), (.ref 184), (.bool true), (.int (181) 0), (.ref 185), .none, .none, .none, (.ref 186), (.int (2354) 0), (.int (98) 0), (.str (Str.ofString "/claim/cut.py") 2355)]⟩), ⟨[]⟩⟩
noncomputable def o188E (P : Params) : Obj := ⟨(.type "function"), none, (.func (fdAt 22 3 .none .none .none (.str (Str.ofString "law_pg0226_01") 2307) none (.ref 187) .none 0)), ⟨[]⟩⟩
noncomputable def treeE (P : Params) : BT := (.node (boot_o_0 P) (.node (boot_o_1 P) (.node (o3E P) (.node (boot_o_7 P) (.node (o15A P) (.node (o31A P) (.node (o63A P) (.node (o127D P) .nil .nil) .nil) (.node (o95B P) (.node (o159E P) .nil .nil) .nil)) (.node (o47A P) (.node (o79A P) (.node (o143E P) .nil .nil) .nil) (.node (o111D P) (.node (o175E P) .nil .nil) .nil))) (.node (o23A P) (.node (o39A P) (.node (o71A P) (.node (o135D P) .nil .nil) .nil) (.node (o103D P) (.node (o167E P) .nil .nil) .nil)) (.node (o55A P) (.node (o87B P) (.node (o151E P) .nil .nil) .nil) (.node (o119D P) (.node (o183E P) .nil .nil) .nil)))) (.node (o11a P) (.node (o19A P) (.node (o35A P) (.node (o67A P) (.node (o131D P) .nil .nil) .nil) (.node (o99C P) (.node (o163E P) .nil .nil) .nil)) (.node (o51A P) (.node (o83A P) (.node (o147E P) .nil .nil) .nil) (.node (o115D P) (.node (o179E P) .nil .nil) .nil))) (.node (o27A P) (.node (o43A P) (.node (o75A P) (.node (o139D P) .nil .nil) .nil) (.node (o107D P) (.node (o171E P) .nil .nil) .nil)) (.node (o59A P) (.node (o91B P) (.node (o155E P) .nil .nil) .nil) (.node (o123D P) (.node (o187E P) .nil .nil) .nil))))) (.node (boot_o_5 P) (.node (boot_o_9 P) (.node (o17A P) (.node (o33A P) (.node (o65A P) (.node (o129D P) .nil .nil) .nil) (.node (o97C P) (.node (o161E P) .nil .nil) .nil)) (.node (o49A P) (.node (o81A P) (.node (o145E P) .nil .nil) .nil) (.node (o113D P) (.node (o177E P) .nil .nil) .nil))) (.node (o25A P) (.node (o41A P) (.node (o73A P) (.node (o137D P) .nil .nil) .nil) (.node (o105D P) (.node (o169E P) .nil .nil) .nil)) (.node (o57A P) (.node (o89B P) (.node (o153E P) .nil .nil) .nil) (.node (o121D P) (.node (o185E P) .nil .nil) .nil)))) (.node (o13a P) (.node (o21A P) (.node (o37A P) (.node (o69A P) (.node (o133D P) .nil .nil) .nil) (.node (o101C P) (.node (o165E P) .nil .nil) .nil)) (.node (o53A P) (.node (o85B P) (.node (o149E P) .nil .nil) .nil) (.node (o117D P) (.node (o181E P) .nil .nil) .nil))) (.node (o29A P) (.node (o45A P) (.node (o77A P) (.node (o141D P) .nil .nil) .nil) (.node (o109D P) (.node (o173E P) .nil .nil) .nil)) (.node (o61A P) (.node (o93B P) (.node (o157E P) .nil .nil) .nil) (.node (o125D P) .nil .nil)))))) (.node (boot_o_2 P) (.node (boot_o_4 P) (.node (boot_o_8 P) (.node (o16A P) (.node (o32A P) (.node (o64A P) (.node (o128D P) .nil .nil) .nil) (.node (o96C P) (.node (o160E P) .nil .nil) .nil)) (.node (o48A P) (.node (o80A P) (.node (o144E P) .nil .nil) .nil) (.node (o112D P) (.node (o176E P) .nil .nil) .nil))) (.node (o24A P) (.node (o40A P) (.node (o72A P) (.node (o136D P) .nil .nil) .nil) (.node (o104D P) (.node (o168E P) .nil .nil) .nil)) (.node (o56A P) (.node (o88B P) (.node (o152E P) .nil .nil) .nil) (.node (o120D P) (.node (o184E P) .nil .nil) .nil)))) (.node (o12E P) (.node (o20A P) (.node (o36A P) (.node (o68A P) (.node (o132D P) .nil .nil) .nil) (.node (o100C P) (.node (o164E P) .nil .nil) .nil)) (.node (o52A P) (.node (o84A P) (.node (o148E P) .nil .nil) .nil) (.node (o116D P) (.node (o180E P) .nil .nil) .nil))) (.node (o28A P) (.node (o44A P) (.node (o76A P) (.node (o140D P) .nil .nil) .nil) (.node (o108D P) (.node (o172E P) .nil .nil) .nil)) (.node (o60A P) (.node (o92B P) (.node (o156E P) .nil .nil) .nil) (.node (o124D P) (.node (o188E P) .nil .nil) .nil))))) (.node (boot_o_6 P) (.node (boot_o_10 P) (.node (o18A P) (.node (o34A P) (.node (o66A P) (.node (o130D P) .nil .nil) .nil) (.node (o98C P) (.node (o162E P) .nil .nil) .nil)) (.node (o50A P) (.node (o82A P) (.node (o146E P) .nil .nil) .nil) (.node (o114D P) (.node (o178E P) .nil .nil) .nil))) (.node (o26A P) (.node (o42A P) (.node (o74A P) (.node (o138D P) .nil .nil) .nil) (.node (o106D P) (.node (o170E P) .nil .nil) .nil)) (.node (o58A P) (.node (o90B P) (.node (o154E P) .nil .nil) .nil) (.node (o122D P) (.node (o186E P) .nil .nil) .nil)))) (.node (o14a P) (.node (o22A P) (.node (o38A P) (.node (o70A P) (.node (o134D P) .nil .nil) .nil) (.node (o102C P) (.node (o166E P) .nil .nil) .nil)) (.node (o54A P) (.node (o86B P) (.node (o150E P) .nil .nil) .nil) (.node (o118D P) (.node (o182E P) .nil .nil) .nil))) (.node (o30A P) (.node (o46A P) (.node (o78A P) (.node (o142E P) .nil .nil) .nil) (.node (o110D P) (.node (o174E P) .nil .nil) .nil)) (.node (o62A P) (.node (o94B P) (.node (o158E P) .nil .nil) .nil) (.node (o126D P) .nil .nil)))))))
-- E: n 189 toks 2357 pos { line := 98, col := 0, endLine := 118, endCol := 45 } gens 0
noncomputable def treeF (P : Params) : BT := (.node (boot_o_0 P) (.node (boot_o_1 P) (.node (o3E P) (.node (boot_o_7 P) (.node (o15A P) (.node (o31A P) (.node (o63A P) (.node (o127D P) .nil .nil) .nil) (.node (o95B P) (.node (o159E P) .nil .nil) .nil)) (.node (o47A P) (.node (o79A P) (.node (o143E P) .nil .nil) .nil) (.node (o111D P) (.node (o175E P) .nil .nil) .nil))) (.node (o23A P) (.node (o39A P) (.node (o71A P) (.node (o135D P) .nil .nil) .nil) (.node (o103D P) (.node (o167E P) .nil .nil) .nil)) (.node (o55A P) (.node (o87B P) (.node (o151E P) .nil .nil) .nil) (.node (o119D P) (.node (o183E P) .nil .nil) .nil)))) (.node (o11a P) (.node (o19A P) (.node (o35A P) (.node (o67A P) (.node (o131D P) .nil .nil) .nil) (.node (o99C P) (.node (o163E P) .nil .nil) .nil)) (.node (o51A P) (.node (o83A P) (.node (o147E P) .nil .nil) .nil) (.node (o115D P) (.node (o179E P) .nil .nil) .nil))) (.node (o27A P) (.node (o43A P) (.node (o75A P) (.node (o139D P) .nil .nil) .nil) (.node (o107D P) (.node (o171E P) .nil .nil) .nil)) (.node (o59A P) (.node (o91B P) (.node (o155E P) .nil .nil) .nil) (.node (o123D P) (.node (o187E P) .nil .nil) .nil))))) (.node (boot_o_5 P) (.node (boot_o_9 P) (.node (o17A P) (.node (o33A P) (.node (o65A P) (.node (o129D P) .nil .nil) .nil) (.node (o97C P) (.node (o161E P) .nil .nil) .nil)) (.node (o49A P) (.node (o81A P) (.node (o145E P) .nil .nil) .nil) (.node (o113D P) (.node (o177E P) .nil .nil) .nil))) (.node (o25A P) (.node (o41A P) (.node (o73A P) (.node (o137D P) .nil .nil) .nil) (.node (o105D P) (.node (o169E P) .nil .nil) .nil)) (.node (o57A P) (.node (o89B P) (.node (o153E P) .nil .nil) .nil) (.node (o121D P) (.node (o185E P) .nil .nil) .nil)))) (.node (o13a P) (.node (o21A P) (.node (o37A P) (.node (o69A P) (.node (o133D P) .nil .nil) .nil) (.node (o101C P) (.node (o165E P) .nil .nil) .nil)) (.node (o53A P) (.node (o85B P) (.node (o149E P) .nil .nil) .nil) (.node (o117D P) (.node (o181E P) .nil .nil) .nil))) (.node (o29A P) (.node (o45A P) (.node (o77A P) (.node (o141D P) .nil .nil) .nil) (.node (o109D P) (.node (o173E P) .nil .nil) .nil)) (.node (o61A P) (.node (o93B P) (.node (o157E P) .nil .nil) .nil) (.node (o125D P) .nil .nil)))))) (.node (boot_o_2 P) (.node (boot_o_4 P) (.node (boot_o_8 P) (.node (o16A P) (.node (o32A P) (.node (o64A P) (.node (o128D P) .nil .nil) .nil) (.node (o96C P) (.node (o160E P) .nil .nil) .nil)) (.node (o48A P) (.node (o80A P) (.node (o144E P) .nil .nil) .nil) (.node (o112D P) (.node (o176E P) .nil .nil) .nil))) (.node (o24A P) (.node (o40A P) (.node (o72A P) (.node (o136D P) .nil .nil) .nil) (.node (o104D P) (.node (o168E P) .nil .nil) .nil)) (.node (o56A P) (.node (o88B P) (.node (o152E P) .nil .nil) .nil) (.node (o120D P) (.node (o184E P) .nil .nil) .nil)))) (.node (o12E P) (.node (o20A P) (.node (o36A P) (.node (o68A P) (.node (o132D P) .nil .nil) .nil) (.node (o100C P) (.node (o164E P) .nil .nil) .nil)) (.node (o52A P) (.node (o84A P) (.node (o148E P) .nil .nil) .nil) (.node (o116D P) (.node (o180E P) .nil .nil) .nil))) (.node (o28A P) (.node (o44A P) (.node (o76A P) (.node (o140D P) .nil .nil) .nil) (.node (o108D P) (.node (o172E P) .nil .nil) .nil)) (.node (o60A P) (.node (o92B P) (.node (o156E P) .nil .nil) .nil) (.node (o124D P) (.node (o188E P) .nil .nil) .nil))))) (.node (boot_o_6 P) (.node (boot_o_10 P) (.node (o18A P) (.node (o34A P) (.node (o66A P) (.node (o130D P) .nil .nil) .nil) (.node (o98C P) (.node (o162E P) .nil .nil) .nil)) (.node (o50A P) (.node (o82A P) (.node (o146E P) .nil .nil) .nil) (.node (o114D P) (.node (o178E P) .nil .nil) .nil))) (.node (o26A P) (.node (o42A P) (.node (o74A P) (.node (o138D P) .nil .nil) .nil) (.node (o106D P) (.node (o170E P) .nil .nil) .nil)) (.node (o58A P) (.node (o90B P) (.node (o154E P) .nil .nil) .nil) (.node (o122D P) (.node (o186E P) .nil .nil) .nil)))) (.node (o14a P) (.node (o22A P) (.node (o38A P) (.node (o70A P) (.node (o134D P) .nil .nil) .nil) (.node (o102C P) (.node (o166E P) .nil .nil) .nil)) (.node (o54A P) (.node (o86B P) (.node (o150E P) .nil .nil) .nil) (.node (o118D P) (.node (o182E P) .nil .nil) .nil))) (.node (o30A P) (.node (o46A P) (.node (o78A P) (.node (o142E P) .nil .nil) .nil) (.node (o110D P) (.node (o174E P) .nil .nil) .nil)) (.node (o62A P) (.node (o94B P) (.node (o158E P) .nil .nil) .nil) (.node (o126D P) .nil .nil)))))))
-- F: n 189 toks 2357 pos { line := 98, col := 0, endLine := 118, endCol := 45 } gens 0
noncomputable def stT (T : Params → BT) (n k : Nat) (w : World) (os : OsState) : SharedT := ⟨T w.params, n, {}, #[], {}, k, os⟩
end
end Mine
end
section
open PySem PySem.W PyProof.Rows
set_option maxRecDepth 100000
namespace Mine
theorem bind_wrapH {α β γ : Type} (m : Sem α) (f : α → Sem β) (K : β → Sem γ) (H : Value → Sem γ) : (m.bind f).wrap K H id id = m.wrap (fun a => (f a).wrap K H id id) H id id := by
  rw [Sem.bind_eq_wrap, Sem.wrap_wrap]; rfl
theorem seg_bind {α : Type} {tb : String → Option Builtin} {p : Program} {w : World} {n₀ : Nat} {ann : Option Value} {q : Pos} {n N : Nat} {s s' r : Shared} {x : Sem α} {f : α → Sem Flow} {K : Flow → Sem Fin} {H : Value → Sem Fin} {res : α → Flow} {fl : Flow} {c c' : Code} {pos p' : Pos}
    (h : segRun tb p w n₀ ann 1 n s ⟨x.wrap (fun a => doneF (res a)) deadEnd id id, c, pos, [topFrame q]⟩ = some (fl, s', c', p'))
    (k : ∀ a, res a = fl → topRun tb p w n₀ ann N s' ⟨(f a).wrap K H id id, c', p', [topFrame q]⟩ = some r) :
    topRun tb p w n₀ ann (n + N) s ⟨(x.bind f).wrap K H id id, c, pos, [topFrame q]⟩ = some r := by
  rw [bind_wrapH]
  obtain ⟨a, ha, hN⟩ := seg_top (res := res) (K' := fun a => (f a).wrap K H id id) (H' := H) (B := [topFrame q]) rfl n s ⟨x.wrap (fun a => doneF (res a)) deadEnd id id, c, pos, [topFrame q]⟩ ⟨x.wrap (fun a => (f a).wrap K H id id) H id id, c, pos, [topFrame q]⟩ fl s' c' p' ⟨rfl, rfl, .inl ⟨rfl, rfl, x, rfl, rfl⟩⟩ h
  exact hN N r (k a ha)

abbrev Pair := Sem Value × Sem Value
noncomputable def flushD (run : List Pair) (main : Option Addr) : Sem (Option Addr) :=
  if run.isEmpty = true then pure main else
    match main with
    | none => (subDict run).bind fun d => .pure (some d)
    | some d => (holding [Value.ref d] (subDict run)).bind fun sub =>
      ((holding [Value.ref d, Value.ref sub] (mergeMapping d (Value.ref sub) false)).onRaise fun x =>
        (holding [Value.ref d, x] (runValue (Code.builtin "proto.let_go" { }))).bind fun _ => .pure ()).bind fun _ => .pure (some d)
noncomputable def chunkedG (fl : List Pair → Option Addr → Sem (Option Addr)) : List (List Pair) → Option Addr → Sem (Option Addr)
  | [], m => .pure m
  | c :: cs, m => (fl c m).bind (chunkedG fl cs)
noncomputable abbrev chunkedD := chunkedG flushD
theorem chunkedD_append (a b : List (List Pair)) : ∀ m, chunkedD (a ++ b) m = (chunkedD a m).bind (chunkedD b) := by
  induction a with
  | nil => intro m; rfl
  | cons c a ih => intro m; show (flushD c m).bind _ = ((flushD c m).bind _).bind _; rw [Sem.bind_assoc]; exact congrArg _ (funext fun m' => ih m')
noncomputable def someFst (x : Pair) : Option (Sem Value) × Sem Value := (some x.1, x.2)
noncomputable def loopB (x : Option (Sem Value) × Sem Value) (s : Option Addr × List Pair) : Sem (ForInStep (Option Addr × List Pair)) :=
  match x with
  | (some k, v) => if ((s.2 ++ [(k, v)]).length == 17) = true then (flushD (s.2 ++ [(k, v)]) s.1).bind fun m => .pure (.yield (m, [])) else .pure (.yield (s.1, s.2 ++ [(k, v)]))
  | (none, _) => .unsupported ""
noncomputable def loopD : List Pair → Option Addr × List Pair → Sem (Option Addr × List Pair)
  | [], s => .pure s
  | x :: r, s => if ((s.2 ++ [x]).length == 17) = true then (flushD (s.2 ++ [x]) s.1).bind fun m => loopD r (m, []) else loopD r (s.1, s.2 ++ [x])
theorem loopD_cons (x : Pair) (r : List Pair) (s : Option Addr × List Pair) : loopD (x :: r) s = if ((s.2 ++ [x]).length == 17) = true then (flushD (s.2 ++ [x]) s.1).bind fun m => loopD r (m, []) else loopD r (s.1, s.2 ++ [x]) := rfl
noncomputable def endD (s : Option Addr × List Pair) : Sem Value := (flushD s.2 s.1).bind fun m => match m with | some d => .pure (.ref d) | none => newDict
theorem display_loop (l : List Pair) : dictDisplay (l.map someFst) = (loopD l (none, [])).bind endD := by
  unfold dictDisplay
  show Sem.bind (forIn (m := Sem) (l.map someFst) ((none : Option Addr), ([] : List Pair)) _) _ = _
  generalize ((none : Option Addr), ([] : List Pair)) = s
  induction l generalizing s with
  | nil => rfl
  | cons x l ih =>
    obtain ⟨m, run⟩ := s
    obtain ⟨k, v⟩ := x
    rw [List.map_cons, List.forIn_cons]
    rw [loopD_cons]
    by_cases hl : ((run ++ [(k, v)]).length == 17) = true
    · simp only [someFst, hl, if_true]
      show ((((flushD (run ++ [(k, v)]) m).bind fun m => Sem.pure (ForInStep.yield (m, ([] : List Pair)))).bind _).bind _) = ((flushD (run ++ [(k, v)]) m).bind _).bind _
      rw [Sem.bind_assoc, Sem.bind_assoc, Sem.bind_assoc]
      exact congrArg _ (funext fun m' => ih _)
    · simp only [someFst, hl]
      exact ih _
theorem loop_part (rest : List Pair) (m : Option Addr) : ∀ (l run : List Pair), l ≠ [] → run.length + l.length = 17 → loopD (l ++ rest) (m, run) = (flushD (run ++ l) m).bind fun m' => loopD rest (m', [])
  | [], _, h, _ => absurd rfl h
  | [x], run, _, h => by
    rw [List.cons_append, loopD_cons]
    rw [if_pos (by rw [beq_iff_eq, List.length_append]; exact h)]; rfl
  | x :: y :: l, run, _, h => by
    rw [List.cons_append, loopD_cons]
    simp only [List.length_cons] at h
    rw [if_neg (by rw [beq_iff_eq, List.length_append, List.length_singleton]; show ¬ run.length + 1 = 17; omega), loop_part rest m (y :: l) (run ++ [x]) (by simp) (by rw [List.length_append, List.length_singleton, List.length_cons]; omega), List.append_assoc]; rfl
theorem loop_chunk (c : List Pair) (rest : List Pair) (m : Option Addr) (hc : c.length = 17) : loopD (c ++ rest) (m, []) = (flushD c m).bind fun m' => loopD rest (m', []) :=
  loop_part rest m c [] (by rintro rfl; cases hc) (by rw [hc]; rfl)
theorem loop_chunks : ∀ (cs : List (List Pair)) (rest : List Pair) (m : Option Addr), (∀ c ∈ cs, c.length = 17) → loopD (cs.flatten ++ rest) (m, []) = (chunkedD cs m).bind fun m' => loopD rest (m', [])
  | [], rest, m, _ => rfl
  | c :: cs, rest, m, h => by
    rw [List.flatten_cons, List.append_assoc, loop_chunk _ _ _ (h c (.head _))]
    show _ = ((flushD c m).bind (chunkedD cs)).bind _
    rw [Sem.bind_assoc]
    exact congrArg _ (funext fun m' => loop_chunks cs rest m' fun c hc => h c (.tail _ hc))
theorem loop_rest : ∀ (l : List Pair) (m : Option Addr) (run : List Pair), run.length + l.length < 17 → loopD l (m, run) = .pure (m, run ++ l)
  | [], m, run, _ => by rw [List.append_nil]; rfl
  | x :: l, m, run, h => by
    rw [loopD_cons]
    simp only [List.length_cons] at h
    rw [if_neg (by rw [beq_iff_eq, List.length_append, List.length_singleton]; show ¬ run.length + 1 = 17; omega), loop_rest l m (run ++ [x]) (by rw [List.length_append, List.length_singleton]; omega), List.append_assoc]; rfl
theorem display_chunks (cs : List (List Pair)) (rest : List Pair) (h : ∀ c ∈ cs, c.length = 17) (hr : rest.length < 17) :
    dictDisplay ((cs.flatten ++ rest).map someFst) = (chunkedD (cs ++ [rest]) none).bind fun m => match m with | some d => .pure (.ref d) | none => newDict := by
  rw [display_loop, loop_chunks _ _ _ h, Sem.bind_assoc, chunkedD_append, Sem.bind_assoc]
  refine congrArg _ (funext fun m => ?_)
  rw [loop_rest _ _ _ (by simpa using hr)]
  show (flushD ([] ++ rest) m).bind _ = ((flushD rest m).bind Sem.pure).bind _
  rw [Sem.bind_pure]; rfl
end Mine
end
section
open PySem PySem.W PyProof.Rows
set_option maxRecDepth 100000
namespace Mine
noncomputable def hEq : Int → Int → Bool
  | .ofNat m, .ofNat n => Nat.beq m n
  | .negSucc m, .negSucc n => Nat.beq m n
  | _, _ => false
theorem hEq_eq (a b : Int) : hEq a b = (a == b) := by
  have nb : ∀ m n : Nat, Nat.beq m n = (m == n) := fun m n => by rw [BT.beq_eq]; rfl
  cases a <;> cases b <;> simp only [hEq, nb] <;> (rw [Bool.eq_iff_iff]; simp [beq_iff_eq]) <;> omega
noncomputable def placesL (h : Int) (l : List DictEntry) : Nat → List Nat :=
  List.rec (motive := fun _ => Nat → List Nat) (fun _ => []) (fun e _ k i => match hEq e.hash h with | true => i :: k (i + 1) | false => k (i + 1)) l
theorem placesL_eq (h : Int) (es : Array DictEntry) : placesWithHash es.size (fun i => es[i]?.map (·.hash)) h = placesL h es.toList 0 := by
  rw [PySem.Fast.places_eq]
  obtain ⟨l⟩ := es
  have key : ∀ (l' pre : List DictEntry), l = pre ++ l' → PySem.Fast.placesFrom (fun i => (⟨l⟩ : Array DictEntry)[i]?.map (·.hash)) h l'.length pre.length = placesL h l' pre.length := by
    intro l'
    induction l' with
    | nil => intro pre _; rfl
    | cons e l' ih =>
      intro pre hp
      have := ih (pre ++ [e]) (by rw [hp, List.append_assoc]; rfl)
      rw [List.length_append, List.length_singleton] at this
      have hg : (⟨l⟩ : Array DictEntry)[pre.length]? = some e := by subst hp; simp
      show (if ((⟨l⟩ : Array DictEntry)[pre.length]?.map (·.hash) == some h) then _ else _) = (match hEq e.hash h with | true => _ | false => _)
      rw [hg, hEq_eq, Option.map_some]
      have e2 : ((some e.hash == some h) : Bool) = (e.hash == h) := rfl
      rw [e2]
      cases e.hash == h
      · exact this
      · exact congrArg (pre.length :: ·) this
  exact key l [] rfl
noncomputable def findP : { f : Addr → Value → Int → Sem (Option Nat) // dictFind = f } := ⟨_, by
  funext d key h
  unfold dictFind
  simp -zeta only [placesL_eq]
  rfl⟩
noncomputable def putP : { f : Addr → Int → Value → Value → Sem Unit // dictPut = f } := ⟨_, by
  delta dictPut
  rw [findP.2]⟩
noncomputable def mergeP : { f : Addr → Value → Bool → Sem Unit // mergeMapping = f } := ⟨_, by
  delta mergeMapping
  rw [putP.2]⟩
noncomputable def flushP : { f : List Pair → Option Addr → Sem (Option Addr) // flushD = f } := ⟨_, by
  delta flushD
  rw [mergeP.2]⟩
end Mine
end
section
open PySem PySem.W PyProof.Rows
set_option maxRecDepth 100000
namespace Mine
noncomputable section
noncomputable def dKeys : Stmt → List (Option Expr) | .Assign _ (.Dict ks _ _) _ => ks | _ => []
noncomputable def dVals : Stmt → List Expr | .Assign _ (.Dict _ vs _) _ => vs | _ => []
noncomputable def stD : Stmt := stm 14
noncomputable def esD : List Expr := (dKeys stD).filterMap id
noncomputable def vsD : List Expr := dVals stD
noncomputable def nmD : Str := Str.ofString "b3_exceptions"
noncomputable def npD : Pos := ⟨33, 0, 33, 13⟩
noncomputable def dpD : Pos := ⟨33, 16, 33, 8704⟩
noncomputable def apD : Pos := ⟨33, 0, 33, 8704⟩
noncomputable def pairOf (dp : Pos) (env : Env) (e v : Expr) : Pair := (eval e env, do let x ← eval v env; standAt dp; pure x)
noncomputable def toChunks {α : Type} : Nat → List α → List (List α)
  | 0, _ => []
  | n + 1, l => l.take 17 :: toChunks n (l.drop 17)
theorem toChunks_flatten {α : Type} : ∀ (n : Nat) (l : List α), (toChunks n l).flatten ++ l.drop (17 * n) = l
  | 0, l => rfl
  | n + 1, l => by
    show (l.take 17 :: toChunks n (l.drop 17)).flatten ++ _ = _
    have := toChunks_flatten n (l.drop 17)
    rw [List.drop_drop] at this
    rw [List.flatten_cons, List.append_assoc, show 17 * (n + 1) = 17 + 17 * n by omega, this, List.take_append_drop]
theorem toChunks_length {α : Type} : ∀ (n : Nat) (l : List α), 17 * n ≤ l.length → ∀ c ∈ toChunks n l, c.length = 17
  | 0, _, _, c, hc => by cases hc
  | n + 1, l, h, c, hc => by
    rcases List.mem_cons.mp hc with rfl | hc
    · rw [List.length_take]; omega
    · exact toChunks_length n (l.drop 17) (by rw [List.length_drop]; omega) c hc
theorem evalEachOpt_some (env : Env) : ∀ es : List Expr, evalEachOpt (es.map some) env = es.map fun e => some (eval e env)
  | [] => rfl
  | e :: es => congrArg (some (eval e env) :: ·) (evalEachOpt_some env es)
theorem evalEach_map (env : Env) : ∀ es : List Expr, evalEach es env = es.map fun e => eval e env
  | [] => rfl
  | e :: es => congrArg (eval e env :: ·) (evalEach_map env es)
theorem zip_pairs (dp : Pos) (env : Env) : ∀ es vs : List Expr, (es.map fun e => some (eval e env)).zip ((vs.map fun e => eval e env).map fun v => do let x ← v; standAt dp; pure x) = (List.zipWith (pairOf dp env) es vs).map someFst
  | [], _ => rfl
  | _ :: _, [] => rfl
  | e :: es, v :: vs => congrArg (someFst (pairOf dp env e v) :: ·) (zip_pairs dp env es vs)
noncomputable def psD : List Pair := List.zipWith (pairOf dpD envT) esD vsD
noncomputable def allD : List (List Pair) := toChunks 38 psD ++ [psD.drop 646]
noncomputable def pieceD (j : Nat) : Option Addr → Sem (Option Addr) := chunkedG flushD ((allD.drop (3 * j)).take 3)
noncomputable def preD : Sem Bool := (standAt apD).bind fun _ => swapsWithSole [.Name nmD npD] (.Dict (esD.map some) vsD dpD) apD.line envT
noncomputable def resB : Bool → Flow | true => .brk | false => .next
noncomputable def resO : Option Addr → Flow | some a => .ret (.ref a) | none => .brk
noncomputable def restD : Nat → Nat → Option Addr → Sem (Option Addr)
  | _, 0, m => .pure m
  | j, n + 1, m => (pieceD j m).bind (restD (j + 1) n)
noncomputable def postD (m : Option Addr) : Sem Flow := ((match m with | some d => .pure (.ref d) | none => newDict) : Sem Value).bind fun v =>
  (swappedStores [.Name nmD npD] (.Dict (esD.map some) vsD dpD) envT).bind fun s => assignStores envT v s ((assignEach [.Name nmD npD] envT).map (·.2))
noncomputable def junkD : Sem Flow := (evalThenUse (.Dict (esD.map some) vsD dpD) envT fun v => assignAll v ((assignEach [.Name nmD npD] envT).map (·.2))).bind fun _ => .pure .next
abbrev thrO (x : Sem (Option Addr)) (p : Pos) : Thread := ⟨x.wrap (fun a => doneF (resO a)) deadEnd id id, codeT, p, [topFrame pos0]⟩
noncomputable def pieceF (j : Nat) : Option Addr → Sem (Option Addr) := chunkedG flushP.1 ((allD.drop (3 * j)).take 3)
theorem pieceF_eq (j : Nat) : pieceD j = pieceF j := by unfold pieceD pieceF; rw [← flushP.2]
end
end Mine
end
section
open PySem PySem.W PyProof.Rows
set_option maxRecDepth 100000
namespace Mine
noncomputable section
set_option linter.unusedVariables false
theorem pre_run (w : World) (os : OsState) : topGo treeTable prog w 11 (some (.ref 6)) 12 ⟨boot_heap w.params, #[], boot_drawn, boot_toks, os⟩ (topStub prog) =
    some ((stT treea 15 187 w os).abs, ⟨denote treeTable codeT, codeT, pos0, [topFrame pos0]⟩) := by
  rw [PySem.W.Fast.te15667345088766844465, PySem.W.Fast.te14364793385576792824, PySem.W.Fast.te11892475500146522536]
  kernel_rfl
set_option maxHeartbeats 0 in
theorem runA (w : World) (os : OsState) : segRunT treeTable prog w 11 (some (.ref 6)) 1 322 (stT treea 15 187 w os) (piecesOf (bodyT.take 12) envT codeT pos0 [topFrame pos0]) =
    some (.next, stT treeA 85 274 w os, codeT, ⟨29, 0, 29, 8⟩) := by
  rw [PySem.W.Fast.te10110043849684766642, PySem.W.Fast.te14364793385576792824]
  kernel_rfl
end
end Mine
end
section
open PySem PySem.W PyProof.Rows
set_option maxRecDepth 100000
namespace Mine
set_option maxHeartbeats 0
theorem runB (w : World) : ∀ (os : OsState), segRunT treeTable prog w 11 (some (.ref 6)) 1 999 (stT treeA 85 274 w os) (piecesOf ((bodyT.drop 12).take 1) envT codeT ⟨29, 0, 29, 8⟩ [topFrame pos0]) =
    some (.next, stT treeB 96 334 w os, codeT, ⟨30, 0, 30, 6⟩) := by
  refine byRow2 "special-get-raises" (P := fun w => ∀ (os : OsState), segRunT treeTable prog w 11 (some (.ref 6)) 1 999 (stT treeA 85 274 w os) (piecesOf ((bodyT.drop 12).take 1) envT codeT ⟨29, 0, 29, 8⟩ [topFrame pos0]) =
    some (.next, stT treeB 96 334 w os, codeT, ⟨30, 0, 30, 6⟩)) ?_ ?_ w
  · intro w os
    rw [PySem.W.Fast.te10110043849684766642, PySem.W.Fast.te14364793385576792824]
    kernel_rfl
  · intro w os
    rw [PySem.W.Fast.te10110043849684766642, PySem.W.Fast.te14364793385576792824]
    kernel_rfl
end Mine
end
section
open PySem PySem.W PyProof.Rows
set_option maxRecDepth 100000
namespace Mine
set_option maxHeartbeats 0
theorem runC (w : World) (os : OsState) : segRunT treeTable prog w 11 (some (.ref 6)) 1 40 (stT treeB 96 334 w os) (piecesOf ((bodyT.drop 13).take 1) envT codeT ⟨30, 0, 30, 6⟩ [topFrame pos0]) =
    some (.next, stT treeC 103 341 w os, codeT, ⟨31, 0, 32, 30⟩) := by
  rw [PySem.W.Fast.te10110043849684766642, PySem.W.Fast.te14364793385576792824]
  kernel_rfl
theorem runE (w : World) (os : OsState) : segRunT treeTable prog w 11 (some (.ref 6)) 1 400 (stT treeD 142 2292 w os) (piecesOf (bodyT.drop 15) envT codeT ⟨33, 0, 33, 13⟩ [topFrame pos0]) =
    some (.next, stT treeE 189 2357 w os, codeT, ⟨98, 0, 118, 45⟩) := by
  rw [PySem.W.Fast.te10110043849684766642, PySem.W.Fast.te14364793385576792824]
  kernel_rfl
end Mine
end
section
open PySem PySem.W PyProof.Rows
set_option maxRecDepth 100000
namespace Mine
set_option maxHeartbeats 0

theorem runD0 (w : World) : ∀ (os : OsState), segRunT treeTable prog w 11 (some (.ref 6)) 1 885 (stT treeC 103 341 w os) (thrO ((standAt dpD).bind fun _ => pieceD 0 none) apD) = some (.ret (.ref 103), stT treeD0 106 494 w os, codeT, dpD) := by
  refine byRow2 "special-get-raises" (P := fun w => ∀ (os : OsState), segRunT treeTable prog w 11 (some (.ref 6)) 1 885 (stT treeC 103 341 w os) (thrO ((standAt dpD).bind fun _ => pieceD 0 none) apD) = some (.ret (.ref 103), stT treeD0 106 494 w os, codeT, dpD)) ?_ ?_ w
  · intro w os
    rw [pieceF_eq, PySem.W.Fast.te10110043849684766642, PySem.W.Fast.te14364793385576792824]
    kernel_rfl
  · intro w os
    rw [pieceF_eq, PySem.W.Fast.te10110043849684766642, PySem.W.Fast.te14364793385576792824]
    kernel_rfl

theorem runD1 (w : World) : ∀ (os : OsState), segRunT treeTable prog w 11 (some (.ref 6)) 1 991 (stT treeD0 106 494 w os) (thrO (pieceD 1 (some 103)) dpD) = some (.ret (.ref 103), stT treeD1 109 647 w os, codeT, dpD) := by
  refine byRow2 "special-get-raises" (P := fun w => ∀ (os : OsState), segRunT treeTable prog w 11 (some (.ref 6)) 1 991 (stT treeD0 106 494 w os) (thrO (pieceD 1 (some 103)) dpD) = some (.ret (.ref 103), stT treeD1 109 647 w os, codeT, dpD)) ?_ ?_ w
  · intro w os
    rw [pieceF_eq, PySem.W.Fast.te10110043849684766642, PySem.W.Fast.te14364793385576792824]
    kernel_rfl
  · intro w os
    rw [pieceF_eq, PySem.W.Fast.te10110043849684766642, PySem.W.Fast.te14364793385576792824]
    kernel_rfl

theorem runD2 (w : World) : ∀ (os : OsState), segRunT treeTable prog w 11 (some (.ref 6)) 1 991 (stT treeD1 109 647 w os) (thrO (pieceD 2 (some 103)) dpD) = some (.ret (.ref 103), stT treeD2 112 800 w os, codeT, dpD) := by
  refine byRow2 "special-get-raises" (P := fun w => ∀ (os : OsState), segRunT treeTable prog w 11 (some (.ref 6)) 1 991 (stT treeD1 109 647 w os) (thrO (pieceD 2 (some 103)) dpD) = some (.ret (.ref 103), stT treeD2 112 800 w os, codeT, dpD)) ?_ ?_ w
  · intro w os
    rw [pieceF_eq, PySem.W.Fast.te10110043849684766642, PySem.W.Fast.te14364793385576792824]
    kernel_rfl
  · intro w os
    rw [pieceF_eq, PySem.W.Fast.te10110043849684766642, PySem.W.Fast.te14364793385576792824]
    kernel_rfl

theorem runD3 (w : World) : ∀ (os : OsState), segRunT treeTable prog w 11 (some (.ref 6)) 1 991 (stT treeD2 112 800 w os) (thrO (pieceD 3 (some 103)) dpD) = some (.ret (.ref 103), stT treeD3 115 953 w os, codeT, dpD) := by
  refine byRow2 "special-get-raises" (P := fun w => ∀ (os : OsState), segRunT treeTable prog w 11 (some (.ref 6)) 1 991 (stT treeD2 112 800 w os) (thrO (pieceD 3 (some 103)) dpD) = some (.ret (.ref 103), stT treeD3 115 953 w os, codeT, dpD)) ?_ ?_ w
  · intro w os
    rw [pieceF_eq, PySem.W.Fast.te10110043849684766642, PySem.W.Fast.te14364793385576792824]
    kernel_rfl
  · intro w os
    rw [pieceF_eq, PySem.W.Fast.te10110043849684766642, PySem.W.Fast.te14364793385576792824]
    kernel_rfl

end Mine
end
section
open PySem PySem.W PyProof.Rows
set_option maxRecDepth 100000
namespace Mine
set_option maxHeartbeats 0

theorem runD4 (w : World) : ∀ (os : OsState), segRunT treeTable prog w 11 (some (.ref 6)) 1 991 (stT treeD3 115 953 w os) (thrO (pieceD 4 (some 103)) dpD) = some (.ret (.ref 103), stT treeD4 118 1106 w os, codeT, dpD) := by
  refine byRow2 "special-get-raises" (P := fun w => ∀ (os : OsState), segRunT treeTable prog w 11 (some (.ref 6)) 1 991 (stT treeD3 115 953 w os) (thrO (pieceD 4 (some 103)) dpD) = some (.ret (.ref 103), stT treeD4 118 1106 w os, codeT, dpD)) ?_ ?_ w
  · intro w os
    rw [pieceF_eq, PySem.W.Fast.te10110043849684766642, PySem.W.Fast.te14364793385576792824]
    kernel_rfl
  · intro w os
    rw [pieceF_eq, PySem.W.Fast.te10110043849684766642, PySem.W.Fast.te14364793385576792824]
    kernel_rfl

theorem runD5 (w : World) : ∀ (os : OsState), segRunT treeTable prog w 11 (some (.ref 6)) 1 991 (stT treeD4 118 1106 w os) (thrO (pieceD 5 (some 103)) dpD) = some (.ret (.ref 103), stT treeD5 121 1259 w os, codeT, dpD) := by
  refine byRow2 "special-get-raises" (P := fun w => ∀ (os : OsState), segRunT treeTable prog w 11 (some (.ref 6)) 1 991 (stT treeD4 118 1106 w os) (thrO (pieceD 5 (some 103)) dpD) = some (.ret (.ref 103), stT treeD5 121 1259 w os, codeT, dpD)) ?_ ?_ w
  · intro w os
    rw [pieceF_eq, PySem.W.Fast.te10110043849684766642, PySem.W.Fast.te14364793385576792824]
    kernel_rfl
  · intro w os
    rw [pieceF_eq, PySem.W.Fast.te10110043849684766642, PySem.W.Fast.te14364793385576792824]
    kernel_rfl

theorem runD6 (w : World) : ∀ (os : OsState), segRunT treeTable prog w 11 (some (.ref 6)) 1 991 (stT treeD5 121 1259 w os) (thrO (pieceD 6 (some 103)) dpD) = some (.ret (.ref 103), stT treeD6 124 1412 w os, codeT, dpD) := by
  refine byRow2 "special-get-raises" (P := fun w => ∀ (os : OsState), segRunT treeTable prog w 11 (some (.ref 6)) 1 991 (stT treeD5 121 1259 w os) (thrO (pieceD 6 (some 103)) dpD) = some (.ret (.ref 103), stT treeD6 124 1412 w os, codeT, dpD)) ?_ ?_ w
  · intro w os
    rw [pieceF_eq, PySem.W.Fast.te10110043849684766642, PySem.W.Fast.te14364793385576792824]
    kernel_rfl
  · intro w os
    rw [pieceF_eq, PySem.W.Fast.te10110043849684766642, PySem.W.Fast.te14364793385576792824]
    kernel_rfl

theorem runD7 (w : World) : ∀ (os : OsState), segRunT treeTable prog w 11 (some (.ref 6)) 1 991 (stT treeD6 124 1412 w os) (thrO (pieceD 7 (some 103)) dpD) = some (.ret (.ref 103), stT treeD7 127 1565 w os, codeT, dpD) := by
  refine byRow2 "special-get-raises" (P := fun w => ∀ (os : OsState), segRunT treeTable prog w 11 (some (.ref 6)) 1 991 (stT treeD6 124 1412 w os) (thrO (pieceD 7 (some 103)) dpD) = some (.ret (.ref 103), stT treeD7 127 1565 w os, codeT, dpD)) ?_ ?_ w
  · intro w os
    rw [pieceF_eq, PySem.W.Fast.te10110043849684766642, PySem.W.Fast.te14364793385576792824]
    kernel_rfl
  · intro w os
    rw [pieceF_eq, PySem.W.Fast.te10110043849684766642, PySem.W.Fast.te14364793385576792824]
    kernel_rfl

end Mine
end
section
open PySem PySem.W PyProof.Rows
set_option maxRecDepth 100000
namespace Mine
set_option maxHeartbeats 0

theorem runD8 (w : World) : ∀ (os : OsState), segRunT treeTable prog w 11 (some (.ref 6)) 1 991 (stT treeD7 127 1565 w os) (thrO (pieceD 8 (some 103)) dpD) = some (.ret (.ref 103), stT treeD8 130 1718 w os, codeT, dpD) := by
  refine byRow2 "special-get-raises" (P := fun w => ∀ (os : OsState), segRunT treeTable prog w 11 (some (.ref 6)) 1 991 (stT treeD7 127 1565 w os) (thrO (pieceD 8 (some 103)) dpD) = some (.ret (.ref 103), stT treeD8 130 1718 w os, codeT, dpD)) ?_ ?_ w
  · intro w os
    rw [pieceF_eq, PySem.W.Fast.te10110043849684766642, PySem.W.Fast.te14364793385576792824]
    kernel_rfl
  · intro w os
    rw [pieceF_eq, PySem.W.Fast.te10110043849684766642, PySem.W.Fast.te14364793385576792824]
    kernel_rfl

theorem runD9 (w : World) : ∀ (os : OsState), segRunT treeTable prog w 11 (some (.ref 6)) 1 991 (stT treeD8 130 1718 w os) (thrO (pieceD 9 (some 103)) dpD) = some (.ret (.ref 103), stT treeD9 133 1871 w os, codeT, dpD) := by
  refine byRow2 "special-get-raises" (P := fun w => ∀ (os : OsState), segRunT treeTable prog w 11 (some (.ref 6)) 1 991 (stT treeD8 130 1718 w os) (thrO (pieceD 9 (some 103)) dpD) = some (.ret (.ref 103), stT treeD9 133 1871 w os, codeT, dpD)) ?_ ?_ w
  · intro w os
    rw [pieceF_eq, PySem.W.Fast.te10110043849684766642, PySem.W.Fast.te14364793385576792824]
    kernel_rfl
  · intro w os
    rw [pieceF_eq, PySem.W.Fast.te10110043849684766642, PySem.W.Fast.te14364793385576792824]
    kernel_rfl

theorem runD10 (w : World) : ∀ (os : OsState), segRunT treeTable prog w 11 (some (.ref 6)) 1 991 (stT treeD9 133 1871 w os) (thrO (pieceD 10 (some 103)) dpD) = some (.ret (.ref 103), stT treeD10 136 2024 w os, codeT, dpD) := by
  refine byRow2 "special-get-raises" (P := fun w => ∀ (os : OsState), segRunT treeTable prog w 11 (some (.ref 6)) 1 991 (stT treeD9 133 1871 w os) (thrO (pieceD 10 (some 103)) dpD) = some (.ret (.ref 103), stT treeD10 136 2024 w os, codeT, dpD)) ?_ ?_ w
  · intro w os
    rw [pieceF_eq, PySem.W.Fast.te10110043849684766642, PySem.W.Fast.te14364793385576792824]
    kernel_rfl
  · intro w os
    rw [pieceF_eq, PySem.W.Fast.te10110043849684766642, PySem.W.Fast.te14364793385576792824]
    kernel_rfl

theorem runD11 (w : World) : ∀ (os : OsState), segRunT treeTable prog w 11 (some (.ref 6)) 1 991 (stT treeD10 136 2024 w os) (thrO (pieceD 11 (some 103)) dpD) = some (.ret (.ref 103), stT treeD11 139 2177 w os, codeT, dpD) := by
  refine byRow2 "special-get-raises" (P := fun w => ∀ (os : OsState), segRunT treeTable prog w 11 (some (.ref 6)) 1 991 (stT treeD10 136 2024 w os) (thrO (pieceD 11 (some 103)) dpD) = some (.ret (.ref 103), stT treeD11 139 2177 w os, codeT, dpD)) ?_ ?_ w
  · intro w os
    rw [pieceF_eq, PySem.W.Fast.te10110043849684766642, PySem.W.Fast.te14364793385576792824]
    kernel_rfl
  · intro w os
    rw [pieceF_eq, PySem.W.Fast.te10110043849684766642, PySem.W.Fast.te14364793385576792824]
    kernel_rfl

theorem runD12 (w : World) : ∀ (os : OsState), segRunT treeTable prog w 11 (some (.ref 6)) 1 743 (stT treeD11 139 2177 w os) (thrO (pieceD 12 (some 103)) dpD) = some (.ret (.ref 103), stT treeDz 142 2291 w os, codeT, dpD) := by
  refine byRow2 "special-get-raises" (P := fun w => ∀ (os : OsState), segRunT treeTable prog w 11 (some (.ref 6)) 1 743 (stT treeD11 139 2177 w os) (thrO (pieceD 12 (some 103)) dpD) = some (.ret (.ref 103), stT treeDz 142 2291 w os, codeT, dpD)) ?_ ?_ w
  · intro w os
    rw [pieceF_eq, PySem.W.Fast.te10110043849684766642, PySem.W.Fast.te14364793385576792824]
    kernel_rfl
  · intro w os
    rw [pieceF_eq, PySem.W.Fast.te10110043849684766642, PySem.W.Fast.te14364793385576792824]
    kernel_rfl

end Mine
end
section
open PySem PySem.W PyProof.Rows
set_option maxRecDepth 100000
namespace Mine
theorem stD_is : stD = .Assign [.Name nmD npD] (.Dict (esD.map some) vsD dpD) apD := by kernel_rfl
theorem exec_assign_dict (n : Str) (np : Pos) (ks : List (Option Expr)) (vs : List Expr) (dp ap : Pos) (env : Env) : exec (.Assign [.Name n np] (.Dict ks vs dp) ap) env =
    (standAt ap).bind fun _ => (swapsWithSole [.Name n np] (.Dict ks vs dp) ap.line env).bind fun b => if b = true then (evalThenUse (.Dict ks vs dp) env fun v => assignAll v ((assignEach [.Name n np] env).map (·.2))).bind fun _ => .pure .next else
      ((standAt dp).bind fun _ => dictDisplay ((evalEachOpt ks env).zip ((evalEach vs env).map fun v => do let x ← v; standAt dp; pure x))).bind fun v =>
        (swappedStores [.Name n np] (.Dict ks vs dp) env).bind fun s => assignStores env v s ((assignEach [.Name n np] env).map (·.2)) := by with_unfolding_all rfl
theorem psD_len : psD.length = 650 := by
  show (List.zipWith _ _ _).length = _
  rw [List.length_zipWith, show esD.length = 650 from by kernel_rfl, show vsD.length = 650 from by kernel_rfl]; rfl
theorem displayD : dictDisplay (psD.map someFst) = (chunkedD allD none).bind fun m => match m with | some d => .pure (.ref d) | none => newDict := by
  have h := display_chunks (toChunks 38 psD) (psD.drop 646) (toChunks_length 38 psD (by rw [psD_len]; decide)) (by rw [List.length_drop, psD_len]; decide)
  rw [show (toChunks 38 psD).flatten ++ psD.drop 646 = psD from toChunks_flatten 38 psD] at h
  exact h
theorem allD_len : allD.length = 39 := by
  unfold allD
  rw [List.length_append, List.length_singleton]
  have : ∀ (n : Nat) (l : List Pair), (toChunks n l).length = n := fun n => by
    induction n with
    | zero => intro l; rfl
    | succ n ih => intro l; show (_ :: _).length = _; rw [List.length_cons, ih]
  rw [this]
theorem rest_chunks : ∀ (n j : Nat) (m : Option Addr), 3 * j + 3 * n = 39 → chunkedD (allD.drop (3 * j)) m = restD j n m
  | 0, j, m, h => by
    rw [List.drop_eq_nil_of_le (by rw [allD_len]; omega)]; rfl
  | n + 1, j, m, h => by
    have e : allD.drop (3 * j) = (allD.drop (3 * j)).take 3 ++ allD.drop (3 * (j + 1)) := by
      rw [show 3 * (j + 1) = 3 * j + 3 by omega, ← List.drop_drop, List.take_append_drop]
    rw [e, chunkedD_append]
    show _ = (pieceD j m).bind (restD (j + 1) n)
    exact congrArg _ (funext fun m' => rest_chunks n (j + 1) m' (by omega))
noncomputable def gD (j : Nat) (m : Option Addr) : Sem Flow := (restD j (13 - j) m).bind postD
theorem gD_step (j : Nat) (m : Option Addr) (h : j < 13) : gD j m = (pieceD j m).bind (gD (j + 1)) := by
  unfold gD
  obtain ⟨n, hn⟩ : ∃ n, 13 - j = n + 1 := ⟨12 - j, by omega⟩
  rw [hn, show 13 - (j + 1) = n by omega]
  show ((pieceD j m).bind (restD (j + 1) n)).bind postD = _
  rw [Sem.bind_assoc]
theorem bindL {α β γ δ : Type} {S : Sem Unit} {A : Sem α} {conv : α → Sem β} {K2 : β → Sem γ} {B : Sem δ} {g : δ → Sem γ} (h : A.bind (fun m => (conv m).bind K2) = B.bind g) :
    (S.bind fun _ => A.bind conv).bind K2 = (S.bind fun _ => B).bind g := by
  rw [Sem.bind_assoc S, Sem.bind_assoc S]
  exact congrArg (Sem.bind S) (funext fun _ => (Sem.bind_assoc A conv K2).trans h)
theorem ifL {β : Type} {S : Sem Unit} {b : Unit → Sem Bool} {J X Y : Sem β} (h : X = Y) : (S.bind fun u => (b u).bind fun b => if b = true then J else X) = (S.bind b).bind fun b => if b = true then J else Y := by
  rw [Sem.bind_assoc S, h]
theorem displayD' : dictDisplay ((evalEachOpt (esD.map some) envT).zip ((evalEach vsD envT).map fun v => do let x ← v; standAt dpD; pure x)) =
    (restD 0 13 none).bind fun m => match m with | some d => .pure (.ref d) | none => newDict := by
  rw [evalEachOpt_some, evalEach_map, zip_pairs, show List.zipWith (pairOf dpD envT) esD vsD = psD from rfl, displayD]
  have := rest_chunks 13 0 none (by omega)
  rw [show allD.drop (3 * 0) = allD from rfl] at this
  rw [this]
theorem exec_D : exec stD envT = preD.bind fun b => if b = true then junkD else ((standAt dpD).bind fun _ => pieceD 0 none).bind (gD 1) := by
  rw [stD_is, exec_assign_dict]
  unfold preD
  refine ifL ?_
  rw [displayD']
  exact bindL (gD_step 0 none (by omega))
theorem gD_end (m : Option Addr) : gD 13 m = postD m := rfl
theorem seg_end {tb : String → Option Builtin} {p : Program} {w : World} {n₀ : Nat} {ann : Option Value} {q : Pos} {n N : Nat} {s s' r : Shared} {x : Sem Flow} {env : Env} {rest : List Stmt} {c c' : Code} {pos p' : Pos}
    (h : segRun tb p w n₀ ann 1 n s ⟨x.wrap doneF deadEnd id id, c, pos, [topFrame q]⟩ = some (.next, s', c', p'))
    (k : topRun tb p w n₀ ann N s' (restOf rest env c' p' [topFrame q]) = some r) :
    topRun tb p w n₀ ann (n + N) s ⟨x.wrap (fun f => match f with | .next => (execs rest env).wrap doneF (leaveH env) id id | f => doneF f) (leaveH env) id id, c, pos, [topFrame q]⟩ = some r := by
  obtain ⟨a, ha, hN⟩ := seg_top (res := id) (K' := fun f => match f with | .next => (execs rest env).wrap doneF (leaveH env) id id | f => doneF f) (H' := leaveH env) (B := [topFrame q]) rfl n s ⟨x.wrap doneF deadEnd id id, c, pos, [topFrame q]⟩
    ⟨x.wrap (fun f => match f with | .next => (execs rest env).wrap doneF (leaveH env) id id | f => doneF f) (leaveH env) id id, c, pos, [topFrame q]⟩ _ _ _ _ ⟨rfl, rfl, .inl ⟨rfl, rfl, x, rfl, rfl⟩⟩ h
  obtain rfl : a = .next := ha
  exact hN N r k
theorem resO_some {a : Option Addr} {d : Addr} (h : resO a = .ret (.ref d)) : a = some d := by
  cases a with
  | none => cases h
  | some a => cases h; rfl
end Mine
end
section
open PySem PySem.W PyProof.Rows
set_option maxRecDepth 100000
namespace Mine
theorem runPre (w : World) (os : OsState) : segRunT treeTable prog w 11 (some (.ref 6)) 1 2 (stT treeC 103 341 w os) ⟨preD.wrap (fun a => doneF (resB a)) deadEnd id id, codeT, ⟨31, 0, 32, 30⟩, [topFrame pos0]⟩ =
    some (.next, stT treeC 103 341 w os, codeT, apD) := by
  rw [PySem.W.Fast.te10110043849684766642, PySem.W.Fast.te14364793385576792824]
  kernel_rfl
theorem runPost (w : World) (os : OsState) : segRunT treeTable prog w 11 (some (.ref 6)) 1 8 (stT treeDz 142 2291 w os) ⟨(postD (some 103)).wrap doneF deadEnd id id, codeT, dpD, [topFrame pos0]⟩ =
    some (.next, stT treeD 142 2292 w os, codeT, ⟨33, 0, 33, 13⟩) := by
  rw [PySem.W.Fast.te10110043849684766642, PySem.W.Fast.te14364793385576792824]
  kernel_rfl
abbrev ann0 : Option Value := some (.ref 6)
theorem chainD {w : World} {os : OsState} {j n k N : Nat} {T T' : Params → BT} {a b c d : Nat} {m : Option Addr} {p : Pos} {K : Flow → Sem Fin} {H : Value → Sem Fin} {r : Shared} (hj : j < 13)
    (h : segRunT treeTable prog w 11 (some (.ref 6)) 1 n (stT T a b w os) (thrO (pieceD j m) p) = some (.ret (.ref 103), stT T' c d w os, codeT, dpD))
    (q : topRun treeTable prog w 11 ann0 N (stT T' c d w os).abs ⟨(gD (j + 1) (some 103)).wrap K H id id, codeT, dpD, [topFrame pos0]⟩ = some r) (e : k = n + N) :
    topRun treeTable prog w 11 ann0 k (stT T a b w os).abs ⟨(gD j m).wrap K H id id, codeT, p, [topFrame pos0]⟩ = some r := by
  rw [gD_step j m hj, e]
  exact seg_bind (segRun_of h) fun a ha => by rw [resO_some ha]; exact q
theorem topD {w : World} {os : OsState} {N : Nat} {rest : List Stmt} {r : Shared} (k : topRun treeTable prog w 11 ann0 N (stT treeD 142 2292 w os).abs (restOf rest envT codeT ⟨33, 0, 33, 13⟩ [topFrame pos0]) = some r) :
    topRun treeTable prog w 11 ann0 (12539 + N) (stT treeC 103 341 w os).abs (restOf (stD :: rest) envT codeT ⟨31, 0, 32, 30⟩ [topFrame pos0]) = some r := by
  unfold restOf
  rw [execs_cons_wrap, exec_D]
  refine (show 12539 + N = 2 + (12537 + N) by omega) ▸ seg_bind (segRun_of (runPre w os)) fun b hb => ?_
  cases b
  · rw [if_neg (by decide)]
    refine (show 12537 + N = 885 + (11652 + N) by omega) ▸ seg_bind (segRun_of (runD0 w os)) fun a ha => ?_
    rw [resO_some ha]
    have z := seg_end (n := 8) (segRun_of (runPost w os)) k
    rw [← gD_end] at z
    have z12 := chainD (k := 751 + N) (by omega) (runD12 w os) z (by omega)
    have z11 := chainD (k := 1742 + N) (by omega) (runD11 w os) z12 (by omega)
    have z10 := chainD (k := 2733 + N) (by omega) (runD10 w os) z11 (by omega)
    have z9 := chainD (k := 3724 + N) (by omega) (runD9 w os) z10 (by omega)
    have z8 := chainD (k := 4715 + N) (by omega) (runD8 w os) z9 (by omega)
    have z7 := chainD (k := 5706 + N) (by omega) (runD7 w os) z8 (by omega)
    have z6 := chainD (k := 6697 + N) (by omega) (runD6 w os) z7 (by omega)
    have z5 := chainD (k := 7688 + N) (by omega) (runD5 w os) z6 (by omega)
    have z4 := chainD (k := 8679 + N) (by omega) (runD4 w os) z5 (by omega)
    have z3 := chainD (k := 9670 + N) (by omega) (runD3 w os) z4 (by omega)
    have z2 := chainD (k := 10661 + N) (by omega) (runD2 w os) z3 (by omega)
    exact chainD (k := 11652 + N) (by omega) (runD1 w os) z2 (by omega)
  · cases hb
end Mine
end
section
open PySem PySem.W PyProof.Rows
set_option maxRecDepth 100000
namespace Mine
theorem body_split : bodyT = bodyT.take 12 ++ ((bodyT.drop 12).take 1 ++ ((bodyT.drop 13).take 1 ++ (stD :: (bodyT.drop 15 ++ [])))) := by kernel_rfl
theorem block_run (w : World) (s : Shared) : segRun treeTable prog w 11 ann0 1 1 s (blockOf bodyT envT codeT pos0 [topFrame pos0]) = some (.next, s, codeT, pos0) := by kernel_rfl
theorem fin_run (w : World) (os : OsState) : topRun treeTable prog w 11 ann0 2 (stT treeE 189 2357 w os).abs ⟨doneF .next, codeT, ⟨98, 0, 118, 45⟩, [topFrame pos0]⟩ = some (stT treeE 189 2357 w os).abs := by kernel_rfl
theorem top_run (w : World) (os : OsState) : topRun treeTable prog w 11 ann0 14400 ⟨boot_heap w.params, Array.mk [], boot_drawn, boot_toks, os⟩ (topStub prog) = some (stT treeE 189 2357 w os).abs := by
  have zE := piece_app (rest := []) (segRun_of (runE w os)) (piece_nil (fin_run w os))
  have zD := topD zE
  have zC := piece_app (segRun_of (runC w os)) zD
  have zB := piece_app (segRun_of (runB w os)) zC
  have zA := piece_app (segRun_of (runA w os)) zB
  rw [← body_split] at zA
  have z0 := piece_block (block_run w _) zA
  have z := go_top (pre_run w os) z0
  have y := topRun_mono 85 _ _ _ _ z
  have e : 12 + (1 + (322 + (999 + (40 + (12539 + (400 + 2)))))) + 85 = 14400 := by decide
  rw [e] at y
  exact y
end Mine
end
section
open PySem PySem.W PyProof.Rows
set_option maxRecDepth 100000
namespace Mine
noncomputable section
noncomputable def bS1 : List Stmt := by
  refine' (fun (b : List Stmt) (_ : fBody (stm 1) = b) => b) _ ?h
  case h => conv => lhs; whnf
noncomputable def pS1 : Arguments := by
  refine' (fun (b : Arguments) (_ : fArgs (stm 1) = b) => b) _ ?h
  case h => conv => lhs; whnf
noncomputable def sS1 : Scope := by
  refine' (fun (b : Scope) (_ : fScope (stm 1) = b) => b) _ ?h
  case h => conv => lhs; whnf
noncomputable def bS2 : List Stmt := by
  refine' (fun (b : List Stmt) (_ : fBody (stm 2) = b) => b) _ ?h
  case h => conv => lhs; whnf
noncomputable def pS2 : Arguments := by
  refine' (fun (b : Arguments) (_ : fArgs (stm 2) = b) => b) _ ?h
  case h => conv => lhs; whnf
noncomputable def sS2 : Scope := by
  refine' (fun (b : Scope) (_ : fScope (stm 2) = b) => b) _ ?h
  case h => conv => lhs; whnf
noncomputable def bS3 : List Stmt := by
  refine' (fun (b : List Stmt) (_ : fBody (stm 3) = b) => b) _ ?h
  case h => conv => lhs; whnf
noncomputable def pS3 : Arguments := by
  refine' (fun (b : Arguments) (_ : fArgs (stm 3) = b) => b) _ ?h
  case h => conv => lhs; whnf
noncomputable def sS3 : Scope := by
  refine' (fun (b : Scope) (_ : fScope (stm 3) = b) => b) _ ?h
  case h => conv => lhs; whnf
noncomputable def bS4 : List Stmt := by
  refine' (fun (b : List Stmt) (_ : fBody (stm 4) = b) => b) _ ?h
  case h => conv => lhs; whnf
noncomputable def pS4 : Arguments := by
  refine' (fun (b : Arguments) (_ : fArgs (stm 4) = b) => b) _ ?h
  case h => conv => lhs; whnf
noncomputable def sS4 : Scope := by
  refine' (fun (b : Scope) (_ : fScope (stm 4) = b) => b) _ ?h
  case h => conv => lhs; whnf
noncomputable def bS5 : List Stmt := by
  refine' (fun (b : List Stmt) (_ : fBody (stm 5) = b) => b) _ ?h
  case h => conv => lhs; whnf
noncomputable def pS5 : Arguments := by
  refine' (fun (b : Arguments) (_ : fArgs (stm 5) = b) => b) _ ?h
  case h => conv => lhs; whnf
noncomputable def sS5 : Scope := by
  refine' (fun (b : Scope) (_ : fScope (stm 5) = b) => b) _ ?h
  case h => conv => lhs; whnf
noncomputable def bS6 : List Stmt := by
  refine' (fun (b : List Stmt) (_ : fBody (stm 6) = b) => b) _ ?h
  case h => conv => lhs; whnf
noncomputable def pS6 : Arguments := by
  refine' (fun (b : Arguments) (_ : fArgs (stm 6) = b) => b) _ ?h
  case h => conv => lhs; whnf
noncomputable def sS6 : Scope := by
  refine' (fun (b : Scope) (_ : fScope (stm 6) = b) => b) _ ?h
  case h => conv => lhs; whnf
noncomputable def bS7 : List Stmt := by
  refine' (fun (b : List Stmt) (_ : fBody (stm 7) = b) => b) _ ?h
  case h => conv => lhs; whnf
noncomputable def pS7 : Arguments := by
  refine' (fun (b : Arguments) (_ : fArgs (stm 7) = b) => b) _ ?h
  case h => conv => lhs; whnf
noncomputable def sS7 : Scope := by
  refine' (fun (b : Scope) (_ : fScope (stm 7) = b) => b) _ ?h
  case h => conv => lhs; whnf
noncomputable def bS8 : List Stmt := by
  refine' (fun (b : List Stmt) (_ : fBody (stm 8) = b) => b) _ ?h
  case h => conv => lhs; whnf
noncomputable def pS8 : Arguments := by
  refine' (fun (b : Arguments) (_ : fArgs (stm 8) = b) => b) _ ?h
  case h => conv => lhs; whnf
noncomputable def sS8 : Scope := by
  refine' (fun (b : Scope) (_ : fScope (stm 8) = b) => b) _ ?h
  case h => conv => lhs; whnf
noncomputable def bS9 : List Stmt := by
  refine' (fun (b : List Stmt) (_ : fBody (stm 9) = b) => b) _ ?h
  case h => conv => lhs; whnf
noncomputable def pS9 : Arguments := by
  refine' (fun (b : Arguments) (_ : fArgs (stm 9) = b) => b) _ ?h
  case h => conv => lhs; whnf
noncomputable def sS9 : Scope := by
  refine' (fun (b : Scope) (_ : fScope (stm 9) = b) => b) _ ?h
  case h => conv => lhs; whnf
noncomputable def bS10 : List Stmt := by
  refine' (fun (b : List Stmt) (_ : fBody (stm 10) = b) => b) _ ?h
  case h => conv => lhs; whnf
noncomputable def pS10 : Arguments := by
  refine' (fun (b : Arguments) (_ : fArgs (stm 10) = b) => b) _ ?h
  case h => conv => lhs; whnf
noncomputable def sS10 : Scope := by
  refine' (fun (b : Scope) (_ : fScope (stm 10) = b) => b) _ ?h
  case h => conv => lhs; whnf
noncomputable def bS13 : List Stmt := by
  refine' (fun (b : List Stmt) (_ : fBody (stm 13) = b) => b) _ ?h
  case h => conv => lhs; whnf
noncomputable def pS13 : Arguments := by
  refine' (fun (b : Arguments) (_ : fArgs (stm 13) = b) => b) _ ?h
  case h => conv => lhs; whnf
noncomputable def sS13 : Scope := by
  refine' (fun (b : Scope) (_ : fScope (stm 13) = b) => b) _ ?h
  case h => conv => lhs; whnf
noncomputable def bS15 : List Stmt := by
  refine' (fun (b : List Stmt) (_ : fBody (stm 15) = b) => b) _ ?h
  case h => conv => lhs; whnf
noncomputable def pS15 : Arguments := by
  refine' (fun (b : Arguments) (_ : fArgs (stm 15) = b) => b) _ ?h
  case h => conv => lhs; whnf
noncomputable def sS15 : Scope := by
  refine' (fun (b : Scope) (_ : fScope (stm 15) = b) => b) _ ?h
  case h => conv => lhs; whnf
noncomputable def bS16 : List Stmt := by
  refine' (fun (b : List Stmt) (_ : fBody (stm 16) = b) => b) _ ?h
  case h => conv => lhs; whnf
noncomputable def pS16 : Arguments := by
  refine' (fun (b : Arguments) (_ : fArgs (stm 16) = b) => b) _ ?h
  case h => conv => lhs; whnf
noncomputable def sS16 : Scope := by
  refine' (fun (b : Scope) (_ : fScope (stm 16) = b) => b) _ ?h
  case h => conv => lhs; whnf
noncomputable def bS18 : List Stmt := by
  refine' (fun (b : List Stmt) (_ : fBody (stm 18) = b) => b) _ ?h
  case h => conv => lhs; whnf
noncomputable def pS18 : Arguments := by
  refine' (fun (b : Arguments) (_ : fArgs (stm 18) = b) => b) _ ?h
  case h => conv => lhs; whnf
noncomputable def sS18 : Scope := by
  refine' (fun (b : Scope) (_ : fScope (stm 18) = b) => b) _ ?h
  case h => conv => lhs; whnf
noncomputable def bS19 : List Stmt := by
  refine' (fun (b : List Stmt) (_ : fBody (stm 19) = b) => b) _ ?h
  case h => conv => lhs; whnf
noncomputable def pS19 : Arguments := by
  refine' (fun (b : Arguments) (_ : fArgs (stm 19) = b) => b) _ ?h
  case h => conv => lhs; whnf
noncomputable def sS19 : Scope := by
  refine' (fun (b : Scope) (_ : fScope (stm 19) = b) => b) _ ?h
  case h => conv => lhs; whnf
noncomputable def bS20 : List Stmt := by
  refine' (fun (b : List Stmt) (_ : fBody (stm 20) = b) => b) _ ?h
  case h => conv => lhs; whnf
noncomputable def pS20 : Arguments := by
  refine' (fun (b : Arguments) (_ : fArgs (stm 20) = b) => b) _ ?h
  case h => conv => lhs; whnf
noncomputable def sS20 : Scope := by
  refine' (fun (b : Scope) (_ : fScope (stm 20) = b) => b) _ ?h
  case h => conv => lhs; whnf
noncomputable def bS21 : List Stmt := by
  refine' (fun (b : List Stmt) (_ : fBody (stm 21) = b) => b) _ ?h
  case h => conv => lhs; whnf
noncomputable def pS21 : Arguments := by
  refine' (fun (b : Arguments) (_ : fArgs (stm 21) = b) => b) _ ?h
  case h => conv => lhs; whnf
noncomputable def sS21 : Scope := by
  refine' (fun (b : Scope) (_ : fScope (stm 21) = b) => b) _ ?h
  case h => conv => lhs; whnf
noncomputable def bS22 : List Stmt := by
  refine' (fun (b : List Stmt) (_ : fBody (stm 22) = b) => b) _ ?h
  case h => conv => lhs; whnf
noncomputable def pS22 : Arguments := by
  refine' (fun (b : Arguments) (_ : fArgs (stm 22) = b) => b) _ ?h
  case h => conv => lhs; whnf
noncomputable def sS22 : Scope := by
  refine' (fun (b : Scope) (_ : fScope (stm 22) = b) => b) _ ?h
  case h => conv => lhs; whnf
noncomputable def KP (P : Params) : Frag :=
  (nat_lit 2, boot_o_2 P) ::
  (nat_lit 3, o3E P) ::
  (nat_lit 15, o15A P) ::
  (nat_lit 17, o17A P) ::
  (nat_lit 18, o18A P) ::
  (nat_lit 20, o20A P) ::
  (nat_lit 21, ⟨.type "function", none, .func (fnOf (Str.ofString "eq") (Str.ofString "eq") (pS1) (bS1) (sS1) .none .none .none (.str (Str.ofString "cpy313.operator") 187) none (.ref 20) .none), ⟨[]⟩⟩) ::
  (nat_lit 22, o22A P) ::
  (nat_lit 24, o24A P) ::
  (nat_lit 25, o25A P) ::
  (nat_lit 27, o27A P) ::
  (nat_lit 28, ⟨.type "function", none, .func (fnOf (Str.ofString "add") (Str.ofString "add") (pS2) (bS2) (sS2) .none .none .none (.str (Str.ofString "cpy313.operator") 187) none (.ref 27) .none), ⟨[]⟩⟩) ::
  (nat_lit 29, o29A P) ::
  (nat_lit 31, o31A P) ::
  (nat_lit 32, o32A P) ::
  (nat_lit 34, o34A P) ::
  (nat_lit 35, ⟨.type "function", none, .func (fnOf (Str.ofString "and_") (Str.ofString "and_") (pS3) (bS3) (sS3) .none .none .none (.str (Str.ofString "cpy313.operator") 187) none (.ref 34) .none), ⟨[]⟩⟩) ::
  (nat_lit 36, o36A P) ::
  (nat_lit 38, o38A P) ::
  (nat_lit 39, o39A P) ::
  (nat_lit 41, o41A P) ::
  (nat_lit 42, ⟨.type "function", none, .func (fnOf (Str.ofString "lshift") (Str.ofString "lshift") (pS4) (bS4) (sS4) .none .none .none (.str (Str.ofString "cpy313.operator") 187) none (.ref 41) .none), ⟨[]⟩⟩) ::
  (nat_lit 43, o43A P) ::
  (nat_lit 45, o45A P) ::
  (nat_lit 46, o46A P) ::
  (nat_lit 48, o48A P) ::
  (nat_lit 49, ⟨.type "function", none, .func (fnOf (Str.ofString "mul") (Str.ofString "mul") (pS5) (bS5) (sS5) .none .none .none (.str (Str.ofString "cpy313.operator") 187) none (.ref 48) .none), ⟨[]⟩⟩) ::
  (nat_lit 50, o50A P) ::
  (nat_lit 52, o52A P) ::
  (nat_lit 53, o53A P) ::
  (nat_lit 55, o55A P) ::
  (nat_lit 56, ⟨.type "function", none, .func (fnOf (Str.ofString "rshift") (Str.ofString "rshift") (pS6) (bS6) (sS6) .none .none .none (.str (Str.ofString "cpy313.operator") 187) none (.ref 55) .none), ⟨[]⟩⟩) ::
  (nat_lit 57, o57A P) ::
  (nat_lit 59, o59A P) ::
  (nat_lit 60, o60A P) ::
  (nat_lit 62, o62A P) ::
  (nat_lit 63, ⟨.type "function", none, .func (fnOf (Str.ofString "sub") (Str.ofString "sub") (pS7) (bS7) (sS7) .none .none .none (.str (Str.ofString "cpy313.operator") 187) none (.ref 62) .none), ⟨[]⟩⟩) ::
  (nat_lit 64, o64A P) ::
  (nat_lit 66, o66A P) ::
  (nat_lit 67, o67A P) ::
  (nat_lit 69, o69A P) ::
  (nat_lit 70, ⟨.type "function", none, .func (fnOf (Str.ofString "xor") (Str.ofString "xor") (pS8) (bS8) (sS8) .none .none .none (.str (Str.ofString "cpy313.operator") 187) none (.ref 69) .none), ⟨[]⟩⟩) ::
  (nat_lit 71, o71A P) ::
  (nat_lit 73, o73A P) ::
  (nat_lit 74, o74A P) ::
  (nat_lit 76, o76A P) ::
  (nat_lit 77, ⟨.type "function", none, .func (fnOf (Str.ofString "concat") (Str.ofString "concat") (pS9) (bS9) (sS9) .none .none .none (.str (Str.ofString "cpy313.operator") 187) none (.ref 76) .none), ⟨[]⟩⟩) ::
  (nat_lit 78, o78A P) ::
  (nat_lit 80, o80A P) ::
  (nat_lit 81, o81A P) ::
  (nat_lit 83, o83A P) ::
  (nat_lit 84, ⟨.type "function", none, .func (fnOf (Str.ofString "countOf") (Str.ofString "countOf") (pS10) (bS10) (sS10) .none .none .none (.str (Str.ofString "cpy313.operator") 187) none (.ref 83) .none), ⟨[]⟩⟩) ::
  (nat_lit 92, o92B P) ::
  (nat_lit 96, o96C P) ::
  (nat_lit 98, o98C P) ::
  (nat_lit 99, o99C P) ::
  (nat_lit 101, o101C P) ::
  (nat_lit 102, ⟨.type "function", none, .func (fnOf (Str.ofString "in_table_b1") (Str.ofString "in_table_b1") (pS13) (bS13) (sS13) .none .none .none (.str (Str.ofString "cpy313.stringprep") 272) none (.ref 101) .none), ⟨[]⟩⟩) ::
  (nat_lit 103, o103D P) ::
  (nat_lit 142, o142E P) ::
  (nat_lit 144, o144E P) ::
  (nat_lit 145, o145E P) ::
  (nat_lit 147, o147E P) ::
  (nat_lit 148, ⟨.type "function", none, .func (fnOf (Str.ofString "map_table_b3") (Str.ofString "map_table_b3") (pS15) (bS15) (sS15) .none .none .none (.str (Str.ofString "cpy313.stringprep") 272) none (.ref 147) .none), ⟨[]⟩⟩) ::
  (nat_lit 149, o149E P) ::
  (nat_lit 151, o151E P) ::
  (nat_lit 152, o152E P) ::
  (nat_lit 154, o154E P) ::
  (nat_lit 155, ⟨.type "function", none, .func (fnOf (Str.ofString "in_table_c11") (Str.ofString "in_table_c11") (pS16) (bS16) (sS16) .none .none .none (.str (Str.ofString "cpy313.stringprep") 272) none (.ref 154) .none), ⟨[]⟩⟩) ::
  (nat_lit 156, o156E P) ::
  (nat_lit 158, o158E P) ::
  (nat_lit 159, o159E P) ::
  (nat_lit 161, o161E P) ::
  (nat_lit 162, ⟨.type "function", none, .func (fnOf (Str.ofString "_law_gap") (Str.ofString "_law_gap") (pS18) (bS18) (sS18) .none .none .none (.str (Str.ofString "law_pg0226_01") 2307) none (.ref 161) .none), ⟨[]⟩⟩) ::
  (nat_lit 163, o163E P) ::
  (nat_lit 165, o165E P) ::
  (nat_lit 166, o166E P) ::
  (nat_lit 168, o168E P) ::
  (nat_lit 169, ⟨.type "function", none, .func (fnOf (Str.ofString "_law_draw") (Str.ofString "_law_draw") (pS19) (bS19) (sS19) .none .none .none (.str (Str.ofString "law_pg0226_01") 2307) none (.ref 168) .none), ⟨[]⟩⟩) ::
  (nat_lit 170, o170E P) ::
  (nat_lit 172, o172E P) ::
  (nat_lit 173, o173E P) ::
  (nat_lit 175, o175E P) ::
  (nat_lit 176, ⟨.type "function", none, .func (fnOf (Str.ofString "_law_read") (Str.ofString "_law_read") (pS20) (bS20) (sS20) .none .none .none (.str (Str.ofString "law_pg0226_01") 2307) none (.ref 175) .none), ⟨[]⟩⟩) ::
  (nat_lit 177, o177E P) ::
  (nat_lit 179, o179E P) ::
  (nat_lit 180, o180E P) ::
  (nat_lit 182, o182E P) ::
  (nat_lit 183, ⟨.type "function", none, .func (fnOf (Str.ofString "_law_write") (Str.ofString "_law_write") (pS21) (bS21) (sS21) .none .none .none (.str (Str.ofString "law_pg0226_01") 2307) none (.ref 182) .none), ⟨[]⟩⟩) ::
  (nat_lit 184, o184E P) ::
  (nat_lit 187, o187E P) ::
  (nat_lit 188, ⟨.type "function", none, .func (fnOf (Str.ofString "law") (Str.ofString "law") (pS22) (bS22) (sS22) .none .none .none (.str (Str.ofString "law_pg0226_01") 2307) none (.ref 187) .none), ⟨[]⟩⟩) :: []
noncomputable def asK : List Addr := nat_lit 2 :: nat_lit 3 :: nat_lit 15 :: nat_lit 17 :: nat_lit 18 :: nat_lit 20 :: nat_lit 21 :: nat_lit 22 :: nat_lit 24 :: nat_lit 25 :: nat_lit 27 :: nat_lit 28 :: nat_lit 29 :: nat_lit 31 :: nat_lit 32 :: nat_lit 34 :: nat_lit 35 :: nat_lit 36 :: nat_lit 38 :: nat_lit 39 :: nat_lit 41 :: nat_lit 42 :: nat_lit 43 :: nat_lit 45 :: nat_lit 46 :: nat_lit 48 :: nat_lit 49 :: nat_lit 50 :: nat_lit 52 :: nat_lit 53 :: nat_lit 55 :: nat_lit 56 :: nat_lit 57 :: nat_lit 59 :: nat_lit 60 :: nat_lit 62 :: nat_lit 63 :: nat_lit 64 :: nat_lit 66 :: nat_lit 67 :: nat_lit 69 :: nat_lit 70 :: nat_lit 71 :: nat_lit 73 :: nat_lit 74 :: nat_lit 76 :: nat_lit 77 :: nat_lit 78 :: nat_lit 80 :: nat_lit 81 :: nat_lit 83 :: nat_lit 84 :: nat_lit 92 :: nat_lit 96 :: nat_lit 98 :: nat_lit 99 :: nat_lit 101 :: nat_lit 102 :: nat_lit 103 :: nat_lit 142 :: nat_lit 144 :: nat_lit 145 :: nat_lit 147 :: nat_lit 148 :: nat_lit 149 :: nat_lit 151 :: nat_lit 152 :: nat_lit 154 :: nat_lit 155 :: nat_lit 156 :: nat_lit 158 :: nat_lit 159 :: nat_lit 161 :: nat_lit 162 :: nat_lit 163 :: nat_lit 165 :: nat_lit 166 :: nat_lit 168 :: nat_lit 169 :: nat_lit 170 :: nat_lit 172 :: nat_lit 173 :: nat_lit 175 :: nat_lit 176 :: nat_lit 177 :: nat_lit 179 :: nat_lit 180 :: nat_lit 182 :: nat_lit 183 :: nat_lit 184 :: nat_lit 187 :: nat_lit 188 :: []
theorem asK_eq (P : Params) : asK = (KP P).map (·.1) := by kernel_rfl
abbrev rwP : OpenLaw := PySem.Challenge.rw_pg0226_01
noncomputable def qV : Program := view prog [1, 2, 3, 4, 5, 6, 7, 8, 9, 10, 12, 13, 14, 15, 16, 18, 19, 20, 21, 22]
noncomputable def looseV : List Str := [Str.ofString "b1_set", Str.ofString "b3_exceptions"]
abbrev hookP : Hook := kHook KP asK asK_eq
noncomputable def H1 (P : Params) : Heap := absHeap (treeE P) 189 {}
noncomputable def XtV : Shared → Bool := fun s => xlAt qV [] s && recOk (RowW.records rwP.row.toRowW) s
theorem open_ok : ∀ w : World, (fencedOpening treeTable prog w 28318).map (fun s => (s.heap, s.gens, s.drawn, s.toks)) = some (boot_heap w.params, Array.mk [], boot_drawn, boot_toks) :=
  boot_open rfl (by decide) (fun s => rfl)
theorem size_ok (w : World) : ((boot_heap w.params).isNs mainGlobals && (Array.mk [] : Array GenState).size == 0, (boot_heap w.params).objs.size, (boot_heap w.params).nsMap mainGlobals "__annotations__") = (true, 11, ann0) := by kernel_rfl
theorem look1 (w : World) (os : OsState) : (staticsOk (importedModules prog.main.body) (boot_heap w.params) (H1 w.params) && namesBound prog (H1 w.params) && gensDone ⟨H1 w.params, #[], {}, 2357, os⟩ && laidKept (boot_heap w.params) (H1 w.params)) = true := by kernel_rfl
theorem look3 (w : World) (os : OsState) : hookP.obs ⟨H1 w.params, #[], {}, 2357, os⟩ = hookP.val w := by kernel_rfl
end
end Mine
end
section
open PySem PySem.W PyProof.Rows
set_option maxRecDepth 100000
namespace Mine
noncomputable def fPos : Stmt → Pos | .FunctionDef _ _ _ _ _ _ _ _ _ p => p | _ => ⟨0, 0, 0, 0⟩
noncomputable def posL : Pos := by
  refine' (fun b (_ : fPos (stm 22) = b) => b) _ ?h
  case h => conv => lhs; whnf
noncomputable def dLaw : DefRec := ⟨Str.ofString "law", pS22, bS22, sS22, posL⟩
abbrev WalkP : Prop := WalkO qV looseV (XL qV []) hookP.says rwP.row.toRowW dLaw [] fun f vs => call f vs
end Mine
end
section
open PySem PySem.W PySem.Spec PySem.Calls PyProof.Rows
set_option maxRecDepth 100000
namespace Mine
abbrev Cb (w : World) (mean : ExcName → Option Value) (mg mb : Str → Option Value) (f : Addr) (news : List (Addr × Obj)) (pre : Prop) (vs : List Value) (R : Tok → Value) : Prop :=
  CbClaim rwP.row.prog w (KP w.params) qV looseV mean mg mb f news [] pre vs R
/-! the set and the table of the top -/
noncomputable def b1es : List (Int × Value) := [(65024, (.int (65024) 290)), (65025, (.int (65025) 291)), (65026, (.int (65026) 292)), (65027, (.int (65027) 293)), (65028, (.int (65028) 294)), (65029, (.int (65029) 295)), (6150, (.int (6150) 276)), (65030, (.int (65030) 296)), (65031, (.int (65031) 297)), (65032, (.int (65032) 298)), (65033, (.int (65033) 299)), (6155, (.int (6155) 277)), (6156, (.int (6156) 278)), (6157, (.int (6157) 279)), (8203, (.int (8203) 280)), (8204, (.int (8204) 281)), (8205, (.int (8205) 282)), (65034, (.int (65034) 300)), (65035, (.int (65035) 301)), (65036, (.int (65036) 302)), (65037, (.int (65037) 303)), (65038, (.int (65038) 304)), (65039, (.int (65039) 305)), (173, (.int (173) 274)), (847, (.int (847) 275)), (8288, (.int (8288) 283)), (65279, (.int (65279) 284))]
noncomputable def b1L : List Nat := [173, 847, 6150, 6155, 6156, 6157, 8203, 8204, 8205, 8288, 65279, 65024, 65025, 65026, 65027, 65028, 65029, 65030, 65031, 65032, 65033, 65034, 65035, 65036, 65037, 65038, 65039]
noncomputable def isB1 (c : Nat) : Bool := b1L.contains c
noncomputable def b1S (k : Int) : Bool := b1es.any fun e => Value.isInt k e.2
noncomputable def b1ok (e : Int × Value) : Bool := match e.2 with | .int k _ => e.1 == hashInt k | _ => false
theorem b1_all : b1es.all b1ok = true := by decide +kernel
theorem b1_set (prog : Program) (w : World) (P : Params) : (o92B P).SetObjOf (intKind prog w) b1S 27 := by
  refine ⟨⟨rfl, rfl, rfl⟩, b1es.toArray, _, _, rfl, ?_, ?_, rfl, rfl⟩
  · intro e he
    have h := List.all_eq_true.mp b1_all e he
    obtain ⟨hh, v⟩ := e
    cases v <;> simp only [b1ok, beq_iff_eq] at h <;> first | exact absurd h Bool.false_ne_true | skip
    rename_i k t
    exact ⟨⟨k, by show (k == k) = true; exact beq_self_eq_true k, h⟩, rfl⟩
  · intro k
    show b1es.any _ = true ↔ _
    rw [List.any_eq_true]; rfl
theorem kp_set (P : Params) : (KP P).lookup 92 = some (o92B P) := by kernel_rfl
theorem kp_dict (P : Params) : (KP P).lookup 103 = some (dictO b3es 650) := by kernel_rfl
section
variable {prog : Program} {w : World} {A : Around} {E : Value → Shared → Prop} {s : Shared}
theorem in_b1 {k : Int} {t : Tok} {Q : Value → Shared → Prop} (X : (KP w.params).In s.heap) (h : Q (.bool (b1S k)) { s with toks := s.toks + 1 }) : wpAny (model prog w) A (compareOp .In (.int k t) (.ref 92)) Q E s :=
  wpAny_inSet_of (knd := intKind prog w) (intKind_is prog w k t) rfl ((b1_set prog w w.params).setOf (X _ _ (kp_set _)) (by decide)) h
noncomputable def b3v (k : Int) : Option Value := findBy Value.isInt b3es.toArray k
noncomputable def b3ok (e : DictEntry) : Bool := match e.key, e.val with | .int k _, .str _ _ => e.hash == hashInt k | _, _ => false
theorem b3_all : b3es.all b3ok = true := by decide +kernel
theorem b3_map (X : (KP w.params).In s.heap) : s.heap.MapOf (intKind prog w) 103 b3v := by
  refine ⟨_, b3es.toArray, _, X _ _ (kp_dict _), ⟨rfl, rfl, rfl⟩, rfl, fun e he => ?_, fun k => rfl⟩
  have h := List.all_eq_true.mp b3_all e (Array.mem_toList_iff.mpr he)
  obtain ⟨hh, key, v⟩ := e
  cases key <;> simp only [b3ok] at h <;> first | exact absurd h Bool.false_ne_true | skip
  rename_i k t
  refine ⟨k, by show (k == k) = true; exact beq_self_eq_true k, ?_⟩
  cases v <;> simp only [beq_iff_eq] at h <;> first | exact absurd h Bool.false_ne_true | exact h
theorem b3v_str {k : Int} {v : Value} (h : b3v k = some v) : ∃ x t, v = .str x t := by
  unfold b3v findBy at h
  obtain ⟨e, he, rfl⟩ := Option.map_eq_some_iff.mp h
  have h := List.all_eq_true.mp b3_all e (by simpa using Array.mem_of_find?_eq_some he)
  obtain ⟨hh, key, v⟩ := e
  cases v <;> cases key <;> simp only [b3ok] at h <;> first | exact absurd h Bool.false_ne_true | exact ⟨_, _, rfl⟩
theorem meth_b3 {pl : Sem Bool} {Q : Value × List Value → Shared → Prop} (X : (KP w.params).In s.heap) (h : Q (.builtin "dict.get", [.ref 103]) s) : wpAny (model prog w) A (getMethod (.ref 103) (Str.ofString "get") pl) Q E s :=
  have M := b3_map (prog := prog) X
  getMethod_builtin M.typeIs PySem.F.plainAttrs_dict PySem.F.slot_dict_get PySem.F.type_dict_get M.noDict h
theorem get_b3 {k : Int} {t : Tok} {Q : Value → Shared → Prop} (X : (KP w.params).In s.heap) (hN : b3v k = none → Q .none { s with toks := s.toks + 1 })
    (hS : ∀ x t, b3v k = some (.str x t) → Q (.str x t) { s with toks := s.toks + 1 }) : wpAny (model prog w) A (call (.builtin "dict.get") [.ref 103, .int k t]) Q E s := by
  have M := b3_map (prog := prog) X
  refine call_meetsIn PySem.F.slot_dict_get M.typeIs PySem.F.entry_dict_get (PySem.F.args_dict_get_2 _ _) (meets_dict_get (intKind prog w) 103 (intKind_is prog w k t) (by decide)) ⟨_, M, ?_⟩
  cases hb : b3v k with
  | none => exact hN hb
  | some v => obtain ⟨x, u, rfl⟩ := b3v_str hb; exact hS x u hb
end
local macro_rules | `(tactic| walk_at "compareOp In int ref") => `(tactic| (k_here; (refine' in_b1 ?k1 ?_; (case k1 => k_in))))
local macro_rules | `(tactic| walk_at "getMethod ref") => `(tactic| (k_here; (refine' meth_b3 ?k1 ?_; (case k1 => k_in))))
local macro_rules | `(tactic| walk_at "call builtin:str.lower") => `(tactic| (k_here; (refine' SCL.lower ?k1 ?_; (case k1 => exact (by decide : (1 : Nat) ≤ 5592405))); intros))
local macro_rules | `(tactic| walk_at "call builtin:dict.get") => `(tactic| (k_here; (refine' get_b3 ?k1 ?_ ?_; (case k1 => k_in)); intros))
theorem isB1_eq (c : Nat) : b1S (c : Int) = isB1 c := by
  have h1 : b1S (c : Int) = (b1es.map fun e => match e.2 with | .int k _ => k | _ => -1).contains (c : Int) := by
    unfold b1S
    rw [List.contains_eq_any_beq, List.any_map]
    have : ∀ l : List (Int × Value), (l.any fun e => Value.isInt (c : Int) e.2) = l.any ((fun y => (c : Int) == y) ∘ fun e => match e.2 with | .int k _ => k | _ => -1) := by
      intro l
      induction l with
      | nil => rfl
      | cons e l ih =>
        rw [List.any_cons, List.any_cons, ih]
        congr 1
        obtain ⟨hh, v⟩ := e
        cases v with
        | int k t => show (k == (c : Int)) = ((c : Int) == k); rw [Bool.eq_iff_iff, beq_iff_eq, beq_iff_eq]; exact eq_comm
        | _ => show false = ((c : Int) == -1); symm; rw [beq_eq_false_iff_ne]; omega
    exact this _
  rw [h1]
  have h2 : ∀ (a : List Int) (b : List Nat), (∀ y ∈ a, ∃ z ∈ b, y = (z : Int)) → (∀ z ∈ b, (z : Int) ∈ a) → a.contains (c : Int) = b.contains c := by
    intro a b ha hb
    rw [Bool.eq_iff_iff, List.contains_iff_mem, List.contains_iff_mem]
    exact ⟨fun h => let ⟨z, hz, e⟩ := ha _ h; by have : c = z := by omega
                                                 exact this ▸ hz, fun h => hb _ h⟩
  exact h2 _ _ (by decide +kernel) (by decide +kernel)
noncomputable def b3 (c : Nat) : Str := match b3v (c : Int) with | some (.str x _) => x | _ => Txt.lower ⟨#[c]⟩
theorem b3_none {c : Nat} (h : b3v (c : Int) = none) : Txt.lower ⟨#[c]⟩ = b3 c := by unfold b3; rw [h]
theorem b3_some {c : Nat} {x : Str} {t : Tok} (h : b3v (c : Int) = some (.str x t)) : x = b3 c := by unfold b3; rw [h]
set_option maxHeartbeats 8000000 in
theorem c_b1 (w : World) (mean mg mb) : ∀ (news : List (Addr × Obj)) (c : Nat) (tx : Tok), Cb w mean mg mb 102 news (True) [.str ⟨#[c]⟩ tx] (fun _ => .bool (isB1 c)) := by
  dsimp only [Cb, CbClaim, CbLists, CbRet]
  k_fill
  intros
  rename_i hpre _ _ hret
  refine wpAny_call ?_
  k_dflt cell_enter
  k_steps
  · rw [isB1_eq]
    exact hret 0 _ _ (by k_asm) (by k_asm)
set_option maxHeartbeats 8000000 in
theorem c_b3 (w : World) (mean mg mb) : ∀ (news : List (Addr × Obj)) (c : Nat) (tx : Tok), Cb w mean mg mb 148 news (True) [.str ⟨#[c]⟩ tx] (fun t => .str (b3 c) t) := by
  dsimp only [Cb, CbClaim, CbLists, CbRet]
  k_fill
  intros
  rename_i hpre _ _ hret
  refine wpAny_call ?_
  k_dflt cell_enter
  k_steps
  all_goals (refine' cb_retS hret ?e1 ?e2 ?e3; (case e2 => k_asm); (case e3 => k_asm); (case e1 => first | exact b3_none (by assumption) | exact b3_some (by assumption)))
end Mine
end
section
open PySem PySem.W PySem.Spec PySem.Calls PyProof.Rows
set_option maxRecDepth 100000
namespace Mine
theorem kind_hasattr : builtinKind "hasattr" = none := by decide +kernel
theorem plain_hasattr : plainId "hasattr" = true := by decide +kernel
theorem entry_hasattr : entryFor table "hasattr" = some Builtin.«hasattr» := entryFor_of_tree (by kernel_rfl)
theorem look_getitem : typeLookup (.type "str") (Str.ofString "__getitem__") = pure (some (.builtin "str.__getitem__")) := by rw [typeLookup_type, builtinLookup_eq_fast]; kernel_rfl
theorem type_getitem : typeOf (.builtin "str.__getitem__") = pure (.type "wrapper_descriptor") := by show builtinType _ = _; rw [builtinType_eq_fast]; kernel_rfl
theorem look_get : typeLookup (.type "wrapper_descriptor") (Str.ofString "__get__") = pure (some (.builtin "wrapper_descriptor.__get__")) := by rw [typeLookup_type, builtinLookup_eq_fast]; kernel_rfl
theorem look_set : typeLookup (.type "wrapper_descriptor") (Str.ofString "__set__") = pure none := by rw [typeLookup_type, builtinLookup_eq_fast]; kernel_rfl
theorem look_del : typeLookup (.type "wrapper_descriptor") (Str.ofString "__delete__") = pure none := by rw [typeLookup_type, builtinLookup_eq_fast]; kernel_rfl
theorem slot_wd : Slot "wrapper_descriptor" "__get__" "wrapper_descriptor.__get__" :=
  .of (owner := "wrapper_descriptor") (n := "__get__") (by rw [typeLookup_type, builtinLookup_eq_fast]; kernel_rfl) (by decide +kernel) (by decide +kernel) (by decide +kernel)
    (by first | exact .inl (by decide +kernel) | exact .inr (by decide +kernel)) (by rw [isSubtype_type]; kernel_rfl)
theorem entry_wd : entryFor table "wrapper_descriptor.__get__" = some Builtin.«wrapper_descriptor.__get__» := entryFor_of_tree (by kernel_rfl)
theorem args_wd (a b c : Value) : argsOk "wrapper_descriptor.__get__" ⟨[a, b, c], []⟩ := by unfold argsOk; kernel_rfl
theorem sub_str : isSubtype (.type "str") (.type "str") = pure true := by rw [isSubtype_type]; kernel_rfl
theorem owner_gi : (let parts := "str.__getitem__".cutAt '.'; (".".intercalate parts.dropLast, parts.getLastD "")) = ("str", "__getitem__") := by decide +kernel
set_option maxHeartbeats 2000000 in
theorem wd_body {prog : Program} {w : World} {A : Around} {s : Shared} {x : Str} {t : Tok} {Q : PySem.Fin → Shared → Prop} {E : Value → Shared → Prop}
    (h : ∀ v h', (∀ b o, s.heap.get? b = some o → h'.get? b = some o) → ∀ tk, Q (.done (.ret (.ref v))) { s with heap := h', toks := tk }) :
    wpAny (model prog w) A (Builtin.«wrapper_descriptor.__get__» ⟨[.builtin "str.__getitem__", .str x t, .type "str"], []⟩) Q E s := by
  obtain ⟨hp, g, d, tk, os⟩ := s
  have hT : ∀ s' : Shared, s'.TypeIs (.str x t) "str" := fun _ => rfl
  have f1 := sub_str
  unfold Builtin.«wrapper_descriptor.__get__»
  refine wpAny_bind ?_
  with_unfolding_all refine wpAny_pure (a := (Value.builtin "str.__getitem__", some (Value.str x t), some (Value.type "str"))) ?_
  dsimp only
  refine (show wpAny (model prog w) A (_ >>= _) _ _ _ from ?_)
  have hO : (".".intercalate ("str.__getitem__".cutAt '.').dropLast) = "str" := by decide +kernel
  refine wpAny_bind ?_
  wp_step
  wp_step
  wp_step
  dsimp only
  rw [hO]
  refine wpAny_pure ?_
  dsimp only
  refine wpAny_bind (wpAny_isInstance (T := "str") (b := true) (hT _) sub_str ?_)
  rw [if_neg (by decide)]
  refine wpAny_pure (wpAny_bind ?_)
  unfold newFields
  exact wpAny_newObj_type (wpAny_pure (h _ _ (fun b o hb => Heap.get?_push_of_some _ hb) tk))
end Mine
end
section
open PySem PySem.W PySem.Spec PySem.Calls PyProof.Rows
set_option maxRecDepth 100000
namespace Mine
set_option maxHeartbeats 2000000 in
theorem gab_body {prog : Program} {w : World} {A : Around} {s : Shared} {x : Str} {t u : Tok} {Q : PySem.Fin → Shared → Prop} {E : Value → Shared → Prop}
    (h : ∀ v h', (∀ b o, s.heap.get? b = some o → h'.get? b = some o) → ∀ tk, Q (.done (.ret (.ref v))) { s with heap := h', toks := tk }) :
    wpAny (model prog w) A (Builtin.«object.__getattribute__» ⟨[.str x t, .str (Str.ofString "__getitem__") u], []⟩) Q E s := by
  obtain ⟨hp, g, d, tk, os⟩ := s
  have hT : ∀ s' : Shared, s'.TypeIs (.str x t) "str" := fun _ => rfl
  have e2 := look_getitem
  have e3 := type_getitem
  have e4 := look_get
  have e5 := look_set
  have e6 := look_del
  unfold Builtin.«object.__getattribute__»
  repeat (first | assumption | ((with_reducible show codeAny _ _ (Code.call (Value.builtin "wrapper_descriptor.__get__") _) _ _); refine codeAny_call_builtin slot_wd.plain entry_wd (slot_wd.check _ _ _ _ _ _ _ _ (show Shared.TypeIs _ _ _ from type_getitem) (args_wd _ _ _) (wd_body fun v h' k tk' => ?_))) | wp_step)
  exact h _ h' k tk'
set_option maxHeartbeats 2000000 in
theorem get_has {prog : Program} {w : World} {A : Around} {E : Value → Shared → Prop} {s : Shared} {x : Str} {t u : Tok} {Q : Option Value → Shared → Prop}
    (h : ∀ v h', (∀ b o, s.heap.get? b = some o → h'.get? b = some o) → ∀ tk, Q (some v) { s with heap := h', toks := tk }) :
    wpAny (model prog w) A (getAttrBy? (.str x t) (.str (Str.ofString "__getitem__") u)) Q E s := by
  obtain ⟨hp, g, d, tk, os⟩ := s
  have hT : ∀ s' : Shared, s'.TypeIs (.str x t) "str" := fun _ => rfl
  have f3 := F.slot_str_getattribute.lookup
  have f4 := F.slot_str_getattribute.bind (.str x t)
  unfold getAttrBy? getAttrBy
  repeat (first | assumption | ((with_reducible show codeAny _ _ (Code.call (Value.builtin "object.__getattribute__") _) _ _); refine codeAny_call_builtin F.slot_str_getattribute.plain F.entry_object_getattribute (F.slot_str_getattribute.check _ _ _ _ _ _ _ _ (hT _) (F.args_object_getattribute_2 _ _) (gab_body fun v h' k tk' => ?_))) | wp_step)
  exact h (.ref v) h' k tk'
theorem call_has {prog : Program} {w : World} {A : Around} {E : Value → Shared → Prop} {s : Shared} {x : Str} {t u : Tok} {Q : Value → Shared → Prop}
    (h : ∀ h', (∀ b o, s.heap.get? b = some o → h'.get? b = some o) → ∀ tk, Q (.bool true) { s with heap := h', toks := tk }) :
    wpAny (model prog w) A (call (.builtin "hasattr") [.str x t, .str (Str.ofString "__getitem__") u]) Q E s := by
  refine Calls.call_function_entry kind_hasattr plain_hasattr entry_hasattr (by unfold argsOk; kernel_rfl) ?_
  obtain ⟨hp, g, d, tk, os⟩ := s
  have hT : ∀ s' : Shared, s'.TypeIs (.str x t) "str" := fun _ => rfl
  have e2 := look_getitem
  have f3 := F.slot_str_getattribute.lookup
  unfold Builtin.«hasattr»
  refine wpAny_bind ?_
  with_unfolding_all refine wpAny_pure (a := [Value.str x t, Value.str (Str.ofString "__getitem__") u]) ?_
  dsimp only
  refine wpAny_bind ?_
  with_unfolding_all refine wpAny_pure (a := ()) ?_
  rw [if_neg (by intro q; cases q)]
  refine wpAny_bind ?_
  with_unfolding_all refine wpAny_pure (a := Value.type "str") ?_
  dsimp only
  refine wpAny_bind ?_
  with_unfolding_all refine wpAny_pure (a := some (Str.ofString "__getitem__")) ?_
  dsimp only
  rw [e2]
  refine wpAny_bind (wpAny_pure ?_)
  dsimp only
  rw [f3]
  refine wpAny_bind (wpAny_pure ?_)
  rw [if_neg (by decide +kernel)]
  refine wpAny_bind ?_
  with_unfolding_all refine wpAny_pure (a := (0 : Nat)) ?_
  rw [if_neg (by decide)]
  refine wpAny_bind (get_has fun v h' k tk' => ?_)
  rw [if_neg (by simp)]
  exact wpAny_pure ⟨_, rfl, h h' k tk'⟩
theorem has_K {prog : Program} {w : World} {A : Around} {E : Value → Shared → Prop} {s : Shared} {x : Str} {t u : Tok} {Q : Value → Shared → Prop} {h₀ : Heap} {L : Addr} {m : Str → Option Value} {news : List (Addr × Obj)}
    (F : Fr h₀ L s.heap m) (N : News h₀ L s.heap news) (h : ∀ h' tk, Fr h₀ L h' m → News h₀ L h' news → Q (.bool true) { s with heap := h', toks := tk }) :
    wpAny (model prog w) A (call (.builtin "hasattr") [.str x t, .str (Str.ofString "__getitem__") u]) Q E s :=
  call_has fun h' k tk => h h' tk (F.keeps k) fun p hp => ⟨k _ _ (N p hp).1, (N p hp).2⟩
end Mine
end
section
open PySem PySem.W PySem.Spec PySem.Calls PyProof.Rows
set_option maxRecDepth 100000
set_option linter.unusedVariables false
namespace Mine
local macro_rules | `(tactic| walk_at "call builtin:hasattr") => `(tactic| (k_here; (refine' has_K ?k1 ?k2 ?_; (case k1 => k_asm); (case k2 => k_asm)); intro h' tk' F' N'; (try k_sweep)))
set_option maxHeartbeats 8000000 in
theorem c_add (w : World) (mean mg mb) : ∀ (news : List (Addr × Obj)) (x : Int) (tx : Tok) (y : Int) (ty : Tok), Cb w mean mg mb 28 news (True) [.int x tx, .int y ty] (fun t => .int (x + y) t) := by
  dsimp only [Cb, CbClaim, CbLists, CbRet]
  k_fill
  intros
  rename_i hpre _ _ hret
  refine wpAny_call ?_
  k_dflt cell_enter
  k_steps
  all_goals cb_end hret
set_option maxHeartbeats 8000000 in
theorem c_sub (w : World) (mean mg mb) : ∀ (news : List (Addr × Obj)) (x : Int) (tx : Tok) (y : Int) (ty : Tok), Cb w mean mg mb 63 news (True) [.int x tx, .int y ty] (fun t => .int (x - y) t) := by
  dsimp only [Cb, CbClaim, CbLists, CbRet]
  k_fill
  intros
  rename_i hpre _ _ hret
  refine wpAny_call ?_
  k_dflt cell_enter
  k_steps
  all_goals cb_end hret
set_option maxHeartbeats 8000000 in
theorem c_eqi (w : World) (mean mg mb) : ∀ (news : List (Addr × Obj)) (x : Int) (tx : Tok) (y : Int) (ty : Tok), Cb w mean mg mb 21 news (True) [.int x tx, .int y ty] (fun t => .bool (x == y)) := by
  dsimp only [Cb, CbClaim, CbLists, CbRet]
  k_fill
  intros
  rename_i hpre _ _ hret
  refine wpAny_call ?_
  k_dflt cell_enter
  k_steps
  all_goals cb_end hret
set_option maxHeartbeats 8000000 in
theorem c_eqs (w : World) (mean mg mb) : ∀ (news : List (Addr × Obj)) (x : Str) (tx : Tok) (y : Str) (ty : Tok), Cb w mean mg mb 21 news (True) [.str x tx, .str y ty] (fun t => .bool (x == y)) := by
  dsimp only [Cb, CbClaim, CbLists, CbRet]
  k_fill
  intros
  rename_i hpre _ _ hret
  refine wpAny_call ?_
  k_dflt cell_enter
  k_steps
  all_goals cb_end hret
set_option maxHeartbeats 8000000 in
theorem c_and (w : World) (mean mg mb) : ∀ (news : List (Addr × Obj)) (x : Int) (tx : Tok) (y : Int) (ty : Tok), Cb w mean mg mb 35 news (True) [.int x tx, .int y ty] (fun t => .int (Builtin.bitAnd x y) t) := by
  dsimp only [Cb, CbClaim, CbLists, CbRet]
  k_fill
  intros
  rename_i hpre _ _ hret
  refine wpAny_call ?_
  k_dflt cell_enter
  k_steps
  all_goals cb_end hret
set_option maxHeartbeats 8000000 in
theorem c_xor (w : World) (mean mg mb) : ∀ (news : List (Addr × Obj)) (x : Int) (tx : Tok) (y : Int) (ty : Tok), Cb w mean mg mb 70 news (True) [.int x tx, .int y ty] (fun t => .int (Builtin.bitXor x y) t) := by
  dsimp only [Cb, CbClaim, CbLists, CbRet]
  k_fill
  intros
  rename_i hpre _ _ hret
  refine wpAny_call ?_
  k_dflt cell_enter
  k_steps
  all_goals cb_end hret
set_option maxHeartbeats 8000000 in
theorem c_mul (w : World) (mean mg mb) : ∀ (news : List (Addr × Obj)) (x : Int) (tx : Tok) (y : Int) (ty : Tok), Cb w mean mg mb 49 news (x.natAbs < 2 ^ 60 ∧ y.natAbs < 2 ^ 60) [.int x tx, .int y ty] (fun t => .int (x * y) t) := by
  dsimp only [Cb, CbClaim, CbLists, CbRet]
  k_fill
  intros
  rename_i hpre _ _ hret
  refine wpAny_call ?_
  k_dflt cell_enter
  k_steps
  all_goals cb_end hret
set_option maxHeartbeats 8000000 in
theorem c_lsh (w : World) (mean mg mb) : ∀ (news : List (Addr × Obj)) (x : Int) (tx : Tok) (y : Int) (ty : Tok), Cb w mean mg mb 42 news (x = 1 ∧ 0 ≤ y ∧ y < 400) [.int x tx, .int y ty] (fun t => .int (x * 2 ^ y.toNat) t) := by
  dsimp only [Cb, CbClaim, CbLists, CbRet]
  k_fill
  intros
  rename_i hpre _ _ hret
  refine wpAny_call ?_
  k_dflt cell_enter
  k_steps
  all_goals cb_end hret
set_option maxHeartbeats 8000000 in
theorem c_rsh (w : World) (mean mg mb) : ∀ (news : List (Addr × Obj)) (x : Int) (tx : Tok) (y : Int) (ty : Tok), Cb w mean mg mb 56 news (0 ≤ y ∧ y < 400) [.int x tx, .int y ty] (fun t => .int (x / 2 ^ y.toNat) t) := by
  dsimp only [Cb, CbClaim, CbLists, CbRet]
  k_fill
  intros
  rename_i hpre _ _ hret
  refine wpAny_call ?_
  k_dflt cell_enter
  k_steps
  all_goals cb_end hret
set_option maxHeartbeats 8000000 in
theorem c_concat (w : World) (mean mg mb) : ∀ (news : List (Addr × Obj)) (x : Str) (tx : Tok) (y : Str) (ty : Tok), Cb w mean mg mb 77 news (x.length < 10000 ∧ y.length < 10000) [.str x tx, .str y ty] (fun t => .str (x ++ y) t) := by
  dsimp only [Cb, CbClaim, CbLists, CbRet]
  k_fill
  intros
  rename_i hpre _ _ hret
  refine wpAny_call ?_
  k_dflt cell_enter
  k_steps
  all_goals cb_end hret
set_option maxHeartbeats 8000000 in
theorem c_c11 (w : World) (mean mg mb) : ∀ (news : List (Addr × Obj)) (x : Str) (tx : Tok), Cb w mean mg mb 155 news (True) [.str x tx] (fun t => .bool (x == Str.ofString " ")) := by
  dsimp only [Cb, CbClaim, CbLists, CbRet]
  k_fill
  intros
  rename_i hpre _ _ hret
  refine wpAny_call ?_
  k_dflt cell_enter
  k_steps
  all_goals cb_end hret
end Mine
end
section
open PySem PySem.W PySem.Spec PySem.Calls PyProof.Rows
set_option maxRecDepth 100000
set_option linter.unusedVariables false
namespace Mine
theorem getD_bd {l : List Int} {i : Nat} {v : Int} (e : l.getD i 0 = v) (h : l.all (fun x => decide (0 ≤ x) && decide (x < 1100000)) = true) : 0 ≤ v ∧ v < 1100000 := by
  subst e
  rw [List.getD_eq_getElem?_getD]
  cases hx : l[i]? with
  | none => exact ⟨Int.le_refl 0, by decide⟩
  | some x =>
    have := List.all_eq_true.mp h x (List.mem_of_getElem? hx)
    rw [Bool.and_eq_true_iff] at this
    exact ⟨of_decide_eq_true this.1, of_decide_eq_true this.2⟩
noncomputable def gapC (x : Int) : Nat := if x > 11 then (65012 + x).toNat else (([173, 847, 6150, 6155, 6156, 6157, 8203, 8204, 8205, 8288, 65279] : List Int).getD (x - 1).toNat 0).toNat
theorem chr_K {prog : Program} {w : World} {A : Around} {E : Value → Shared → Prop} {s : Shared} {k : Int} {t : Tok} {Q : Value → Shared → Prop} (h0 : 0 ≤ k ∧ k < 1114112) (h : Q (.str ⟨#[k.toNat]⟩ s.toks) { s with toks := s.toks + 1 }) :
    wpAny (model prog w) A (call (.builtin "chr") [.int k t]) Q E s := by
  exact chr_of_range h0.1 (by omega) h
local macro_rules | `(tactic| walk_at "call builtin:chr") => `(tactic| (k_here; (refine' chr_K ?k1 ?_; (case k1 => first | omega | ((generalize hgd : List.getD ([173, 847, 6150, 6155, 6156, 6157, 8203, 8204, 8205, 8288, 65279] : List Int) _ _ = v); (have q := getD_bd hgd (by decide)); omega)))))
set_option maxHeartbeats 8000000 in
theorem c_gap (w : World) (mean mg mb) : ∀ (news : List (Addr × Obj)) (x : Int) (tx : Tok), Cb w mean mg mb 162 news (1 ≤ x ∧ x ≤ 27) [.int x tx] (fun t => .str ⟨#[gapC x]⟩ t) := by
  dsimp only [Cb, CbClaim, CbLists, CbRet]
  k_fill
  intros
  rename_i hpre _ _ hret
  obtain ⟨h1, h2⟩ := hpre
  refine wpAny_call ?_
  k_dflt cell_enter
  k_steps
  all_goals (refine' cb_retS hret ?e1 ?e2 ?e3; (case e2 => k_asm); (case e3 => first | k_asm | (refine' cb_drop ?cbN ?cbS; (case cbN => assumption); (case cbS => kcj_all))); (case e1 => (unfold gapC; first | (rw [if_pos (by first | assumption | omega)]; done) | (rw [if_neg (by first | assumption | omega)]; done) | trace_state)))
end Mine
end
section
open PySem PySem.W PySem.Spec PySem.Calls PyProof.Rows
set_option maxRecDepth 100000
set_option linter.unusedVariables false
namespace Mine
theorem Cb.use {w : World} {mean : ExcName → Option Value} {mg mb : Str → Option Value} {f : Addr} {news : List (Addr × Obj)} {pre : Prop} {vs : List Value} {R : Tok → Value} (C : Cb w mean mg mb f news pre vs R)
    {dp un : Nat} {gd : Option (List Code)} {cn : Str} {cs : Scope} {a : Addr} {ccd : Value} {cl : List (Str × Addr)} {outer : List Env} {A₀ : Around} {base h₀ : Heap} {L : Addr} {m : Str → Option Value} {s : Shared} {Q E : Value → Shared → Prop}
    (B : Below A₀ base outer h₀) (F : Fr h₀ L s.heap m) (X : (KP w.params).In h₀) (N : News h₀ L s.heap news) (T : Top qV looseV mean mg mb h₀) (hk : cs.kind = .function)
    (hp : pre) (hd : dp + 1 < recursionLimit) (hu : un + 8 < cLine) (hret : CbRet h₀ L m news s Q R) :
    wpAny (model rwP.row.prog w) (ktrTop dp un gd cn cs L a ccd cl outer) (call (.ref f) vs) Q E s :=
  C dp un gd cn cs a ccd cl outer A₀ base h₀ L m s Q E B F X N T hk hp hd hu hret
abbrev Cb2 (w : World) (mean : ExcName → Option Value) (mg mb : Str → Option Value) (f : Addr) (news : List (Addr × Obj)) (pre : Prop) (vs : List Value) (R : Tok → Value) : Prop :=
  ∀ (dp un : Nat) (gd : Option (List Code)) (cn : Str) (cs : Scope) (a : Addr) (ccd : Value) (cl : List (Str × Addr)) (outer : List Env) (A₀ : Around) (base h₀ : Heap) (L : Addr) (m : Str → Option Value) (s : Shared) (Q E : Value → Shared → Prop),
    Below A₀ base outer h₀ → Fr h₀ L s.heap m → (KP w.params).In h₀ → News h₀ L s.heap news → Top qV looseV mean mg mb h₀ → cs.kind = .function → pre → dp + 10 < recursionLimit → un + 1000 < cLine → CbRet h₀ L m news s Q R →
      wpAny (model rwP.row.prog w) (ktrTop dp un gd cn cs L a ccd cl outer) (call (.ref f) vs) Q E s
theorem b3_len (c : Nat) : (b3 c).length ≤ 4 := by
  unfold b3
  split
  · rename_i x t h
    have hall : (b3es.all fun e => match e.val with | .str x _ => decide (x.length ≤ 4) | _ => false) = true := by decide +kernel
    unfold b3v findBy at h
    obtain ⟨e, he, hv⟩ := Option.map_eq_some_iff.mp h
    have h := List.all_eq_true.mp hall e (by simpa using Array.mem_of_find?_eq_some he)
    rw [hv] at h
    exact of_decide_eq_true h
  · exact Nat.le_trans (len_lower _) (by show 3 * 1 ≤ 4; decide)
theorem use_b3 {w : World} {mean : ExcName → Option Value} {mg mb : Str → Option Value} {news : List (Addr × Obj)} {c : Nat} {tx : Tok}
    {dp un : Nat} {gd : Option (List Code)} {cn : Str} {cs : Scope} {a : Addr} {ccd : Value} {cl : List (Str × Addr)} {outer : List Env} {A₀ : Around} {base h₀ : Heap} {L : Addr} {m : Str → Option Value} {s : Shared} {Q E : Value → Shared → Prop}
    (B : Below A₀ base outer h₀) (F : Fr h₀ L s.heap m) (X : (KP w.params).In h₀) (N : News h₀ L s.heap news) (T : Top qV looseV mean mg mb h₀) (hk : cs.kind = .function)
    (hd : dp + 1 < recursionLimit) (hu : un + 8 < cLine)
    (hret : ∀ (t : Tok) (h' : Heap) (tk' : Nat), Fr h₀ L h' m → News h₀ L h' news → (b3 c).length ≤ 4 → Q (.str (b3 c) t) { s with heap := h', toks := tk' }) :
    wpAny (model rwP.row.prog w) (ktrTop dp un gd cn cs L a ccd cl outer) (call (.ref 148) [.str ⟨#[c]⟩ tx]) Q E s :=
  Cb.use (c_b3 _ _ _ _ _ _ _) B F X N T hk trivial hd hu fun t h' tk' F' N' => hret t h' tk' F' N' (b3_len c)
noncomputable def inS (c : Nat) (st : Int × Int) (_ : Int) : Int × Int := (if (b3 c == (⟨#[c]⟩ : Str)) = true then st.1 + 1 * 2 ^ st.2.toNat else st.1 - 1 * 2 ^ st.2.toNat, st.2 + 1)
noncomputable def readStep (st : Int × Int) (c : Int) : Int × Int :=
  if isB1 c.toNat = true then st else if ((⟨#[c.toNat]⟩ : Str) == Str.ofString " ") = true then (st.1, st.2 + 1) else (KStt.codes (b3 c.toNat)).foldl (inS c.toNat) st
noncomputable def readW (x : Str) : Int := ((KStt.codes x).foldl readStep (0, 0)).1
theorem codes_len (x : Str) : ((KStt.codes x).length : Int) = (x.length : Int) := by rw [KStt.codes_length]
theorem rs_b1 {pre : List Int} {wo pl : Int} {n : Nat} (h : (wo, pl) = pre.foldl readStep (0, 0)) (hb : isB1 n = true) (h0 : 0 ≤ pl) (h1 : pl ≤ 4 * (pre.length : Int)) :
    (wo, pl) = (pre ++ [(n : Int)]).foldl readStep (0, 0) ∧ 0 ≤ pl ∧ pl ≤ 4 * ((pre ++ [(n : Int)]).length : Int) := by
  rw [List.foldl_append, ← h, List.length_append, List.length_singleton]
  refine ⟨?_, h0, by omega⟩
  show _ = readStep (wo, pl) n
  unfold readStep
  rw [Int.toNat_natCast, if_pos hb]
theorem rs_sp {pre : List Int} {wo pl : Int} {n : Nat} (h : (wo, pl) = pre.foldl readStep (0, 0)) (hb : isB1 n = false) (hs : ((⟨#[n]⟩ : Str) == Str.ofString " ") = true) (h0 : 0 ≤ pl) (h1 : pl ≤ 4 * (pre.length : Int)) :
    (wo, pl + 1) = (pre ++ [(n : Int)]).foldl readStep (0, 0) ∧ 0 ≤ pl + 1 ∧ pl + 1 ≤ 4 * ((pre ++ [(n : Int)]).length : Int) := by
  rw [List.foldl_append, ← h, List.length_append, List.length_singleton]
  refine ⟨?_, by omega, by omega⟩
  show _ = readStep (wo, pl) n
  unfold readStep
  rw [Int.toNat_natCast, if_neg (by rw [hb]; decide), if_pos hs]
theorem rs_fold {pre : List Int} {wo pl wo' pl' : Int} {n : Nat} (h : (wo, pl) = pre.foldl readStep (0, 0)) (hb : isB1 n = false) (hs : ((⟨#[n]⟩ : Str) == Str.ofString " ") = false) (h0 : 0 ≤ pl) (h1 : pl ≤ 4 * (pre.length : Int))
    (hl : (b3 n).length ≤ 4) (hi : (wo', pl') = (KStt.codes (b3 n)).foldl (inS n) (pre.foldl readStep (0, 0))) (hp : pl' = (pre.foldl readStep (0, 0)).2 + ((b3 n).length : Int)) :
    (wo', pl') = (pre ++ [(n : Int)]).foldl readStep (0, 0) ∧ 0 ≤ pl' ∧ pl' ≤ 4 * ((pre ++ [(n : Int)]).length : Int) := by
  rw [List.foldl_append, ← h, List.length_append, List.length_singleton]
  rw [← h] at hi hp
  refine ⟨?_, by simp only at hp; omega, by simp only at hp; omega⟩
  show _ = readStep (wo, pl) n
  unfold readStep
  rw [Int.toNat_natCast, if_neg (by rw [hb]; decide), if_neg (by rw [hs]; decide)]
  exact hi
theorem in_start {pre : List Int} {wo pl : Int} {n : Nat} (h : (wo, pl) = pre.foldl readStep (0, 0)) (h0 : 0 ≤ pl) (h1 : pl ≤ 4 * (pre.length : Int)) :
    (wo, pl) = ([] : List Int).foldl (inS n) (pre.foldl readStep (0, 0)) ∧ pl = (pre.foldl readStep (0, 0)).2 + (([] : List Int).length : Int) ∧ 0 ≤ pl ∧ pl ≤ 4 * (pre.length : Int) + (([] : List Int).length : Int) := by
  rw [← h]
  exact ⟨rfl, by simp, h0, by simpa using h1⟩
theorem in_add {pre ps : List Int} {wo pl : Int} {n k : Nat} (he : (b3 n == (⟨#[n]⟩ : Str)) = true) (h : (wo, pl) = ps.foldl (inS n) (pre.foldl readStep (0, 0))) (hp : pl = (pre.foldl readStep (0, 0)).2 + (ps.length : Int)) (h0 : 0 ≤ pl) (h1 : pl ≤ 4 * (pre.length : Int) + (ps.length : Int)) :
    (wo + 1 * 2 ^ pl.toNat, pl + 1) = (ps ++ [(k : Int)]).foldl (inS n) (pre.foldl readStep (0, 0)) ∧ pl + 1 = (pre.foldl readStep (0, 0)).2 + ((ps ++ [(k : Int)]).length : Int) ∧ 0 ≤ pl + 1 ∧ pl + 1 ≤ 4 * (pre.length : Int) + ((ps ++ [(k : Int)]).length : Int) := by
  rw [List.foldl_append, ← h, List.length_append, List.length_singleton]
  refine ⟨?_, by omega, by omega, by omega⟩
  show _ = inS n (wo, pl) k
  unfold inS
  rw [if_pos he]
theorem in_sub {pre ps : List Int} {wo pl : Int} {n k : Nat} (he : (b3 n == (⟨#[n]⟩ : Str)) = false) (h : (wo, pl) = ps.foldl (inS n) (pre.foldl readStep (0, 0))) (hp : pl = (pre.foldl readStep (0, 0)).2 + (ps.length : Int)) (h0 : 0 ≤ pl) (h1 : pl ≤ 4 * (pre.length : Int) + (ps.length : Int)) :
    (wo - 1 * 2 ^ pl.toNat, pl + 1) = (ps ++ [(k : Int)]).foldl (inS n) (pre.foldl readStep (0, 0)) ∧ pl + 1 = (pre.foldl readStep (0, 0)).2 + ((ps ++ [(k : Int)]).length : Int) ∧ 0 ≤ pl + 1 ∧ pl + 1 ≤ 4 * (pre.length : Int) + ((ps ++ [(k : Int)]).length : Int) := by
  rw [List.foldl_append, ← h, List.length_append, List.length_singleton]
  refine ⟨?_, by omega, by omega, by omega⟩
  show _ = inS n (wo, pl) k
  unfold inS
  rw [if_neg (by rw [he]; decide)]
theorem rs_end {x : Str} {wo pl : Int} (h : (wo, pl) = (KStt.codes x).foldl readStep (0, 0)) : wo = readW x := by unfold readW; rw [← h]
theorem rs_start : ((0 : Int), (0 : Int)) = ([] : List Int).foldl readStep (0, 0) ∧ (0 : Int) ≤ 0 ∧ (0 : Int) ≤ 4 * (([] : List Int).length : Int) := ⟨rfl, by decide, by decide⟩
local macro_rules | `(tactic| walk_at "call ref") => `(tactic| (k_here; k_dflt (first | (refine' Cb.use (c_add _ _ _ _ _ _ _ _ _) ?k1 ?k2 ?k3 ?k4 ?k5 ?kK ?kp ?kd ?ku ?_) | (refine' Cb.use (c_sub _ _ _ _ _ _ _ _ _) ?k1 ?k2 ?k3 ?k4 ?k5 ?kK ?kp ?kd ?ku ?_) | (refine' Cb.use (c_lsh _ _ _ _ _ _ _ _ _) ?k1 ?k2 ?k3 ?k4 ?k5 ?kK ?kp ?kd ?ku ?_) | (refine' Cb.use (c_eqs _ _ _ _ _ _ _ _ _) ?k1 ?k2 ?k3 ?k4 ?k5 ?kK ?kp ?kd ?ku ?_) | (refine' Cb.use (c_c11 _ _ _ _ _ _ _) ?k1 ?k2 ?k3 ?k4 ?k5 ?kK ?kp ?kd ?ku ?_) | (refine' Cb.use (c_b1 _ _ _ _ _ _ _) ?k1 ?k2 ?k3 ?k4 ?k5 ?kK ?kp ?kd ?ku ?_)); (case k1 => k_asm); (case k2 => k_asm); (case k3 => k_asm); (case k4 => k_asm); (case k5 => k_asm); (case kK => first | exact rfl | assumption); (case kp => first | trivial | omega | assumption | (refine ⟨rfl, ?_, ?_⟩ <;> omega)); (case kd => ktr_room); (case ku => ktr_units); intro t9 h9 tk9 F9 N9; (try dsimp only); (try k_fold)))
local macro_rules | `(tactic| walk_at "call ref") => `(tactic| (k_here; k_dflt (refine' use_b3 ?k1 ?k2 ?k3 ?k4 ?k5 ?kK ?kd ?ku ?_); (case k1 => k_asm); (case k2 => k_asm); (case k3 => k_asm); (case k4 => k_asm); (case k5 => k_asm); (case kK => first | exact rfl | assumption); (case kd => ktr_room); (case ku => ktr_units); intro t9 h9 tk9 F9 N9 hB9; (try dsimp only); (try k_fold)))
set_option maxHeartbeats 8000000 in
theorem c_read (w : World) (mean mg mb) : ∀ (news : List (Addr × Obj)) (x : Str) (tx : Tok), Cb2 w mean mg mb 176 news (x.length < 100) [.str x tx] (fun t => .int (readW x) t) := by
  dsimp only [Cb2, CbRet]
  k_fill
  intros
  rename_i hpre _ _ hret
  refine wpAny_call ?_
  k_dflt cell_enter
  k_with "pyIter str" => k_of "sign" => k_state (fun pre wo pl => (wo, pl) = pre.foldl readStep (0, 0) ∧ 0 ≤ pl ∧ pl ≤ 4 * (pre.length : Int)) "worth" "place"
  k_with "pyIter str" => k_of "letter" => k_state (fun pre wo pl => (wo, pl) = pre.foldl (inS kN) (kPre.foldl readStep (0, 0)) ∧ pl = (kPre.foldl readStep (0, 0)).2 + (pre.length : Int) ∧ 0 ≤ pl ∧ pl ≤ 4 * (kPre.length : Int) + (pre.length : Int)) "worth" "place"
  k_with "state" => (first | exact rs_start | exact in_start (by assumption) (by assumption) (by assumption) | exact rs_b1 (by assumption) (by assumption) (by assumption) (by assumption) | exact rs_sp (by assumption) (by assumption) (by assumption) (by assumption) (by assumption) | exact in_add (by assumption) (by assumption) (by assumption) (by assumption) (by assumption) | exact in_sub (by assumption) (by assumption) (by assumption) (by assumption) (by assumption) | exact rs_fold (by assumption) (by assumption) (by assumption) (by assumption) (by assumption) (by assumption) (by assumption) (by assumption))
  k_steps
  all_goals (refine' cb_retI hret ?e1 ?e2 ?e3; (case e2 => k_asm); (case e3 => first | k_asm | (refine' cb_drop ?cbN ?cbS; (case cbN => assumption); (case cbS => kcj_all))); (case e1 => exact rs_end (by assumption)))
end Mine
end
section
open PySem PySem.W PySem.Spec PySem.Calls PyProof.Rows
set_option maxRecDepth 100000
set_option linter.unusedVariables false
namespace Mine
local macro_rules | `(tactic| walk_at "call ref") => `(tactic| (k_here; k_dflt (first | (refine' Cb.use (c_mul _ _ _ _ _ _ _ _ _) ?k1 ?k2 ?k3 ?k4 ?k5 ?kK ?kp ?kd ?ku ?_) | (refine' Cb.use (c_xor _ _ _ _ _ _ _ _ _) ?k1 ?k2 ?k3 ?k4 ?k5 ?kK ?kp ?kd ?ku ?_) | (refine' Cb.use (c_rsh _ _ _ _ _ _ _ _ _) ?k1 ?k2 ?k3 ?k4 ?k5 ?kK ?kp ?kd ?ku ?_) | (refine' Cb.use (c_and _ _ _ _ _ _ _ _ _) ?k1 ?k2 ?k3 ?k4 ?k5 ?kK ?kp ?kd ?ku ?_) | (refine' Cb.use (c_eqi _ _ _ _ _ _ _ _ _) ?k1 ?k2 ?k3 ?k4 ?k5 ?kK ?kp ?kd ?ku ?_) | (refine' Cb.use (c_concat _ _ _ _ _ _ _ _ _) ?k1 ?k2 ?k3 ?k4 ?k5 ?kK ?kp ?kd ?ku ?_)); (case k1 => k_asm); (case k2 => k_asm); (case k3 => k_asm); (case k4 => k_asm); (case k5 => k_asm); (case kK => first | exact rfl | assumption); (case kp => first | trivial | omega | assumption | (refine ⟨?_, ?_⟩ <;> omega) | (refine ⟨?_, (by decide : (1 : Nat) < 10000)⟩; omega)); (case kd => ktr_room); (case ku => ktr_units); intro t9 h9 tk9 F9 N9; (try dsimp only); (try k_fold)))
abbrev LRet (h₀ : Heap) (L : Addr) (m : Str → Option Value) (news : List (Addr × Obj)) (s : Shared) (Q : Value → Shared → Prop) (V : List Value → Prop) : Prop :=
  ∀ (l : Addr) (vs : List Value) (n : Nat) (h' : Heap) (tk' : Nat), V vs → Fr h₀ L h' m → News h₀ L h' ((l, listOf vs.toArray n) :: news) → (∀ p ∈ news, p.1 < l) → Q (.ref l) { s with heap := h', toks := tk' }
abbrev Cb3 (w : World) (mean : ExcName → Option Value) (mg mb : Str → Option Value) (f : Addr) (news : List (Addr × Obj)) (pre : Prop) (vs : List Value) (V : List Value → Prop) : Prop :=
  ∀ (dp un : Nat) (gd : Option (List Code)) (cn : Str) (cs : Scope) (a : Addr) (ccd : Value) (cl : List (Str × Addr)) (outer : List Env) (A₀ : Around) (base h₀ : Heap) (L : Addr) (m : Str → Option Value) (s : Shared) (Q E : Value → Shared → Prop),
    Below A₀ base outer h₀ → Fr h₀ L s.heap m → (KP w.params).In h₀ → News h₀ L s.heap news → Top qV looseV mean mg mb h₀ → cs.kind = .function → pre → dp + 10 < recursionLimit → un + 1000 < cLine → LRet h₀ L m news s Q V →
      wpAny (model rwP.row.prog w) (ktrTop dp un gd cn cs L a ccd cl outer) (call (.ref f) vs) Q E s
noncomputable def wrStep (u : Int) (st : Int × Str) (k : Int) : Int × Str :=
  (st.1 / 2 ^ (1 : Int).toNat,
   if Builtin.bitAnd (u / 2 ^ (k + 1).toNat) 1 = 0 then st.2 ++ Str.ofString " "
   else if Builtin.bitAnd (st.1 / 2 ^ (1 : Int).toNat) 1 = 1 then st.2 ++ ⟨#[(97 + k.fmod 26).toNat]⟩ else st.2 ++ ⟨#[(65 + k.fmod 26).toNat]⟩)
noncomputable def wrAll (x y : Int) : Int × Str := (rangeKs 0 y.toNat).foldl (wrStep (Builtin.bitXor x (x * 3))) (x * 3, Str.ofString "")
theorem str_one (x : Str) (c : Nat) : ((x ++ (⟨#[c]⟩ : Str)).length : Int) = (x.length : Int) + 1 := by rw [Str.length_append]; rfl
theorem wr_end {x y tr : Int} {ro : Str} {t1 t2 t3 : Tok} (h : (tr, ro) = (rangeKs 0 (y - 0).toNat).foldl (wrStep (Builtin.bitXor x (x * 3))) (x * 3, Str.ofString "")) (hl : (ro.length : Int) = ((rangeKs 0 (y - 0).toNat).length : Int)) :
    ∃ u1 u2 u3, [Value.str ro t1, Value.int (Builtin.bitXor x (x * 3) / 2 ^ (y + 1).toNat) t2, Value.int (tr / 2 ^ (1 : Int).toNat) t3] = [Value.str (wrAll x y).2 u1, Value.int (Builtin.bitXor x (x * 3) / 2 ^ (y + 1).toNat) u2, Value.int ((wrAll x y).1 / 2 ^ (1 : Int).toNat) u3] ∧ (wrAll x y).2.length = y.toNat := by
  rw [Int.sub_zero] at h hl
  rw [rangeKs_length] at hl
  unfold wrAll
  rw [← h]
  exact ⟨t1, t2, t3, rfl, by exact_mod_cast hl⟩
theorem wr_start {u x : Int} : (x * 3, Str.ofString "") = ([] : List Int).foldl (wrStep u) (x * 3, Str.ofString "") ∧ ((Str.ofString "").length : Int) = (([] : List Int).length : Int) := ⟨rfl, rfl⟩
theorem wr_sp {pre : List Int} {u x tr k : Int} {ro : Str} (h : (tr, ro) = pre.foldl (wrStep u) (x * 3, Str.ofString "")) (hl : (ro.length : Int) = (pre.length : Int)) (hc : Builtin.bitAnd (u / 2 ^ (k + 1).toNat) 1 = 0) :
    (tr / 2 ^ (1 : Int).toNat, ro ++ Str.ofString " ") = (pre ++ [k]).foldl (wrStep u) (x * 3, Str.ofString "") ∧ ((ro ++ Str.ofString " ").length : Int) = ((pre ++ [k]).length : Int) := by
  rw [List.foldl_append, ← h, List.length_append, List.length_singleton]
  refine ⟨?_, ?_⟩
  · show _ = wrStep u (tr, ro) k
    unfold wrStep
    rw [if_pos hc]
  · have := str_one ro 32
    rw [show Str.ofString " " = (⟨#[32]⟩ : Str) from by decide +kernel]; omega
theorem wr_lo {pre : List Int} {u x tr k : Int} {ro : Str} (h : (tr, ro) = pre.foldl (wrStep u) (x * 3, Str.ofString "")) (hl : (ro.length : Int) = (pre.length : Int)) (hc : Builtin.bitAnd (u / 2 ^ (k + 1).toNat) 1 ≠ 0) (hd : Builtin.bitAnd (tr / 2 ^ (1 : Int).toNat) 1 = 1) :
    (tr / 2 ^ (1 : Int).toNat, ro ++ ⟨#[(97 + k.fmod 26).toNat]⟩) = (pre ++ [k]).foldl (wrStep u) (x * 3, Str.ofString "") ∧ ((ro ++ (⟨#[(97 + k.fmod 26).toNat]⟩ : Str)).length : Int) = ((pre ++ [k]).length : Int) := by
  rw [List.foldl_append, ← h, List.length_append, List.length_singleton]
  refine ⟨?_, ?_⟩
  · show _ = wrStep u (tr, ro) k
    unfold wrStep
    rw [if_neg hc, if_pos hd]
  · have := str_one ro (97 + k.fmod 26).toNat; omega
theorem wr_up {pre : List Int} {u x tr k : Int} {ro : Str} (h : (tr, ro) = pre.foldl (wrStep u) (x * 3, Str.ofString "")) (hl : (ro.length : Int) = (pre.length : Int)) (hc : Builtin.bitAnd (u / 2 ^ (k + 1).toNat) 1 ≠ 0) (hd : Builtin.bitAnd (tr / 2 ^ (1 : Int).toNat) 1 ≠ 1) :
    (tr / 2 ^ (1 : Int).toNat, ro ++ ⟨#[(65 + k.fmod 26).toNat]⟩) = (pre ++ [k]).foldl (wrStep u) (x * 3, Str.ofString "") ∧ ((ro ++ (⟨#[(65 + k.fmod 26).toNat]⟩ : Str)).length : Int) = ((pre ++ [k]).length : Int) := by
  rw [List.foldl_append, ← h, List.length_append, List.length_singleton]
  refine ⟨?_, ?_⟩
  · show _ = wrStep u (tr, ro) k
    unfold wrStep
    rw [if_neg hc, if_neg hd]
  · have := str_one ro (65 + k.fmod 26).toNat; omega
set_option maxHeartbeats 8000000 in
theorem c_write (w : World) (mean mg mb) : ∀ (news : List (Addr × Obj)) (x : Int) (tx : Tok) (y : Int) (ty : Tok), Cb3 w mean mg mb 183 news (x.natAbs < 2 ^ 59 ∧ 0 ≤ y ∧ y < 100) [.int x tx, .int y ty] (fun vs => ∃ t1 t2 t3, vs = [.str (wrAll x y).2 t1, .int (Builtin.bitXor x (x * 3) / 2 ^ (y + 1).toNat) t2, .int ((wrAll x y).1 / 2 ^ (1 : Int).toNat) t3] ∧ (wrAll x y).2.length = y.toNat) := by
  dsimp only [Cb3, LRet]
  k_fill
  intros
  rename_i xW txW yW tyW _ _ _ _ _ _ _ _ _ _ _ _ _ _ _ _ _ _ _ _ _ _ _ hpre _ _ hret
  obtain ⟨hp1, hp2, hp3⟩ := hpre
  refine wpAny_call ?_
  k_dflt cell_enter
  k_with "pyIter ref" => k_state (fun pre tr ro => (tr, ro) = pre.foldl (wrStep (Builtin.bitXor xW (xW * 3))) (xW * 3, Str.ofString "") ∧ (ro.length : Int) = (pre.length : Int)) "triple" "row"
  k_with "state" => (first | exact wr_start | exact wr_sp (by assumption) (by assumption) (by assumption) | exact wr_lo (by assumption) (by assumption) (by assumption) (by assumption) | exact wr_up (by assumption) (by assumption) (by assumption) (by assumption))
  k_steps
  all_goals (refine' hret _ _ _ _ _ ?e1 ?e2 ?e3 ?e4; (case e3 => k_asm); (case e2 => k_asm); (case e4 => assumption); (case e1 => exact wr_end (by assumption) (by assumption)))
end Mine
end
section
open PySem PySem.W PySem.Spec PySem.Calls PyProof.Rows
set_option maxRecDepth 100000
set_option linter.unusedVariables false
namespace Mine
theorem fm_of {a m v : Int} (e : Int.fmod a m = v) (h : decide (0 < m) = true) : 0 ≤ v ∧ v < m := by
  have hm := of_decide_eq_true h
  subst e
  exact ⟨Int.fmod_nonneg_of_pos a hm, Int.fmod_lt_of_pos a hm⟩
theorem ext_K {prog : Program} {w : World} {A : Around} {E : Value → Shared → Prop} {s : Shared} {h₀ : Heap} {L D b : Addr} {m : Str → Option Value} {news news' : List (Addr × Obj)} {us bs : List Value} {n n2 : Nat} {Q : Value → Shared → Prop}
    (F : Fr h₀ L s.heap m) (N : News h₀ L s.heap news) (hb : (b, listOf bs.toArray n2) ∈ news) (hne : bs.length ≠ 0) (U : Upd D (listOf us.toArray n) (listOf (us ++ bs).toArray (n + 1)) news news') (hz : us.length + bs.length ≤ 1000)
    (h : ∀ h', Fr h₀ L h' m → News h₀ L h' news' → Q .none { s with heap := h' }) : wpAny (model prog w) A (call (.builtin "list.extend") [.ref D, .ref b]) Q E s := by
  have hs : (1000 : Nat) ≤ sizeLine := by decide
  refine kl_extend F N hb rfl hne U ?_ (by show us.length ≤ _; omega) (by rw [List.size_toArray, List.size_toArray]; omega) h
  rw [List.size_toArray, List.size_toArray]
  intro q
  rw [Bool.and_eq_true_iff] at q
  have := q.2
  unfold Builtin.List.listTooLong at this
  simp at this
  omega
theorem ext_K2 {prog : Program} {w : World} {A : Around} {E : Value → Shared → Prop} {s : Shared} {h₀ : Heap} {L D b : Addr} {m : Str → Option Value} {news news' : List (Addr × Obj)} {us : List Value} {x y : Value} {n n2 : Nat} {Q : Value → Shared → Prop}
    (F : Fr h₀ L s.heap m) (N : News h₀ L s.heap news) (hb : (b, listOf #[x, y] n2) ∈ news) (U : Upd D (listOf us.toArray n) (listOf ((us ++ [x]) ++ [y]).toArray (n + 1)) news news') (hz : us.length ≤ 900)
    (h : ∀ h', Fr h₀ L h' m → News h₀ L h' news' → Q .none { s with heap := h' }) : wpAny (model prog w) A (call (.builtin "list.extend") [.ref D, .ref b]) Q E s :=
  ext_K (bs := [x, y]) F N hb (Nat.succ_ne_zero _) (by rw [List.append_assoc] at U; exact U) (by show us.length + 2 ≤ 1000; omega) h
theorem ext_K3 {prog : Program} {w : World} {A : Around} {E : Value → Shared → Prop} {s : Shared} {h₀ : Heap} {L D b : Addr} {m : Str → Option Value} {news news' : List (Addr × Obj)} {us : List Value} {x y z : Value} {n n2 : Nat} {Q : Value → Shared → Prop}
    (F : Fr h₀ L s.heap m) (N : News h₀ L s.heap news) (hb : (b, listOf #[x, y, z] n2) ∈ news) (U : Upd D (listOf us.toArray n) (listOf (((us ++ [x]) ++ [y]) ++ [z]).toArray (n + 1)) news news') (hz : us.length ≤ 900)
    (h : ∀ h', Fr h₀ L h' m → News h₀ L h' news' → Q .none { s with heap := h' }) : wpAny (model prog w) A (call (.builtin "list.extend") [.ref D, .ref b]) Q E s :=
  ext_K (bs := [x, y, z]) F N hb (Nat.succ_ne_zero _) (by rw [List.append_assoc, List.append_assoc] at U; exact U) (by show us.length + 3 ≤ 1000; omega) h
local macro_rules | `(tactic| walk_at "call builtin:list.extend") => `(tactic| (k_here; (with_reducible show wpAny _ _ (call (Value.builtin _) [Value.ref _, Value.ref _]) _ _ _); k_dflt (first | (refine' ext_K2 ?F ?N ?b ?U ?z ?_; (case F => k_asm); (case N => k_asm); (case b => k_mem); (case U => k_upd); (case z => omega)) | (refine' ext_K3 ?F ?N ?b ?U ?z ?_; (case F => k_asm); (case N => k_asm); (case b => k_mem); (case U => k_upd); (case z => omega))); intro h' F' N'; (try k_sweep)))
local macro_rules | `(tactic| walk_at "call builtin:chr") => `(tactic| (k_here; (refine' chr_K ?k1 ?_; (case k1 => first | omega | ((generalize hfm : Int.fmod _ 26 = u); (have q2 := fm_of hfm (by decide)); omega) | ((generalize hgd : List.getD ([65, 119808, 119860, 120432] : List Int) _ _ = v); (have q := getD_bd hgd (by decide)); (generalize hfm : Int.fmod _ 26 = u); (have q2 := fm_of hfm (by decide)); omega) | ((generalize hgd : List.getD ([223, 64256, 64257, 64258, 64261, 64262, 8360, 8470, 8480, 8482] : List Int) _ _ = v); (have q := getD_bd hgd (by decide)); omega) | ((generalize hgd : List.getD ([64259, 64260, 8481, 13169, 13201, 13202, 13203, 13204, 13226, 13227, 13228, 13273] : List Int) _ _ = v); (have q := getD_bd hgd (by decide)); omega)))))
local macro_rules | `(tactic| walk_at "call ref") => `(tactic| (k_here; k_dflt (first | (refine' Cb.use (c_gap _ _ _ _ _ _ _) ?k1 ?k2 ?k3 ?k4 ?k5 ?kK ?kp ?kd ?ku ?_)); (case k1 => k_asm); (case k2 => k_asm); (case k3 => k_asm); (case k4 => k_asm); (case k5 => k_asm); (case kK => first | exact rfl | assumption); (case kp => first | trivial | omega | assumption | ((generalize hfm : Int.fmod _ 27 = u); (have q2 := fm_of hfm (by decide)); (refine ⟨?_, ?_⟩ <;> omega))); (case kd => ktr_room); (case ku => ktr_units); intro t9 h9 tk9 F9 N9; (try dsimp only); (try k_fold)))
abbrev DRet (h₀ : Heap) (L : Addr) (m : Str → Option Value) (news : List (Addr × Obj)) (s : Shared) (Q : Value → Shared → Prop) (S : Str) (P : List Int) : Prop :=
  ∀ (l' p : Addr) (t : Tok) (pvs : List Value) (k n : Nat) (h' : Heap) (tk' : Nat), IntsAre pvs P → Fr h₀ L h' m → News h₀ L h' ((l', listOf #[.str S t, .ref p] n) :: (p, listOf pvs.toArray k) :: news) → (∀ q ∈ news, q.1 < p) → p < l' → Q (.ref l') { s with heap := h', toks := tk' }
abbrev Cb4 (w : World) (mean : ExcName → Option Value) (mg mb : Str → Option Value) (f : Addr) (news : List (Addr × Obj)) (pre : Prop) (vs : List Value) (S : Str) (P : List Int) : Prop :=
  ∀ (dp un : Nat) (gd : Option (List Code)) (cn : Str) (cs : Scope) (a : Addr) (ccd : Value) (cl : List (Str × Addr)) (outer : List Env) (A₀ : Around) (base h₀ : Heap) (L : Addr) (m : Str → Option Value) (s : Shared) (Q E : Value → Shared → Prop),
    Below A₀ base outer h₀ → Fr h₀ L s.heap m → (KP w.params).In h₀ → News h₀ L s.heap news → Top qV looseV mean mg mb h₀ → cs.kind = .function → pre → dp + 10 < recursionLimit → un + 1000 < cLine → DRet h₀ L m news s Q S P →
      wpAny (model rwP.row.prog w) (ktrTop dp un gd cn cs L a ccd cl outer) (call (.ref f) vs) Q E s
noncomputable def L2 : List Int := [65, 119808, 119860, 120432]
noncomputable def L3 : List Int := [223, 64256, 64257, 64258, 64261, 64262, 8360, 8470, 8480, 8482]
noncomputable def L4 : List Int := [64259, 64260, 8481, 13169, 13201, 13202, 13203, 13204, 13226, 13227, 13228, 13273]
noncomputable def drawStep (st : Str × List Int) (x : Int) : Str × List Int :=
  if x.fmod 6 = 0 then (st.1 ++ Str.ofString " ", st.2 ++ [0])
  else if x.fmod 6 = 1 then (st.1 ++ ⟨#[(97 + (x.fdiv 6).fmod 26).toNat]⟩, st.2 ++ [1])
  else if x.fmod 6 = 2 then (st.1 ++ ⟨#[(L2.getD (((x.fdiv 6).fdiv 26).fmod 4).toNat 0 + (x.fdiv 6).fmod 26).toNat]⟩, st.2 ++ [-1])
  else if x.fmod 6 = 3 then (st.1 ++ ⟨#[(L3.getD ((x.fdiv 6).fmod 10).toNat 0).toNat]⟩, st.2 ++ [-1] ++ [-1])
  else if x.fmod 6 = 4 then (st.1 ++ ⟨#[(L4.getD ((x.fdiv 6).fmod 12).toNat 0).toNat]⟩, st.2 ++ [-1] ++ [-1] ++ [-1])
  else (st.1 ++ ⟨#[gapC (1 + (x.fdiv 6).fmod 27)]⟩, st.2)
noncomputable def DInv (pre : List Int) (sp : Str) (pl : List Int) : Prop := (sp, pl) = pre.foldl drawStep (Str.ofString "", []) ∧ (sp.length : Int) ≤ (pre.length : Int) ∧ (pl.length : Int) ≤ 3 * (pre.length : Int)
theorem d_step {pre : List Int} {sp sp' : Str} {pl pl' : List Int} {k : Int} (h : (sp, pl) = pre.foldl drawStep (Str.ofString "", [])) (h1 : (sp.length : Int) ≤ (pre.length : Int)) (h2 : (pl.length : Int) ≤ 3 * (pre.length : Int))
    (hs : drawStep (sp, pl) k = (sp', pl')) (hl : ∃ c, sp' = sp ++ (⟨#[c]⟩ : Str)) (hp : pl'.length ≤ pl.length + 3) : (sp', pl') = (pre ++ [k]).foldl drawStep (Str.ofString "", []) ∧ (sp'.length : Int) ≤ ((pre ++ [k]).length : Int) ∧ (pl'.length : Int) ≤ 3 * ((pre ++ [k]).length : Int) := by
  obtain ⟨c, rfl⟩ := hl
  have := str_one sp c
  rw [List.foldl_append, ← h, List.length_append, List.length_singleton]
  exact ⟨hs.symm, by omega, by omega⟩
theorem d_start : (Str.ofString "", ([] : List Int)) = ([] : List Int).foldl drawStep (Str.ofString "", []) ∧ ((Str.ofString "").length : Int) ≤ (([] : List Int).length : Int) ∧ ((([] : List Int).length : Int)) ≤ 3 * (([] : List Int).length : Int) := ⟨rfl, by decide, by decide⟩
theorem sp_one : Str.ofString " " = (⟨#[32]⟩ : Str) := by decide +kernel
section
variable {pre : List Int} {sp : Str} {pl : List Int} {k : Int} (h : (sp, pl) = pre.foldl drawStep (Str.ofString "", [])) (h1 : (sp.length : Int) ≤ (pre.length : Int)) (h2 : (pl.length : Int) ≤ 3 * (pre.length : Int))
include h h1 h2
theorem d_0 (c0 : k.fmod 6 = 0) : (sp ++ Str.ofString " ", pl ++ [0]) = (pre ++ [k]).foldl drawStep (Str.ofString "", []) ∧ ((sp ++ Str.ofString " ").length : Int) ≤ ((pre ++ [k]).length : Int) ∧ ((pl ++ [0]).length : Int) ≤ 3 * ((pre ++ [k]).length : Int) :=
  d_step h h1 h2 (by unfold drawStep; rw [if_pos c0]) ⟨32, by rw [sp_one]⟩ (by simp)
theorem d_1 (c0 : k.fmod 6 ≠ 0) (c1 : k.fmod 6 = 1) : (sp ++ ⟨#[(97 + (k.fdiv 6).fmod 26).toNat]⟩, pl ++ [1]) = (pre ++ [k]).foldl drawStep (Str.ofString "", []) ∧ ((sp ++ (⟨#[(97 + (k.fdiv 6).fmod 26).toNat]⟩ : Str)).length : Int) ≤ ((pre ++ [k]).length : Int) ∧ ((pl ++ [1]).length : Int) ≤ 3 * ((pre ++ [k]).length : Int) :=
  d_step h h1 h2 (by unfold drawStep; rw [if_neg c0, if_pos c1]) ⟨_, rfl⟩ (by simp)
theorem d_2 (c0 : k.fmod 6 ≠ 0) (c1 : k.fmod 6 ≠ 1) (c2 : k.fmod 6 = 2) : (sp ++ ⟨#[(L2.getD (((k.fdiv 6).fdiv 26).fmod 4).toNat 0 + (k.fdiv 6).fmod 26).toNat]⟩, pl ++ [-1]) = (pre ++ [k]).foldl drawStep (Str.ofString "", []) ∧ ((sp ++ (⟨#[(L2.getD (((k.fdiv 6).fdiv 26).fmod 4).toNat 0 + (k.fdiv 6).fmod 26).toNat]⟩ : Str)).length : Int) ≤ ((pre ++ [k]).length : Int) ∧ ((pl ++ [-1]).length : Int) ≤ 3 * ((pre ++ [k]).length : Int) :=
  d_step h h1 h2 (by unfold drawStep; rw [if_neg c0, if_neg c1, if_pos c2]) ⟨_, rfl⟩ (by simp)
theorem d_3 (c0 : k.fmod 6 ≠ 0) (c1 : k.fmod 6 ≠ 1) (c2 : k.fmod 6 ≠ 2) (c3 : k.fmod 6 = 3) : (sp ++ ⟨#[(L3.getD ((k.fdiv 6).fmod 10).toNat 0).toNat]⟩, pl ++ [-1] ++ [-1]) = (pre ++ [k]).foldl drawStep (Str.ofString "", []) ∧ ((sp ++ (⟨#[(L3.getD ((k.fdiv 6).fmod 10).toNat 0).toNat]⟩ : Str)).length : Int) ≤ ((pre ++ [k]).length : Int) ∧ ((pl ++ [-1] ++ [-1]).length : Int) ≤ 3 * ((pre ++ [k]).length : Int) :=
  d_step h h1 h2 (by unfold drawStep; rw [if_neg c0, if_neg c1, if_neg c2, if_pos c3]) ⟨_, rfl⟩ (by simp)
theorem d_4 (c0 : k.fmod 6 ≠ 0) (c1 : k.fmod 6 ≠ 1) (c2 : k.fmod 6 ≠ 2) (c3 : k.fmod 6 ≠ 3) (c4 : k.fmod 6 = 4) : (sp ++ ⟨#[(L4.getD ((k.fdiv 6).fmod 12).toNat 0).toNat]⟩, pl ++ [-1] ++ [-1] ++ [-1]) = (pre ++ [k]).foldl drawStep (Str.ofString "", []) ∧ ((sp ++ (⟨#[(L4.getD ((k.fdiv 6).fmod 12).toNat 0).toNat]⟩ : Str)).length : Int) ≤ ((pre ++ [k]).length : Int) ∧ ((pl ++ [-1] ++ [-1] ++ [-1]).length : Int) ≤ 3 * ((pre ++ [k]).length : Int) :=
  d_step h h1 h2 (by unfold drawStep; rw [if_neg c0, if_neg c1, if_neg c2, if_neg c3, if_pos c4]) ⟨_, rfl⟩ (by simp)
theorem d_5 (c0 : k.fmod 6 ≠ 0) (c1 : k.fmod 6 ≠ 1) (c2 : k.fmod 6 ≠ 2) (c3 : k.fmod 6 ≠ 3) (c4 : k.fmod 6 ≠ 4) : (sp ++ ⟨#[gapC (1 + (k.fdiv 6).fmod 27)]⟩, pl) = (pre ++ [k]).foldl drawStep (Str.ofString "", []) ∧ ((sp ++ (⟨#[gapC (1 + (k.fdiv 6).fmod 27)]⟩ : Str)).length : Int) ≤ ((pre ++ [k]).length : Int) ∧ (pl.length : Int) ≤ 3 * ((pre ++ [k]).length : Int) :=
  d_step h h1 h2 (by unfold drawStep; rw [if_neg c0, if_neg c1, if_neg c2, if_neg c3, if_neg c4]) ⟨_, rfl⟩ (by simp)
end
section
variable {pre : List Int} {sp sp' : Str} {pl pl' : List Int} {k : Int}
theorem dg_0 (c0 : k.fmod 6 = 0) (h : (sp, pl) = pre.foldl drawStep (Str.ofString "", [])) (h1 : (sp.length : Int) ≤ (pre.length : Int)) (h2 : (pl.length : Int) ≤ 3 * (pre.length : Int)) (ea : sp' = sp ++ Str.ofString " ") (eb : pl' = pl ++ [0]) :
    (sp', pl') = (pre ++ [k]).foldl drawStep (Str.ofString "", []) ∧ (sp'.length : Int) ≤ ((pre ++ [k]).length : Int) ∧ (pl'.length : Int) ≤ 3 * ((pre ++ [k]).length : Int) := by
  subst ea eb
  exact d_0 h h1 h2 c0
theorem dg_1 (c0 : k.fmod 6 ≠ 0) (c1 : k.fmod 6 = 1) (h : (sp, pl) = pre.foldl drawStep (Str.ofString "", [])) (h1 : (sp.length : Int) ≤ (pre.length : Int)) (h2 : (pl.length : Int) ≤ 3 * (pre.length : Int)) (ea : sp' = sp ++ ⟨#[(97 + (k.fdiv 6).fmod 26).toNat]⟩) (eb : pl' = pl ++ [1]) :
    (sp', pl') = (pre ++ [k]).foldl drawStep (Str.ofString "", []) ∧ (sp'.length : Int) ≤ ((pre ++ [k]).length : Int) ∧ (pl'.length : Int) ≤ 3 * ((pre ++ [k]).length : Int) := by
  subst ea eb
  exact d_1 h h1 h2 c0 c1
theorem dg_2 (c0 : k.fmod 6 ≠ 0) (c1 : k.fmod 6 ≠ 1) (c2 : k.fmod 6 = 2) (h : (sp, pl) = pre.foldl drawStep (Str.ofString "", [])) (h1 : (sp.length : Int) ≤ (pre.length : Int)) (h2 : (pl.length : Int) ≤ 3 * (pre.length : Int)) (ea : sp' = sp ++ ⟨#[(L2.getD (((k.fdiv 6).fdiv 26).fmod 4).toNat 0 + (k.fdiv 6).fmod 26).toNat]⟩) (eb : pl' = pl ++ [-1]) :
    (sp', pl') = (pre ++ [k]).foldl drawStep (Str.ofString "", []) ∧ (sp'.length : Int) ≤ ((pre ++ [k]).length : Int) ∧ (pl'.length : Int) ≤ 3 * ((pre ++ [k]).length : Int) := by
  subst ea eb
  exact d_2 h h1 h2 c0 c1 c2
theorem dg_3 (c0 : k.fmod 6 ≠ 0) (c1 : k.fmod 6 ≠ 1) (c2 : k.fmod 6 ≠ 2) (c3 : k.fmod 6 = 3) (h : (sp, pl) = pre.foldl drawStep (Str.ofString "", [])) (h1 : (sp.length : Int) ≤ (pre.length : Int)) (h2 : (pl.length : Int) ≤ 3 * (pre.length : Int)) (ea : sp' = sp ++ ⟨#[(L3.getD ((k.fdiv 6).fmod 10).toNat 0).toNat]⟩) (eb : pl' = pl ++ [-1] ++ [-1]) :
    (sp', pl') = (pre ++ [k]).foldl drawStep (Str.ofString "", []) ∧ (sp'.length : Int) ≤ ((pre ++ [k]).length : Int) ∧ (pl'.length : Int) ≤ 3 * ((pre ++ [k]).length : Int) := by
  subst ea eb
  exact d_3 h h1 h2 c0 c1 c2 c3
theorem dg_4 (c0 : k.fmod 6 ≠ 0) (c1 : k.fmod 6 ≠ 1) (c2 : k.fmod 6 ≠ 2) (c3 : k.fmod 6 ≠ 3) (c4 : k.fmod 6 = 4) (h : (sp, pl) = pre.foldl drawStep (Str.ofString "", [])) (h1 : (sp.length : Int) ≤ (pre.length : Int)) (h2 : (pl.length : Int) ≤ 3 * (pre.length : Int)) (ea : sp' = sp ++ ⟨#[(L4.getD ((k.fdiv 6).fmod 12).toNat 0).toNat]⟩) (eb : pl' = pl ++ [-1] ++ [-1] ++ [-1]) :
    (sp', pl') = (pre ++ [k]).foldl drawStep (Str.ofString "", []) ∧ (sp'.length : Int) ≤ ((pre ++ [k]).length : Int) ∧ (pl'.length : Int) ≤ 3 * ((pre ++ [k]).length : Int) := by
  subst ea eb
  exact d_4 h h1 h2 c0 c1 c2 c3 c4
theorem dg_5 (c0 : k.fmod 6 ≠ 0) (c1 : k.fmod 6 ≠ 1) (c2 : k.fmod 6 ≠ 2) (c3 : k.fmod 6 ≠ 3) (c4 : k.fmod 6 ≠ 4) (h : (sp, pl) = pre.foldl drawStep (Str.ofString "", [])) (h1 : (sp.length : Int) ≤ (pre.length : Int)) (h2 : (pl.length : Int) ≤ 3 * (pre.length : Int)) (ea : sp' = sp ++ ⟨#[gapC (1 + (k.fdiv 6).fmod 27)]⟩) (eb : pl' = pl) :
    (sp', pl') = (pre ++ [k]).foldl drawStep (Str.ofString "", []) ∧ (sp'.length : Int) ≤ ((pre ++ [k]).length : Int) ∧ (pl'.length : Int) ≤ 3 * ((pre ++ [k]).length : Int) := by
  subst ea eb
  exact d_5 h h1 h2 c0 c1 c2 c3 c4
end
theorem d_end {ns : List Int} {sp : Str} {pl : List Int} {G : Prop} (h : (sp, pl) = ns.foldl drawStep (Str.ofString "", [])) (k : sp = (ns.foldl drawStep (Str.ofString "", [])).1 → pl = (ns.foldl drawStep (Str.ofString "", [])).2 → G) : G := k (by rw [← h]) (by rw [← h])
theorem allLt_mem {p : Addr} : ∀ (news : List (Addr × Obj)), AllLt p news → ∀ q, q ∈ news → q.1 < p
  | [], _, _, hq => nomatch hq
  | _ :: r, h2, q, hq => by
    rcases List.mem_cons.mp hq with rfl | hq
    · exact h2.1
    · exact allLt_mem r h2.2 q hq
theorem allLt_cons {p l : Addr} {o : Obj} {news : List (Addr × Obj)} (h : l < p) (h2 : AllLt p news) : ∀ q ∈ (l, o) :: news, q.1 < p := by
  intro q hq
  rcases List.mem_cons.mp hq with rfl | hq
  · exact h
  · exact allLt_mem news h2 q hq
theorem lt_first {p l : Addr} {G : Prop} (h : @LT.lt Nat _ p l ∧ G) : p < l := h.1
theorem allLt_cons2 {p l : Addr} {o : Obj} {news : List (Addr × Obj)} (h : l < p ∧ AllLt p news) : ∀ q ∈ (l, o) :: news, q.1 < p := allLt_cons h.1 h.2
set_option maxHeartbeats 16000000 in
theorem c_draw (w : World) (mean mg mb) : ∀ (news : List (Addr × Obj)) (l : Addr) (vs : List Value) (n : Nat) (ns : List Int), Cb4 w mean mg mb 169 ((l, listOf vs.toArray n) :: news) (IntsAre vs ns ∧ ns.length ≤ 16) [.ref l] (ns.foldl drawStep (Str.ofString "", [])).1 (ns.foldl drawStep (Str.ofString "", [])).2 := by
  dsimp only [Cb4, DRet]
  k_fill
  intros
  rename_i hpre _ _ hret
  obtain ⟨hp1, hp2⟩ := hpre
  refine wpAny_call ?_
  k_dflt cell_enter
  k_with "pyIter ref" => k_state (fun pre sp pl => (sp, pl) = pre.foldl drawStep (Str.ofString "", []) ∧ (sp.length : Int) ≤ (pre.length : Int) ∧ (pl.length : Int) ≤ 3 * (pre.length : Int)) "spelling" "places"
  k_with "state" => (first | exact dg_0 (by assumption) (by assumption) (by assumption) (by assumption) (by rfl) (by rfl) | exact dg_1 (by assumption) (by assumption) (by assumption) (by assumption) (by assumption) (by rfl) (by rfl) | exact dg_2 (by assumption) (by assumption) (by assumption) (by assumption) (by assumption) (by assumption) (by rfl) (by rfl) | exact dg_3 (by assumption) (by assumption) (by assumption) (by assumption) (by assumption) (by assumption) (by assumption) (by rfl) (by rfl) | exact dg_4 (by assumption) (by assumption) (by assumption) (by assumption) (by assumption) (by assumption) (by assumption) (by assumption) (by rfl) (by rfl) | exact dg_5 (by assumption) (by assumption) (by assumption) (by assumption) (by assumption) (by assumption) (by assumption) (by assumption) (by rfl) (by rfl) | exact d_start)
  k_steps
  all_goals (refine' d_end ?e0 fun e1 e2 => ?_; (case e0 => assumption); subst e1; subst e2; refine' hret _ _ _ _ _ _ _ _ ?e1 ?e2 ?e3 ?e4 ?e5; (case e3 => k_asm); (case e2 => k_asm); (case e1 => assumption); (case e5 => first | exact lt_first (by assumption) | omega); (case e4 => exact allLt_cons2 (by assumption)))
end Mine
end
section
open PySem PySem.W PySem.Spec PySem.Calls PyProof.Rows
set_option maxRecDepth 100000
set_option linter.unusedVariables false
namespace Mine
section
variable {prog : Program} {w : World} {A : Around} {E : Value → Shared → Prop} {s : Shared} {Q : Flow → Shared → Prop} {h₀ : Heap} {env : Env} {x : Str} {px pos : Pos} {iter : PySem.Expr} {body : List Stmt} {xt : Str} {tx : Tok} {m₀ : Str → Option Value} {news : List (Addr × Obj)} {T : Nat}
abbrev TurnEnd (h₀ : Heap) (env : Env) (s : Shared) (news : List (Addr × Obj)) (Jn : (Str → Option Value) → Prop) (Q : Flow → Shared → Prop) (f : Flow) (s' : Shared) : Prop :=
  match f with
  | .next | .cont => ∃ h' tk' m₂, s' = { s with heap := h', toks := tk' } ∧ Fr h₀ env.locals h' m₂ ∧ News h₀ env.locals h' news ∧ Jn m₂
  | .brk => Q .next s'
  | .ret v => Q (.ret v) s'
theorem loop_text {I : Addr} {ty : String} {R : Result → Shared → Prop} (J : Nat → (Str → Option Value) → Prop)
    (hitem : ∀ (s : Shared) (i c : Nat) (Q : Option Value → Shared → Prop) (E : Value → Shared → Prop), s.heap.IsStrIter I ty xt tx i → xt.cps[i]? = some c →
      (∀ h', h'.IsStrIter I ty xt tx (i + 1) → Heap.SameBut I s.heap h' → Q (some (.str ⟨#[c]⟩ s.toks)) { s with heap := h', toks := s.toks + 1 }) → wpAny (model prog w) A (pyNext (.ref I)) Q E s)
    (hend : ∀ (s : Shared) (i : Nat) (Q : Option Value → Shared → Prop) (E : Value → Shared → Prop), s.heap.IsStrIter I ty xt tx i → xt.cps[i]? = none → (∀ h', Heap.ExtBut I s.heap h' → Q none { s with heap := h' }) → wpAny (model prog w) A (pyNext (.ref I)) Q E s)
    (hx : env.kindOf x = some .local) (hp : (env.scope.kind == .class || (env.scope.kind == .module && env.locals != env.globals)) = false)
    (hIL : I ≠ env.locals) (hI0 : h₀.get? I = none) (hIn : ∀ p ∈ news, p.1 ≠ I)
    (hst : s.heap.IsStrIter I ty xt tx 0) (F : Fr h₀ env.locals s.heap m₀) (N : News h₀ env.locals s.heap news) (hT : T ≤ s.toks) (h0 : J 0 m₀)
    (turn : ∀ i c u m₁ h tk o, xt.cps[i]? = some c → T ≤ u → J i m₁ → Fr h₀ env.locals h (fun y => if y = x then some (.str ⟨#[c]⟩ u) else m₁ y) → News h₀ env.locals h ((I, o) :: news) →
      wpAny (model prog w) A (execs body env) (TurnEnd h₀ env s ((I, o) :: news) (J (i + 1)) (fun f s' => R (.ok f) s')) (notedBy (model prog w) A env fun e s' => R (.error e) s') { s with heap := h, toks := tk })
    (done : ∀ h tk m₁, J xt.cps.size m₁ → Fr h₀ env.locals h m₁ → News h₀ env.locals h news → R (.ok .next) { s with heap := h, toks := tk }) :
    codeAny (model prog w) A (.forLoop (.Name x px) (.ref I) body [] env) R s := by
  refine codeAny_forLoop
    (fun k s' => ∃ h' tk m' i, s' = { s with heap := h', toks := tk } ∧ T ≤ tk ∧ h'.IsStrIter I ty xt tx i ∧ Fr h₀ env.locals h' m' ∧ News h₀ env.locals h' news ∧ J i m' ∧ i ≤ xt.cps.size ∧ k = xt.cps.size + 1 - i) ?_ (xt.cps.size + 1)
    ⟨s.heap, s.toks, m₀, 0, rfl, hT, hst, F, N, h0, Nat.zero_le _, rfl⟩
  rintro k s' ⟨h', tk, m', i, rfl, hTk, hst', F', N', hJ, hi, rfl⟩
  by_cases hlt : i < xt.cps.size
  · refine hitem _ i xt.cps[i] _ _ hst' (by simp [hlt]) fun h₁ hst₁ hs₁ => ?_
    have F₁ := F'.change hs₁ hIL hI0
    have N₁ : News h₀ env.locals h₁ news := fun p hp => ⟨(hs₁.2 p.1 (hIn p hp)).trans (N' p hp).1, (N' p hp).2⟩
    refine wpAny_assign_Name (wpAny_storeName_local hx F₁.ns (fun h₂ hn₂ hs₂ => ?_) hp)
    have F₂ := F₁.set hn₂ hs₂
    obtain ⟨o, ho, hoc, hod⟩ := hst₁
    have N₂ : News h₀ env.locals h₂ ((I, o) :: news) := fun p hp => by
      rcases List.mem_cons.mp hp with rfl | hp
      · exact ⟨(hs₂.2 I hIL).trans ho, hIL, hI0⟩
      · exact (N₁.set hs₂) p hp
    refine wpAny_mono (turn i xt.cps[i] tk m' h₂ _ o (by simp [hlt]) hTk hJ F₂ N₂ |> wpAny_toks_of (n := T) (by show T ≤ tk + 1 + 1; omega)) (fun f s₃ h₃ => ?_) fun _ _ e => e.2
    obtain ⟨ht₃, h₃⟩ := h₃
    cases f with
    | ret v => exact h₃
    | brk => exact h₃
    | cont =>
      obtain ⟨h₃', tk₃, m₂, rfl, F₃, N₃, hJ₃⟩ := h₃
      exact ⟨xt.cps.size + 1 - (i + 1), by omega, h₃', tk₃, m₂, i + 1, rfl, ht₃, ⟨o, (N₃ _ (.head _)).1, hoc, hod⟩, F₃, fun p hp => N₃ p (.tail _ hp), hJ₃, hlt, rfl⟩
    | next =>
      obtain ⟨h₃', tk₃, m₂, rfl, F₃, N₃, hJ₃⟩ := h₃
      exact ⟨xt.cps.size + 1 - (i + 1), by omega, h₃', tk₃, m₂, i + 1, rfl, ht₃, ⟨o, (N₃ _ (.head _)).1, hoc, hod⟩, F₃, fun p hp => N₃ p (.tail _ hp), hJ₃, hlt, rfl⟩
  · have hin : i = xt.cps.size := by omega
    subst hin
    refine hend _ _ _ _ hst' (by simp) fun h₁ he => wpAny_execs_nil ?_
    have k : ∀ b o, b ≠ I → h'.get? b = some o → h₁.get? b = some o := fun b o hb e => he b o hb e
    refine done h₁ tk m' hJ ⟨F'.ns.at' fun o e => k _ o hIL.symm e, fun b o e => k b o (fun q => by rw [q, hI0] at e; cases e) (F'.keep b o e), F'.above⟩ fun p hp => ⟨k _ _ (hIn p hp) (N' p hp).1, (N' p hp).2⟩
theorem for_text (J : Nat → (Str → Option Value) → Prop) (hh : A.handled = none) (hx : env.kindOf x = some .local) (hp : (env.scope.kind == .class || (env.scope.kind == .module && env.locals != env.globals)) = false)
    (F : Fr h₀ env.locals s.heap m₀) (N : News h₀ env.locals s.heap news) (hT : T ≤ s.toks) (h0 : J 0 m₀)
    (hi : ∀ Q' : Value → Shared → Prop, Q' (.str xt tx) s → wpAny (model prog w) A (eval iter env) Q' E s)
    (turn : ∀ i c u m₁ h tk I o, xt.cps[i]? = some c → T ≤ u → J i m₁ → Fr h₀ env.locals h (fun y => if y = x then some (.str ⟨#[c]⟩ u) else m₁ y) → News h₀ env.locals h ((I, o) :: news) →
      wpAny (model prog w) A (execs body env) (TurnEnd h₀ env s ((I, o) :: news) (J (i + 1)) Q) E { s with heap := h, toks := tk })
    (done : ∀ h tk m₁, J xt.cps.size m₁ → Fr h₀ env.locals h m₁ → News h₀ env.locals h news → Q .next { s with heap := h, toks := tk })
    (hs : ∀ x, foldedSetIterable iter env x = pure x := by intro _; rfl) (hE : PassesOwn (model prog w) A env E := by passes_own) :
    wpAny (model prog w) A (exec (.For (.Name x px) iter body [] pos) env) Q E s := by
  have key : ∀ (ty : String) (ob : Obj), ob.cls = .type ty → ob.data = .fields #[.str xt tx, .int 0 0] →
      (∀ (I : Addr) (s : Shared) (i c : Nat) (Q : Option Value → Shared → Prop) (E : Value → Shared → Prop), s.heap.IsStrIter I ty xt tx i → xt.cps[i]? = some c →
        (∀ h', h'.IsStrIter I ty xt tx (i + 1) → Heap.SameBut I s.heap h' → Q (some (.str ⟨#[c]⟩ s.toks)) { s with heap := h', toks := s.toks + 1 }) → wpAny (model prog w) A (pyNext (.ref I)) Q E s) →
      (∀ (I : Addr) (s : Shared) (i : Nat) (Q : Option Value → Shared → Prop) (E : Value → Shared → Prop), s.heap.IsStrIter I ty xt tx i → xt.cps[i]? = none → (∀ h', Heap.ExtBut I s.heap h' → Q none { s with heap := h' }) → wpAny (model prog w) A (pyNext (.ref I)) Q E s) →
      codeAny (model prog w) A (.forLoop (.Name x px) (.ref s.heap.objs.size) body [] env) (fun r s' => match r with | .ok f => Q f s' | .error e => cameBackBy (model prog w) A env E e s') { s with heap := s.heap.push ob } := by
    intro ty ob hc hd hit hen
    have hfree : ob.isFreed = false := by obtain ⟨c, d, dt, sl⟩ := ob; cases hd; rfl
    refine loop_text (s := { s with heap := s.heap.push ob }) (xt := xt) (tx := tx) (m₀ := m₀) (news := news) (T := T) J (hit _) (hen _) hx hp (fun e => absurd F.ns.lt (e ▸ Nat.lt_irrefl _)) (next_is_new F) (fun p hp => Nat.ne_of_lt (Heap.lt_size (N p hp).1))
      ⟨ob, Heap.get?_push_size _ hfree, hc, hd⟩ (F.push _) (fun p hp => ⟨Heap.get?_push_of_some _ (N p hp).1, (N p hp).2⟩) hT h0 (fun i c u m₁ h tk o h1 h2 h3 F' N' => wpAny_passesOwn hE ?_) (fun h tk m₁ h1 F' N' => done h tk m₁ h1 F' N')
    refine wpAny_mono (turn i c u m₁ h tk _ o h1 h2 h3 F' N') (fun f s' z => ?_) fun _ _ e => e
    cases f <;> exact z
  refine wpAny_For (hi _ ?_) hs
  cases ha : xt.cps.all (· < 128)
  · exact wpAny_pyIter_wide ha (key "str_iterator" _ rfl rfl (fun I s i c Q E h1 h2 h3 => wpAny_pyNext_wide_item h1 h2 h3) fun I s i Q E h1 h2 h3 => wpAny_pyNext_wide_end hh h1 h2 h3)
  · exact wpAny_pyIter_ascii ha (key "str_ascii_iterator" _ rfl rfl (fun I s i c Q E h1 h2 h3 => wpAny_pyNext_ascii_item h1 h2 h3) fun I s i Q E h1 h2 h3 => wpAny_pyNext_ascii_end hh h1 h2 h3)
end
theorem none_booked (P : Params) : nsIn (KP P) 2 sharingNotToldKey = some none := by kernel_rfl
theorem is_str {M : Model} {A : Around} {E : Value → Shared → Prop} {s : Shared} {y z : Str} {u v : Tok} {Q : Value → Shared → Prop} (X : (KP M.w.params).In s.heap) (hu : u ≠ 0) (hv : v ≠ 0) (hne : u ≠ v)
    (h : ∀ b : Bool, (b = true → y = z) → Q (.bool b) s) : wpAny M A (compareOp .Is (.str y u) (.str z v)) Q E s := by
  show wpAny M A (isSame.created (y == z) u v >>= fun b => pure (Value.bool b)) Q E s
  refine wpAny_bind ?_
  unfold isSame.created
  have e1 : (u == 0 || v == 0) = false := by simp [hu, hv]
  have e2 : (u == v) = false := by simp [hne]
  rw [e1, e2]
  by_cases hyz : (y == z) = true
  · rw [hyz]
    have hb : NoneBooked s.heap := by
      have hok : nsOkIn (KP M.w.params) 2 = true := by kernel_rfl
      exact ⟨_, .of_isNs (isNs_of_in X hok), nsMap_none_of_in X hok (none_booked _)⟩
    refine (show wpAny M A (sharingNotTold u >>= _) _ _ _ from ?_)
    refine wpAny_bind (wpAny_sharingNotTold_none hb ?_)
    refine (show wpAny M A (sharingNotTold v >>= _) _ _ _ from ?_)
    refine wpAny_bind (wpAny_sharingNotTold_none hb ?_)
    exact wpAny_bind (wpAny_rule (wpAny_bind (wpAny_askSetting (wpAny_pure (wpAny_pure (h _ fun _ => eq_of_beq hyz))))))
  · rw [Bool.not_eq_true] at hyz
    rw [hyz]
    exact wpAny_pure (wpAny_pure (h false fun q => absurd q Bool.false_ne_true))
end Mine
end
section
open PySem PySem.W PySem.Spec PySem.Calls PyProof.Rows
set_option maxRecDepth 100000
set_option linter.unusedVariables false
namespace Mine
theorem is_str2 {M : Model} {A : Around} {E : Value → Shared → Prop} {s : Shared} {y z : Str} {u v : Tok} {Q : Value → Shared → Prop} (X : (KP M.w.params).In s.heap) (hv : 0 < v) (hu : v + 1 ≤ u)
    (h : ∀ b : Bool, (b = true → y = z) → Q (.bool b) s) : wpAny M A (compareOp .Is (.str y u) (.str z v)) Q E s :=
  is_str X (Nat.ne_of_gt (Nat.lt_of_lt_of_le (Nat.succ_pos _) hu)) (Nat.ne_of_gt hv) (Nat.ne_of_gt (Nat.lt_of_succ_le hu)) h
local macro_rules | `(tactic| walk_at "compareOp Is str str") => `(tactic| (k_here; (refine' is_str2 ?k1 ?k2 ?k3 ?_; (case k1 => k_in); (case k2 => assumption); (case k3 => assumption)); intro b9 hb9; (try dsimp only)))
noncomputable def CJ (m₀ : Str → Option Value) (xt : Str) (i : Nat) (m : Str → Option Value) : Prop := ∃ k t, k = ((xt.cps.toList.take i).count 32 : Int) ∧ ∀ y, y ≠ Str.ofString "i" → m y = if y = Str.ofString "count" then some (.int k t) else m₀ y
theorem turn_of {M : Model} {A : Around} {h₀ : Heap} {env : Env} {body : List Stmt} {news : List (Addr × Obj)} {Jn : (Str → Option Value) → Prop} {Q : Flow → Shared → Prop} {E : Value → Shared → Prop} {s s1 : Shared}
    (k : ∀ Q' : Flow → Shared → Prop, (∀ h' tk' m₂, Fr h₀ env.locals h' m₂ → News h₀ env.locals h' news → Jn m₂ → Q' .next { s with heap := h', toks := tk' }) → wpAny M A (execs body env) Q' E s1) :
    wpAny M A (execs body env) (TurnEnd h₀ env s news Jn Q) E s1 := k _ fun h' tk' m₂ a b c => ⟨h', tk', m₂, rfl, a, b, c⟩
theorem cj_map {m₁ m₀ : Str → Option Value} {v w : Value} (hm : ∀ y, y ≠ Str.ofString "i" → m₁ y = if y = Str.ofString "count" then some v else m₀ y) :
    (fun y => if y = Str.ofString "i" then some w else m₁ y) = fun y => if y = Str.ofString "i" then some w else if y = Str.ofString "count" then some v else m₀ y := by
  funext y
  by_cases h : y = Str.ofString "i"
  · rw [if_pos h, if_pos h]
  · rw [if_neg h, if_neg h, hm y h]
theorem fr_two {h₀ h : Heap} {L : Addr} {c A B : Str} {v va vb : Value} {l : List (Str × Value)} (F : Fr h₀ L h fun y => if y = c then some v else List.lookup y l) (hl : l = [(B, vb), (A, va)]) :
    Fr h₀ L h fun y => if y = c then some v else if y = B then some vb else if y = A then some va else none := by
  have e : (fun y => if y = c then some v else List.lookup y l) = fun y => if y = c then some v else if y = B then some vb else if y = A then some va else none := by
    funext y
    subst hl
    by_cases h1 : y = c
    · rw [if_pos h1, if_pos h1]
    · rw [if_neg h1, if_neg h1]
      by_cases h2 : y = B
      · rw [if_pos h2, h2]
        simp [List.lookup]
      · have h2' : (y == B) = false := by simp [h2]
        rw [if_neg h2]
        by_cases h3 : y = A
        · rw [if_pos h3, h3]
          subst h3
          simp [List.lookup, h2']
        · have h3' : (y == A) = false := by simp [h3]
          rw [if_neg h3]
          simp [List.lookup, h2', h3']
  exact e ▸ F
theorem ct_step {xt : Str} {i c : Nat} (hc : xt.cps[i]? = some c) : (((xt.cps.toList.take (i + 1)).count 32 : Nat) : Int) = ((xt.cps.toList.take i).count 32 : Int) + if c = 32 then 1 else 0 := by
  have hc' : xt.cps.toList[i]? = some c := by rw [Array.getElem?_toList]; exact hc
  rw [List.take_add_one, hc', List.count_append]
  by_cases h : c = 32
  · subst h
    simp
  · simp [h]
theorem cj_add {m₀ : Str → Option Value} {xt : Str} {i c : Nat} {k : Int} {t : Tok} {v w : Option Value} (hc : xt.cps[i]? = some c) (hk : k = ((xt.cps.toList.take i).count 32 : Int)) (e : (⟨#[c]⟩ : Str) = ⟨#[32]⟩) :
    CJ m₀ xt (i + 1) (fun y => if y = Str.ofString "count" then some (.int (k + 1) t) else if y = Str.ofString "i" then w else if y = Str.ofString "count" then v else m₀ y) := by
  have e2 : c = 32 := by injection e with e1; simpa using e1
  refine ⟨k + 1, t, by rw [ct_step hc, if_pos e2, hk], fun y hy => ?_⟩
  by_cases h : y = Str.ofString "count"
  · simp [h]
  · simp [h, hy]
theorem cj_same {m₀ : Str → Option Value} {xt : Str} {i c : Nat} {k : Int} {t : Tok} {w : Option Value} (hc : xt.cps[i]? = some c) (hk : k = ((xt.cps.toList.take i).count 32 : Int)) (e : ((⟨#[c]⟩ : Str) == (⟨#[32]⟩ : Str)) = false) :
    CJ m₀ xt (i + 1) (fun y => if y = Str.ofString "i" then w else if y = Str.ofString "count" then some (.int k t) else m₀ y) := by
  have e2 : c ≠ 32 := by
    intro q
    subst q
    rw [beq_self_eq_true] at e
    cases e
  refine ⟨k, t, by rw [ct_step hc, if_neg e2, hk, Int.add_zero], fun y hy => ?_⟩
  simp [hy]
theorem cj_done {m₁ m₀ : Str → Option Value} {v : Value} (hm : ∀ y, y ≠ Str.ofString "i" → m₁ y = if y = Str.ofString "count" then some v else m₀ y) :
    m₁ = fun y => if y = Str.ofString "count" then some v else m₁ y := by
  funext y
  by_cases h : y = Str.ofString "count"
  · rw [if_pos h, hm y (by rw [h]; decide +kernel), if_pos h]
  · rw [if_neg h]
set_option maxHeartbeats 8000000 in
theorem c_count (w : World) (mean mg mb) : ∀ (news : List (Addr × Obj)) (x : Str) (tx : Tok) (tb : Tok), ∀ (dp un : Nat) (gd : Option (List Code)) (cn : Str) (cs : Scope) (a : Addr) (ccd : Value) (cl : List (Str × Addr)) (outer : List Env) (A₀ : Around) (base h₀ : Heap) (L : Addr) (m : Str → Option Value) (s : Shared) (Q E : Value → Shared → Prop),
    Below A₀ base outer h₀ → Fr h₀ L s.heap m → (KP w.params).In h₀ → News h₀ L s.heap news → Top qV looseV mean mg mb h₀ → cs.kind = .function → (0 < tb ∧ tb < s.toks ∧ x.length < 10000) → dp + 10 < recursionLimit → un + 1000 < cLine → CbRet h₀ L m news s Q (fun t => .int (x.cps.toList.count 32) t) →
      wpAny (model rwP.row.prog w) (ktrTop dp un gd cn cs L a ccd cl outer) (call (.ref 84) [.str x tx, .str ⟨#[32]⟩ tb]) Q E s := by
  dsimp only [CbRet]
  k_fill
  intro news x tx tb
  intros
  rename_i hpre _ _ hret
  obtain ⟨hb0, hb1, hx⟩ := hpre
  refine wpAny_call ?_
  k_dflt cell_enter
  refine wpAny_execs_cons (wpAny_with_toks (n := tb + 1) (Nat.le_trans (Nat.succ_le_of_lt hb1) (Nat.le_add_right _ _)) ?_)
  iterate 3 walk1
  intro ht
  dsimp only at ht
  have hT0 : tb + 1 ≤ _ := ht
  try dsimp only
  refine wpAny_execs_cons ?_
  have F2 := fr_two (A := Str.ofString "a") (B := Str.ofString "b") (va := .str x tx) (vb := .str ⟨#[32]⟩ tb) (by assumption) (by kernel_rfl)
  refine' for_text (T := tb + 1) (m₀ := fun y => if y = Str.ofString "count" then some (.int 0 _) else if y = Str.ofString "b" then some (.str ⟨#[32]⟩ tb) else if y = Str.ofString "a" then some (.str x tx) else none) (CJ (fun y => if y = Str.ofString "b" then some (.str ⟨#[32]⟩ tb) else if y = Str.ofString "a" then some (.str x tx) else none) x) ?hh ?hx ?hp ?F ?N hT0 ?h0 ?hi ?turn ?done
  case hh => exact rfl
  case hx => kernel_rfl
  case hp => kernel_rfl
  case F => exact F2
  case N => k_asm
  case hi => (intro Q' hq; k_steps; exact hq)
  case h0 => exact ⟨0, _, rfl, fun y hy => rfl⟩
  case turn =>
    intro i c u m₁ h tk I o hc hu hJ F1 N1
    obtain ⟨k, t, hk, hm⟩ := hJ
    rw [cj_map hm] at F1
    refine turn_of fun Q' hq => ?_
    k_steps
    all_goals (refine' hq _ _ _ ?f ?n ?c; (case f => k_asm); (case n => k_asm); (case c => first | exact cj_same hc hk (by assumption) | exact cj_add hc hk (eq_of_beq (by assumption)) | (rename_i hb9 hb _ _ _; exact cj_add hc hk (hb9 hb))))
  case done =>
    intro h tk m₁ hJ F1 N1
    obtain ⟨k, t, hk, hm⟩ := hJ
    rw [cj_done hm] at F1
    have hk2 : k = (x.cps.toList.count 32 : Int) := by
      rw [hk, List.take_of_length_le (by rw [Array.length_toList]; exact Nat.le_refl _)]
    subst hk2
    dsimp only
    k_steps
    all_goals (refine' hret _ _ _ ?e1 ?e2; (case e1 => k_asm); (case e2 => k_asm))
end Mine
end
section
open PySem PySem.W PyProof.Rows
set_option linter.unusedVariables false
namespace Mine
theorem and_half (x y : Int) : Builtin.bitAnd x y / 2 = Builtin.bitAnd (x / 2) (y / 2) ∧ (Builtin.bitAnd x y % 2 = 1 ↔ x % 2 = 1 ∧ y % 2 = 1) := by
  unfold Builtin.bitAnd Builtin.bitNot
  by_cases hx : 0 ≤ x <;> by_cases hy : 0 ≤ y
  · have hx' : 0 ≤ x / 2 := by omega
    have hy' : 0 ≤ y / 2 := by omega
    have ex : (x / 2).toNat = x.toNat / 2 := by omega
    have ey : (y / 2).toNat = y.toNat / 2 := by omega
    simp only [hx, hy, hx', hy', decide_true, ex, ey]
    have h1 := @Nat.and_div_two x.toNat y.toNat
    have h2 := @Nat.and_mod_two_eq_one x.toNat y.toNat
    rw [← h1]
    constructor <;> omega
  · have hx' : 0 ≤ x / 2 := by omega
    have hy' : ¬ 0 ≤ y / 2 := by omega
    have ex : (x / 2).toNat = x.toNat / 2 := by omega
    have ey : (-(y / 2) - 1).toNat = (-y - 1).toNat / 2 := by omega
    simp only [hx, hy, hx', hy', decide_true, decide_false, ex, ey]
    have h1 := @Nat.and_div_two x.toNat (-y - 1).toNat
    have h2 := @Nat.and_mod_two_eq_one x.toNat (-y - 1).toNat
    rw [← h1]
    constructor <;> omega
  · have hx' : ¬ 0 ≤ x / 2 := by omega
    have hy' : 0 ≤ y / 2 := by omega
    have ex : (-(x / 2) - 1).toNat = (-x - 1).toNat / 2 := by omega
    have ey : (y / 2).toNat = y.toNat / 2 := by omega
    simp only [hx, hy, hx', hy', decide_true, decide_false, ex, ey]
    have h1 := @Nat.and_div_two y.toNat (-x - 1).toNat
    have h2 := @Nat.and_mod_two_eq_one y.toNat (-x - 1).toNat
    rw [← h1]
    constructor <;> omega
  · have hx' : ¬ 0 ≤ x / 2 := by omega
    have hy' : ¬ 0 ≤ y / 2 := by omega
    have ex : (-(x / 2) - 1).toNat = (-x - 1).toNat / 2 := by omega
    have ey : (-(y / 2) - 1).toNat = (-y - 1).toNat / 2 := by omega
    simp only [hx, hy, hx', hy', decide_false, ex, ey]
    have h1 := @Nat.or_div_two (-x - 1).toNat (-y - 1).toNat
    have h2 := @Nat.or_mod_two_eq_one (-x - 1).toNat (-y - 1).toNat
    rw [← h1]
    constructor <;> omega
theorem xor_half (x y : Int) : Builtin.bitXor x y / 2 = Builtin.bitXor (x / 2) (y / 2) := by
  have h := and_half x y
  rw [bitXor_and, bitXor_and, ← h.1]
  have h2 := h.2
  omega
theorem half_pow (x : Int) (j : Nat) : x / 2 ^ (j + 1) = x / 2 ^ j / 2 := by
  rw [Int.ediv_ediv_of_nonneg (Int.le_of_lt (Int.pow_pos (by decide))), Int.pow_succ]
theorem xor_shift (x y : Int) (j : Nat) : Builtin.bitXor x y / 2 ^ j = Builtin.bitXor (x / 2 ^ j) (y / 2 ^ j) := by
  induction j with
  | zero => simp
  | succ j ih => rw [half_pow, half_pow, half_pow, ih, xor_half]
theorem xor_bit (x y : Int) (j : Nat) : Builtin.bitAnd (Builtin.bitXor x y / 2 ^ j) 1 = (x / 2 ^ j + y / 2 ^ j) % 2 := by
  rw [bitAnd_m1, xor_shift, bitXor_and]
  omega
end Mine
end
section
open PySem PySem.W PyProof.Rows
set_option linter.unusedVariables false
namespace Mine
theorem r_bd (w : Int) (k : Nat) : 0 ≤ w * 3 / 2 ^ k - 3 * (w / 2 ^ k) ∧ w * 3 / 2 ^ k - 3 * (w / 2 ^ k) ≤ 2 := by
  induction k with
  | zero => simp; omega
  | succ k ih => rw [half_pow, half_pow]; omega
/-- is the sign at k no blank -/
abbrev par (w : Int) (k : Nat) : Int := (w / 2 ^ k + w * 3 / 2 ^ k) % 2
theorem par_no (w : Int) (k : Nat) (h : par w (k + 1) ≠ 0) : par w (k + 1 + 1) = 0 := by
  have r1 := r_bd w (k + 1)
  have r2 := r_bd w (k + 1 + 1)
  unfold par at *
  rw [half_pow w (k + 1), half_pow (w * 3) (k + 1)] at r2 ⊢
  generalize w / 2 ^ (k + 1) = A at *
  generalize w * 3 / 2 ^ (k + 1) = T at *
  omega
noncomputable def fgStep (w : Int) (i : Nat) (s : Int × Int) : Int × Int := if w / 2 ^ i % 2 = 0 then (s.1, 1 + min s.1 s.2) else (1 + min s.1 s.2, s.2)
noncomputable def FG (w : Int) (n : Nat) : Nat → Int × Int
  | 0 => (if w < 0 then 1 else 0, 1 - if w < 0 then 1 else 0)
  | j + 1 => fgStep w (n - 1 - j) (FG w n j)
noncomputable def NB (w : Int) (n : Nat) : Nat → Int
  | 0 => 0
  | j + 1 => NB w n j + par w (n - 1 - j + 1)
theorem top_A {w : Int} {n : Nat} (h : w.natAbs < 2 ^ n) : w / 2 ^ (n + 1) = if w < 0 then -1 else 0 := by
  have hp : ((2 ^ n : Nat) : Int) = (2 : Int) ^ n := by simp
  have h1 : -(2 : Int) ^ n < w ∧ w < (2 : Int) ^ n := by omega
  have h0 : (0 : Int) < 2 ^ (n + 1) := Int.pow_pos (by decide)
  have e : (2 : Int) ^ (n + 1) = 2 ^ n * 2 := Int.pow_succ _ _
  split
  · refine Int.le_antisymm ?_ ?_
    · have := (Int.ediv_lt_iff_lt_mul h0 (a := w) (b := 0)).mpr (by omega); omega
    · exact (Int.le_ediv_iff_mul_le h0).mpr (by omega)
  · refine Int.ediv_eq_zero_of_lt (by omega) (by omega)
theorem top_T {w : Int} {n : Nat} (h : w.natAbs < 2 ^ n) : -2 ≤ w * 3 / 2 ^ (n + 1) ∧ w * 3 / 2 ^ (n + 1) ≤ 1 := by
  have hp : ((2 ^ n : Nat) : Int) = (2 : Int) ^ n := by simp
  have h1 : -(2 : Int) ^ n < w ∧ w < (2 : Int) ^ n := by omega
  have h0 : (0 : Int) < 2 ^ (n + 1) := Int.pow_pos (by decide)
  have e : (2 : Int) ^ (n + 1) = 2 ^ n * 2 := Int.pow_succ _ _
  refine ⟨(Int.le_ediv_iff_mul_le h0).mpr (by omega), ?_⟩
  have := (Int.ediv_lt_iff_lt_mul h0 (a := w * 3) (b := 2)).mpr (by omega); omega
theorem top_T2 {w : Int} {n : Nat} (h : w.natAbs < 2 ^ n) : w * 3 / 2 ^ (n + 1 + 1) = if w < 0 then -1 else 0 := by
  have h2 := top_T h
  have h3 := top_A h
  have h4 := r_bd w (n + 1)
  rw [half_pow]
  rw [h3] at h4
  split <;> (rename_i hw; simp only [hw, if_true, if_false] at h4; omega)
theorem top_A2 {w : Int} {n : Nat} (h : w.natAbs < 2 ^ n) : w / 2 ^ (n + 1 + 1) = if w < 0 then -1 else 0 := by
  rw [half_pow, top_A h]
  split <;> decide
structure Good (b r F G N : Int) : Prop where
  near : F - G ≤ 1 ∧ G - F ≤ 1
  ev : b = 0 → F ≤ G
  od : b = 1 → G ≤ F
  lo : (b + r) / 2 = 0 → N = F
  hi : (b + r) / 2 = 1 → N = G
theorem good_pure {b r b' F G N : Int} (hb : b = 0 ∨ b = 1) (hb' : b' = 0 ∨ b' = 1) (hr : r = 0 ∨ r = 1 ∨ r = 2) (h : Good b' ((3 * b + r) / 2) F G N) :
    Good b r (if b = 0 then (F, 1 + min F G) else (1 + min F G, G)).1 (if b = 0 then (F, 1 + min F G) else (1 + min F G, G)).2 (N + (3 * b + r) / 2 % 2) := by
  obtain ⟨h1, h2, h3, h4, h5⟩ := h
  have hm : min F G ≤ F ∧ min F G ≤ G ∧ (min F G = F ∨ min F G = G) := by omega
  generalize min F G = M at *
  rcases hb with rfl | rfl <;> rcases hb' with rfl | rfl <;> rcases hr with rfl | rfl | rfl <;> simp at h2 h3 h4 h5 <;> constructor <;> simp <;> omega
abbrev bit (w : Int) (i : Nat) : Int := w / 2 ^ i % 2
abbrev rr (w : Int) (i : Nat) : Int := w * 3 / 2 ^ i - 3 * (w / 2 ^ i)
theorem bit_2 (w : Int) (i : Nat) : bit w i = 0 ∨ bit w i = 1 := by unfold bit; omega
theorem rr_3 (w : Int) (i : Nat) : rr w i = 0 ∨ rr w i = 1 ∨ rr w i = 2 := by have := r_bd w i; unfold rr; omega
theorem rr_next (w : Int) (i : Nat) : rr w (i + 1) = (3 * bit w i + rr w i) / 2 := by
  unfold rr bit
  rw [half_pow, half_pow]
  generalize w / 2 ^ i = A at *
  generalize w * 3 / 2 ^ i = T at *
  omega
theorem par_rr (w : Int) (i : Nat) : par w i = rr w i % 2 := by
  unfold rr par; omega
theorem good_step {w : Int} {i : Nat} {F G N : Int} (h : Good (bit w (i + 1)) (rr w (i + 1)) F G N) : Good (bit w i) (rr w i) (fgStep w i (F, G)).1 (fgStep w i (F, G)).2 (N + par w (i + 1)) := by
  rw [par_rr, rr_next] at *
  exact good_pure (bit_2 w i) (bit_2 w (i + 1)) (rr_3 w i) h
theorem good_all {w : Int} {n : Nat} (h : w.natAbs < 2 ^ n) : ∀ j, j ≤ n + 1 → Good (bit w (n + 1 - j)) (rr w (n + 1 - j)) (FG w (n + 1) j).1 (FG w (n + 1) j).2 (NB w (n + 1) j) := by
  intro j
  induction j with
  | zero =>
    intro _
    have h2 := top_T h
    have h3 := top_A h
    have h4 := r_bd w (n + 1)
    unfold FG NB bit rr
    rw [Nat.sub_zero]
    rw [h3] at h4 ⊢
    generalize w * 3 / 2 ^ (n + 1) = T at *
    by_cases hw : w < 0
    · simp only [hw, if_true] at h4 ⊢
      obtain rfl | rfl : T = -2 ∨ T = -1 := by omega
      all_goals exact ⟨by decide, by decide, by decide, by decide, by decide⟩
    · simp only [hw, if_false] at h4 ⊢
      obtain rfl | rfl : T = 0 ∨ T = 1 := by omega
      all_goals exact ⟨by decide, by decide, by decide, by decide, by decide⟩
  | succ j ih =>
    intro hj
    have := ih (by omega)
    rw [show n + 1 - j = (n + 1 - 1 - j) + 1 by omega] at this
    have := good_step this
    rw [show n + 1 - (j + 1) = n + 1 - 1 - j by omega]
    exact this
theorem fewest_is {w : Int} {n : Nat} (h : w.natAbs < 2 ^ n) : NB w (n + 1) (n + 1) = (FG w (n + 1) (n + 1)).1 := by
  have g := (good_all h (n + 1) (Nat.le_refl _)).lo
  rw [Nat.sub_self] at g
  apply g
  unfold bit rr
  rw [Int.pow_zero, Int.ediv_one, Int.ediv_one]
  omega
end Mine
end
section
open PySem PySem.W PyProof.Rows
set_option maxRecDepth 100000
set_option linter.unusedVariables false
namespace Mine
noncomputable def sgn (w : Int) (k : Nat) : Nat := if par w (k + 1) = 0 then 32 else if w * 3 / 2 ^ (k + 1) % 2 = 1 then 97 + k % 26 else 65 + k % 26
noncomputable def rowL (w : Int) (n : Nat) : List Nat := (List.range n).map (sgn w)
theorem rowL_succ (w : Int) (n : Nat) : rowL w (n + 1) = rowL w n ++ [sgn w n] := by simp [rowL, List.range_succ]
theorem rangeKs_succ (n : Nat) : rangeKs 0 (n + 1) = rangeKs 0 n ++ [(n : Int)] := by simp [rangeKs, List.range_succ]
theorem str_snoc (l : List Nat) (c : Nat) : (⟨l.toArray⟩ : Str) ++ ⟨#[c]⟩ = ⟨(l ++ [c]).toArray⟩ := Str.ext' (by show l.toArray ++ #[c] = _; simp)
theorem sp_32 : Str.ofString " " = (⟨#[32]⟩ : Str) := by decide +kernel
theorem wr_one (w : Int) (k : Nat) (ro : Str) : wrStep (Builtin.bitXor w (w * 3)) (w * 3 / 2 ^ k, ro) (k : Int) = (w * 3 / 2 ^ (k + 1), ro ++ ⟨#[sgn w k]⟩) := by
  unfold wrStep
  simp only
  rw [show ((k : Int) + 1).toNat = k + 1 by omega, xor_bit, show (1 : Int).toNat = 1 from rfl, Int.pow_succ, Int.pow_zero, Int.one_mul, ← half_pow, bitAnd_m1]
  congr 1
  unfold sgn
  split
  · rw [sp_32]
  · split
    · rw [show (97 + (k : Int).fmod 26).toNat = 97 + k % 26 by rw [Int.fmod_eq_emod_of_nonneg _ (by decide)]; omega]
    · rw [show (65 + (k : Int).fmod 26).toNat = 65 + k % 26 by rw [Int.fmod_eq_emod_of_nonneg _ (by decide)]; omega]
theorem wr_row (w : Int) (n : Nat) : (rangeKs 0 n).foldl (wrStep (Builtin.bitXor w (w * 3))) (w * 3, Str.ofString "") = (w * 3 / 2 ^ n, ⟨(rowL w n).toArray⟩) := by
  induction n with
  | zero => simp [rangeKs, rowL] <;> decide +kernel
  | succ n ih => rw [rangeKs_succ, List.foldl_append, ih, rowL_succ, ← str_snoc]; exact wr_one w n _
theorem b3v_list (k : Int) : b3v k = (b3es.find? fun e => Value.isInt k e.key).map (·.val) := by simp [b3v, findBy]
noncomputable def b3L (c : Nat) : Str := match (((b3es.find? fun e => Value.isInt (c : Int) e.key).map (·.val) : Option Value)) with | some (Value.str x _) => x | _ => Txt.lower ⟨#[c]⟩
theorem b3_L (c : Nat) : b3 c = b3L c := by
  unfold b3 b3L
  rw [b3v_list]
  all_goals (generalize Option.map (fun x => x.val) (List.find? (fun e => Value.isInt (c : Int) e.key) b3es) = o)
  all_goals (cases o <;> first | rfl | (rename_i v; cases v <;> rfl))
noncomputable def chkL (c : Nat) (e : Bool) (n : Nat) : Bool := !isB1 c && !((⟨#[c]⟩ : Str) == Str.ofString " ") && ((b3L c).cps.toList.length == n && ((b3L c == ⟨#[c]⟩) == e))
structure Chk (c : Nat) (e : Bool) (n : Nat) : Prop where
  b1 : isB1 c = false
  sp : ((⟨#[c]⟩ : Str) == Str.ofString " ") = false
  len : (KStt.codes (b3 c)).length = n
  eq : (b3 c == ⟨#[c]⟩) = e
theorem chk_of {c : Nat} {e : Bool} {n : Nat} (h : chkL c e n = true) : Chk c e n := by
  unfold chkL at h
  rw [← b3_L] at h
  simp only [Bool.and_eq_true_iff, Bool.not_eq_true', beq_iff_eq] at h
  exact ⟨h.1.1, h.1.2, by unfold KStt.codes; rw [List.length_map]; exact h.2.1, by rw [Bool.eq_iff_iff, beq_iff_eq]; rw [← h.2.2]; simp⟩
theorem chk_low : ((List.range 26).all fun i => chkL (97 + i) true 1) = true := by decide +kernel
theorem chk_up : ((List.range 26).all fun i => chkL (65 + i) false 1) = true := by decide +kernel
theorem in_fold (c : Nat) (l : List Int) (a : Int) (p : Nat) : l.foldl (inS c) (a, (p : Int)) = (a + (if (b3 c == (⟨#[c]⟩ : Str)) = true then 1 else -1) * (2 ^ (p + l.length) - 2 ^ p), ((p + l.length : Nat) : Int)) := by
  induction l generalizing a p with
  | nil => simp
  | cons x l ih =>
    have e : inS c (a, (p : Int)) x = (a + (if (b3 c == (⟨#[c]⟩ : Str)) = true then 1 else -1) * 2 ^ p, ((p + 1 : Nat) : Int)) := by
      unfold inS
      simp only [Int.toNat_natCast]
      congr 1
      split <;> omega
    rw [List.foldl_cons, e, ih, List.length_cons, show p + 1 + l.length = p + (l.length + 1) by omega]
    congr 1
    rw [Int.pow_succ]
    generalize (2 : Int) ^ (p + (l.length + 1)) = X
    split <;> omega
theorem rs_chk {c : Nat} {e : Bool} {n : Nat} (h : Chk c e n) (a : Int) (p : Nat) : readStep (a, (p : Int)) (c : Int) = (a + (if e = true then 1 else -1) * (2 ^ (p + n) - 2 ^ p), ((p + n : Nat) : Int)) := by
  unfold readStep
  rw [Int.toNat_natCast, if_neg (by rw [h.b1]; decide), if_neg (by rw [h.sp]; decide), in_fold, h.len, h.eq]
theorem rs_blank (a : Int) (p : Nat) : readStep (a, (p : Int)) ((32 : Nat) : Int) = (a, ((p + 1 : Nat) : Int)) := by
  unfold readStep
  rw [Int.toNat_natCast, if_neg (by decide +kernel), if_pos (by decide +kernel)]
  rfl
theorem codes_snoc (S : Str) (c : Nat) : KStt.codes (S ++ ⟨#[c]⟩) = KStt.codes S ++ [(c : Int)] := by
  unfold KStt.codes
  rw [Str.cps_append, Array.toList_append, List.map_append]
  rfl
theorem sgn_chk (w : Int) (k : Nat) (a : Int) : readStep (a, (k : Int)) (sgn w k : Int) = (a + (w * 3 / 2 ^ (k + 1) % 2 - w / 2 ^ (k + 1) % 2) * 2 ^ k, ((k + 1 : Nat) : Int)) := by
  have hp : (2 : Int) ^ (k + 1) = 2 ^ k * 2 := Int.pow_succ _ _
  have hm : k % 26 < 26 := Nat.mod_lt _ (by decide)
  unfold sgn
  by_cases h1 : par w (k + 1) = 0
  · rw [if_pos h1, rs_blank]
    have : w * 3 / 2 ^ (k + 1) % 2 - w / 2 ^ (k + 1) % 2 = 0 := by unfold par at h1; omega
    rw [this, Int.zero_mul, Int.add_zero]
  · rw [if_neg h1]
    by_cases h2 : w * 3 / 2 ^ (k + 1) % 2 = 1
    · rw [if_pos h2, rs_chk (chk_of (List.all_eq_true.mp chk_low (k % 26) (List.mem_range.mpr hm)))]
      have : w * 3 / 2 ^ (k + 1) % 2 - w / 2 ^ (k + 1) % 2 = 1 := by unfold par at h1; omega
      rw [this, hp]
      congr 1
      rw [if_pos rfl]
      omega
    · rw [if_neg h2, rs_chk (chk_of (List.all_eq_true.mp chk_up (k % 26) (List.mem_range.mpr hm)))]
      have : w * 3 / 2 ^ (k + 1) % 2 - w / 2 ^ (k + 1) % 2 = -1 := by unfold par at h1; omega
      rw [this, hp]
      congr 1
      rw [if_neg (by decide)]
      omega
theorem row_read (w : Int) (n : Nat) : (KStt.codes ⟨(rowL w n).toArray⟩).foldl readStep (0, 0) = (w - 2 ^ n * (w * 3 / 2 ^ (n + 1) - w / 2 ^ (n + 1)), (n : Int)) := by
  induction n with
  | zero =>
    show ((0 : Int), (0 : Int)) = _
    congr 1
    rw [Int.pow_succ, Int.pow_zero]
    omega
  | succ n ih =>
    rw [rowL_succ, ← str_snoc, codes_snoc, List.foldl_append, ih]
    show readStep (_, _) _ = _
    rw [sgn_chk]
    congr 1
    rw [half_pow w (n + 1), half_pow (w * 3) (n + 1), Int.pow_succ 2 n]
    generalize w * 3 / (2 ^ n * 2) = T
    generalize w / (2 ^ n * 2) = A
    have e1 : T % 2 - A % 2 = (T - A) - 2 * (T / 2 - A / 2) := by omega
    rw [e1]
    generalize (2 : Int) ^ n = X
    generalize T / 2 - A / 2 = Y
    generalize T - A = Z
    rw [Int.sub_mul, Int.mul_comm Z X, show 2 * Y * X = X * 2 * Y by rw [Int.mul_comm (2 * Y), Int.mul_assoc]]
    omega
theorem row_worth {w : Int} {n : Nat} (h : w.natAbs < 2 ^ n) : readW ⟨(rowL w (n + 1)).toArray⟩ = w := by
  unfold readW
  rw [row_read, top_T2 h, top_A2 h]
  simp
/-! the answers of _law_write -/
theorem wrAll_row (w : Int) (n : Nat) : (wrAll w n).2 = ⟨(rowL w n).toArray⟩ := by unfold wrAll; rw [Int.toNat_natCast, wr_row]
theorem wrAll_triple {w : Int} {n : Nat} (h : w.natAbs < 2 ^ n) : (wrAll w ((n + 1 : Nat) : Int)).1 / 2 ^ (1 : Int).toNat = if w < 0 then -1 else 0 := by
  unfold wrAll
  rw [Int.toNat_natCast, wr_row, show (1 : Int).toNat = 1 from rfl, Int.pow_succ 2 0, Int.pow_zero, Int.one_mul]
  simp only
  rw [← half_pow, top_T2 h]
theorem unlike_0 {w : Int} {n : Nat} (h : w.natAbs < 2 ^ n) : Builtin.bitXor w (w * 3) / 2 ^ (((n + 1 : Nat) : Int) + 1).toNat = 0 := by
  rw [show (((n + 1 : Nat) : Int) + 1).toNat = n + 1 + 1 by omega, xor_shift, top_T2 h, top_A2 h, bitXor_self]
/-! no neighbours; the count -/
theorem row_at (w : Int) (n k : Nat) (h : k < n) : (rowL w n)[k]? = some (sgn w k) := by
  simp [rowL, h]
theorem sgn_32 (w : Int) (k : Nat) : sgn w k = 32 ↔ par w (k + 1) = 0 := by
  unfold sgn
  constructor
  · intro h
    by_cases h1 : par w (k + 1) = 0
    · exact h1
    · rw [if_neg h1] at h
      split at h <;> omega
  · intro h
    rw [if_pos h]
theorem sgn_no (w : Int) (k : Nat) (h : sgn w k ≠ 32) : sgn w (k + 1) = 32 := by
  rw [sgn_32]
  exact par_no w k fun q => h ((sgn_32 w k).mpr q)
theorem count_top (w : Int) (n : Nat) : ∀ j, j ≤ n → (((rowL w n).drop (n - j)).count 32 : Int) + NB w n j = j := by
  intro j
  induction j with
  | zero =>
    intro _
    rw [List.drop_eq_nil_of_le (by simp [rowL])]
    simp [NB]
  | succ j ih =>
    intro hj
    have ih := ih (by omega)
    have e : (rowL w n).drop (n - (j + 1)) = sgn w (n - 1 - j) :: (rowL w n).drop (n - j) := by
      have hl : n - (j + 1) < (rowL w n).length := by simp [rowL]; omega
      rw [List.drop_eq_getElem_cons hl, show n - (j + 1) + 1 = n - j by omega]
      congr 1
      have := row_at w n (n - (j + 1)) (by omega)
      rw [List.getElem?_eq_getElem hl] at this
      rw [Option.some.inj this, show n - (j + 1) = n - 1 - j by omega]
    rw [e]
    show _ + (NB w n j + par w (n - 1 - j + 1)) = _
    by_cases hs : sgn w (n - 1 - j) = 32
    · rw [hs, List.count_cons_self, (sgn_32 _ _).mp hs]
      omega
    · rw [List.count_cons_of_ne hs]
      have h0 : par w (n - 1 - j + 1) ≠ 0 := fun q => hs ((sgn_32 _ _).mpr q)
      have : par w (n - 1 - j + 1) = 1 := by unfold par at *; omega
      omega
theorem row_count {w : Int} {n : Nat} (h : w.natAbs < 2 ^ n) : ((n + 1 : Nat) : Int) - ((rowL w (n + 1)).count 32 : Int) = (FG w (n + 1) (n + 1)).1 := by
  have := count_top w (n + 1) (n + 1) (Nat.le_refl _)
  rw [Nat.sub_self, List.drop_zero, fewest_is h] at this
  omega
end Mine
end
section
open PySem PySem.W PyProof.Rows
set_option maxRecDepth 100000
set_option linter.unusedVariables false
namespace Mine
noncomputable def wsumN (P : List Int) (n : Nat) : Int := ((List.range n).map fun k => P.getD k 0 * 2 ^ k).sum
noncomputable def wsum (P : List Int) : Int := wsumN P P.length
theorem wsumN_succ (P : List Int) (n : Nat) : wsumN P (n + 1) = wsumN P n + P.getD n 0 * 2 ^ n := by simp [wsumN, List.range_succ]
theorem wsumN_app (P Q : List Int) (n : Nat) (h : n ≤ P.length) : wsumN (P ++ Q) n = wsumN P n := by
  induction n with
  | zero => rfl
  | succ n ih =>
    rw [wsumN_succ, wsumN_succ, ih (by omega)]
    congr 2
    rw [List.getD_eq_getElem?_getD, List.getD_eq_getElem?_getD, List.getElem?_append_left (by omega)]
theorem wsum_snoc (P : List Int) (v : Int) : wsum (P ++ [v]) = wsum P + v * 2 ^ P.length := by
  unfold wsum
  rw [List.length_append, List.length_singleton, wsumN_succ, wsumN_app _ _ _ (Nat.le_refl _)]
  congr 2
  simp [List.getD_eq_getElem?_getD]
theorem wsum_ks (P : List Int) : (List.map (fun k' => P.getD k'.toNat 0 * 2 ^ k'.toNat) (rangeKs 0 ((P.length : Int) - 0).toNat)).sum = wsum P := by
  unfold wsum wsumN rangeKs
  rw [List.map_map, Int.sub_zero, Int.toNat_natCast]
  congr 1
  refine List.map_congr_left fun k _ => ?_
  simp
theorem getD_abs {P : List Int} (h : ∀ v ∈ P, v.natAbs ≤ 1) (i : Nat) : (P.getD i 0).natAbs ≤ 1 := by
  rw [List.getD_eq_getElem?_getD]
  cases hx : P[i]? with
  | none => decide
  | some x => exact h x (List.mem_of_getElem? hx)
theorem wsumN_bd {P : List Int} (h : ∀ v ∈ P, v.natAbs ≤ 1) (n : Nat) : (wsumN P n).natAbs < 2 ^ n := by
  induction n with
  | zero => exact Nat.zero_lt_one
  | succ n ih =>
    rw [wsumN_succ]
    have h1 := getD_abs h n
    have h2 : (P.getD n 0 * 2 ^ n).natAbs ≤ 2 ^ n := by
      rw [Int.natAbs_mul, Int.natAbs_pow]
      exact Nat.le_trans (Nat.mul_le_mul_right _ h1) (by rw [Nat.one_mul]; exact Nat.le_refl _)
    have h3 := Int.natAbs_add_le (wsumN P n) (P.getD n 0 * 2 ^ n)
    rw [Nat.pow_succ]
    omega
theorem wsum_bd {P : List Int} (h : ∀ v ∈ P, v.natAbs ≤ 1) : (wsum P).natAbs < 2 ^ P.length := wsumN_bd h _
theorem mul_fit {P : List Int} (h : ∀ v ∈ P, v.natAbs ≤ 1) (i : Nat) (b : Int) : IntMulOk (P.getD i 0) b := by
  have := getD_abs h i
  exact .of_left (intBits_le_64 (by omega) (by omega))
theorem wsum_rep (P : List Int) (v : Int) (m : Nat) : wsum (P ++ List.replicate m v) = wsum P + v * (2 ^ (P.length + m) - 2 ^ P.length) := by
  induction m with
  | zero => simp
  | succ m ih =>
    rw [List.replicate_succ', ← List.append_assoc, wsum_snoc, ih, List.length_append, List.length_replicate, ← Nat.add_assoc, Int.pow_succ]
    generalize (2 : Int) ^ (P.length + m) = X
    rw [Int.add_assoc, ← Int.mul_add]
    congr 2
    omega
theorem chk_2 : ((List.range 4).all fun j => (List.range 26).all fun i => chkL ((L2.getD j 0).toNat + i) false 1) = true := by decide +kernel
theorem chk_3 : ((List.range 10).all fun i => chkL (L3.getD i 0).toNat false 2) = true := by decide +kernel
theorem chk_4 : ((List.range 12).all fun i => chkL (L4.getD i 0).toNat false 3) = true := by decide +kernel
theorem chk_gap : ((List.range 27).all fun (i : Nat) => isB1 (gapC (1 + (i : Int)))) = true := by decide +kernel
theorem pos_2 : ((List.range 4).all fun j => decide (0 ≤ L2.getD j 0)) = true := by decide +kernel
structure DI (n : Nat) (S : Str) (P : List Int) : Prop where
  rd : (KStt.codes S).foldl readStep (0, 0) = (wsum P, (P.length : Int))
  ls : S.length ≤ n
  lp : P.length ≤ 3 * n
  sm : ∀ v ∈ P, v.natAbs ≤ 1
section
variable {n : Nat} {S : Str} {P : List Int} (h : DI n S P)
include h
theorem di_one (c : Nat) (Q : List Int) (hq : Q.length ≤ 3) (hs : ∀ v ∈ Q, v.natAbs ≤ 1) (hr : readStep (wsum P, (P.length : Int)) (c : Int) = (wsum (P ++ Q), ((P ++ Q).length : Int))) : DI (n + 1) (S ++ ⟨#[c]⟩) (P ++ Q) := by
  refine ⟨?_, ?_, ?_, ?_⟩
  · rw [codes_snoc, List.foldl_append, h.rd]
    exact hr
  · rw [Str.length_append]
    exact Nat.add_le_add h.ls (Nat.le_refl 1)
  · have := h.lp
    rw [List.length_append]
    omega
  · intro v hv
    rcases List.mem_append.mp hv with hv | hv
    · exact h.sm v hv
    · exact hs v hv
theorem di_chk {c : Nat} {e : Bool} {m : Nat} (k : Chk c e m) (hm : m ≤ 3) : DI (n + 1) (S ++ ⟨#[c]⟩) (P ++ List.replicate m (if e = true then 1 else -1)) := by
  refine di_one h c _ (by rw [List.length_replicate]; exact hm) (fun v hv => ?_) ?_
  · rw [(List.mem_replicate.mp hv).2]
    cases e <;> decide
  · rw [rs_chk k, wsum_rep, List.length_append, List.length_replicate]
theorem di_sp : DI (n + 1) (S ++ Str.ofString " ") (P ++ [0]) := by
  rw [sp_32]
  refine di_one h 32 [0] (by decide) (by decide) ?_
  rw [rs_blank, wsum_snoc, Int.zero_mul, Int.add_zero, List.length_append, List.length_singleton]
theorem di_gap {c : Nat} (hc : isB1 c = true) : DI (n + 1) (S ++ ⟨#[c]⟩) P := by
  have := di_one h c [] (by decide) (by simp) (by unfold readStep; rw [Int.toNat_natCast, if_pos hc, List.append_nil])
  rw [List.append_nil] at this
  exact this
theorem di_step (x : Int) : DI (n + 1) (drawStep (S, P) x).1 (drawStep (S, P) x).2 := by
  have m26 : 0 ≤ (x.fdiv 6).fmod 26 ∧ (x.fdiv 6).fmod 26 < 26 := ⟨Int.fmod_nonneg_of_pos _ (by decide), Int.fmod_lt_of_pos _ (by decide)⟩
  have m4 : 0 ≤ ((x.fdiv 6).fdiv 26).fmod 4 ∧ ((x.fdiv 6).fdiv 26).fmod 4 < 4 := ⟨Int.fmod_nonneg_of_pos _ (by decide), Int.fmod_lt_of_pos _ (by decide)⟩
  have m10 : 0 ≤ (x.fdiv 6).fmod 10 ∧ (x.fdiv 6).fmod 10 < 10 := ⟨Int.fmod_nonneg_of_pos _ (by decide), Int.fmod_lt_of_pos _ (by decide)⟩
  have m12 : 0 ≤ (x.fdiv 6).fmod 12 ∧ (x.fdiv 6).fmod 12 < 12 := ⟨Int.fmod_nonneg_of_pos _ (by decide), Int.fmod_lt_of_pos _ (by decide)⟩
  have m27 : 0 ≤ (x.fdiv 6).fmod 27 ∧ (x.fdiv 6).fmod 27 < 27 := ⟨Int.fmod_nonneg_of_pos _ (by decide), Int.fmod_lt_of_pos _ (by decide)⟩
  unfold drawStep
  by_cases c0 : x.fmod 6 = 0
  · rw [if_pos c0]
    exact di_sp h
  rw [if_neg c0]
  by_cases c1 : x.fmod 6 = 1
  · rw [if_pos c1, show (97 + (x.fdiv 6).fmod 26).toNat = 97 + ((x.fdiv 6).fmod 26).toNat by omega]
    exact di_chk h (chk_of (List.all_eq_true.mp chk_low _ (List.mem_range.mpr (by omega)))) (by decide)
  rw [if_neg c1]
  by_cases c2 : x.fmod 6 = 2
  · have hj : (((x.fdiv 6).fdiv 26).fmod 4).toNat ∈ List.range 4 := List.mem_range.mpr (by omega)
    have hp := of_decide_eq_true (List.all_eq_true.mp pos_2 _ hj)
    rw [if_pos c2, show (L2.getD (((x.fdiv 6).fdiv 26).fmod 4).toNat 0 + (x.fdiv 6).fmod 26).toNat = (L2.getD (((x.fdiv 6).fdiv 26).fmod 4).toNat 0).toNat + ((x.fdiv 6).fmod 26).toNat by omega]
    exact di_chk h (chk_of (List.all_eq_true.mp (List.all_eq_true.mp chk_2 _ hj) _ (List.mem_range.mpr (by omega)))) (by decide)
  rw [if_neg c2]
  by_cases c3 : x.fmod 6 = 3
  · rw [if_pos c3]
    have := di_chk h (chk_of (List.all_eq_true.mp chk_3 ((x.fdiv 6).fmod 10).toNat (List.mem_range.mpr (by omega)))) (by decide)
    simp only [List.append_assoc]
    exact this
  rw [if_neg c3]
  by_cases c4 : x.fmod 6 = 4
  · rw [if_pos c4]
    have := di_chk h (chk_of (List.all_eq_true.mp chk_4 ((x.fdiv 6).fmod 12).toNat (List.mem_range.mpr (by omega)))) (by decide)
    simp only [List.append_assoc]
    exact this
  rw [if_neg c4]
  have := List.all_eq_true.mp chk_gap ((x.fdiv 6).fmod 27).toNat (List.mem_range.mpr (by omega))
  rw [show ((((x.fdiv 6).fmod 27).toNat : Nat) : Int) = (x.fdiv 6).fmod 27 by omega] at this
  exact di_gap h this
end
theorem di_fold (ns : List Int) : ∀ (n : Nat) (S : Str) (P : List Int), DI n S P → DI (n + ns.length) (ns.foldl drawStep (S, P)).1 (ns.foldl drawStep (S, P)).2 := by
  induction ns with
  | nil => intro n S P h; exact h
  | cons x ns ih =>
    intro n S P h
    have := ih (n + 1) _ _ (di_step h x)
    rw [List.length_cons, show n + (ns.length + 1) = n + 1 + ns.length by omega]
    exact this
theorem di_nil : DI 0 (Str.ofString "") [] := ⟨by decide +kernel, by decide, by decide, by simp⟩
theorem di_draw (ns : List Int) : DI ns.length (ns.foldl drawStep (Str.ofString "", [])).1 (ns.foldl drawStep (Str.ofString "", [])).2 := by
  have := di_fold ns 0 _ _ di_nil
  rw [Nat.zero_add] at this
  exact this
end Mine
end
section
open PySem PySem.W PySem.Spec PySem.Calls PyProof.Rows
set_option maxRecDepth 100000
set_option linter.unusedVariables false
namespace Mine
noncomputable def bL6 : List Stmt := by
  refine' (fun (b : List Stmt) (_ : List.drop 10 bS22 = b) => b) _ ?h
  case h => conv => lhs; whnf
theorem fr_see {h₀ h : Heap} {L : Addr} {f : Str → Option Value} {a : Str} {v : Option Value} (F : Fr h₀ L h f) (e : f a = v) : Fr h₀ L h (fun y => if y = a then v else f y) := by
  have : (fun y => if y = a then v else f y) = f := by
    funext y
    by_cases q : y = a
    · rw [if_pos q, q, e]
    · rw [if_neg q]
  rw [this]
  exact F
theorem use_count {w : World} {mean : ExcName → Option Value} {mg mb : Str → Option Value} {news : List (Addr × Obj)} {x : Str} {tx tb : Tok}
    {dp un : Nat} {gd : Option (List Code)} {cn : Str} {cs : Scope} {a : Addr} {ccd : Value} {cl : List (Str × Addr)} {outer : List Env} {A₀ : Around} {base h₀ : Heap} {L : Addr} {m : Str → Option Value} {s : Shared} {Q E : Value → Shared → Prop}
    (B : Below A₀ base outer h₀) (F : Fr h₀ L s.heap m) (X : (KP w.params).In h₀) (N : News h₀ L s.heap news) (T : Top qV looseV mean mg mb h₀) (hk : cs.kind = .function)
    (hp : 0 < tb ∧ tb < s.toks ∧ x.length < 10000) (hd : dp + 10 < recursionLimit) (hu : un + 1000 < cLine) (hret : CbRet h₀ L m news s Q (fun t => .int (x.cps.toList.count 32) t)) :
    wpAny (model rwP.row.prog w) (ktrTop dp un gd cn cs L a ccd cl outer) (call (.ref 84) [.str x tx, .str (Str.ofString " ") tb]) Q E s := by
  rw [show Str.ofString " " = (⟨#[32]⟩ : Str) from by decide +kernel]
  exact c_count w mean mg mb news x tx tb dp un gd cn cs a ccd cl outer A₀ base h₀ L m s Q E B F X N T hk hp hd hu hret
local macro_rules | `(tactic| walk_at "call ref") => `(tactic| (k_here; k_dflt (refine' use_count ?k1 ?k2 ?k3 ?k4 ?k5 ?kK ?kp ?kd ?ku ?_); (case k1 => k_asm); (case k2 => k_asm); (case k3 => k_asm); (case k4 => k_asm); (case k5 => k_asm); (case kK => k_dflt (exact rfl)); (case kp => k_dflt (exact ⟨Nat.lt_of_lt_of_le Nat.zero_lt_one (by assumption), Nat.lt_succ_self _, Nat.lt_trans (by assumption) (by decide : (100 : Nat) < 10000)⟩)); (case kd => k_dflt (decide +kernel)); (case ku => k_dflt (decide +kernel)); intro t9 h9 tk9 F9 N9; (try dsimp only); (try k_fold)))
set_option maxHeartbeats 16000000 in
theorem c_law6 (w : World) (mean mg mb) : ∀ (h₀ : Heap) (L fa : Addr) (cdv : Value) (s : Shared) (fe : Int) (n : Nat) (R : Str) (u1 u2 u4 : Tok) (f : Str → Option Value) (Q : Flow → Shared → Prop),
    Below callerA h₀ [] h₀ → Fr h₀ L s.heap f → f (Str.ofString "row") = some (.str R u1) → f (Str.ofString "size") = some (.int ((n : Int) + 1) u2) → f (Str.ofString "fewest") = some (.int fe u4) → (KP w.params).In h₀ → News h₀ L s.heap [] → Top qV looseV mean mg mb h₀ → R.length < 100 → 1 ≤ s.toks → 
    ((n : Int) + 1 - (R.cps.toList.count 32 : Int) = fe) →
    (∀ h' tk' m', Fr h₀ L h' m' → Q (.ret (.bool true)) { s with heap := h', toks := tk' }) →
    wpAny (model rwP.row.prog w) (callerA.deeper (envOfC (Str.ofString "law") sS22 L fa cdv)) (execs bL6 (envOfC (Str.ofString "law") sS22 L fa cdv)) Q (fun _ _ => False) s := by
  k_fill
  intro h₀ L fa cdv s fe n R u1 u2 u4 f Q B F0 e1 e2 e4 X N T hR1 ht hEnd hret
  have F1 := fr_see F0 e1
  have F2 := fr_see F1 ((if_neg (by decide +kernel)).trans e2)
  have F := fr_see F2 ((if_neg (by decide +kernel)).trans ((if_neg (by decide +kernel)).trans e4))
  clear F0 F1 F2 e1 e2 e4
  dsimp only [bL6]
  iterate 19 (first | (k_unfold; (try dsimp only)) | (k_end; wrow_close) | walk1 | (dsimp only; walk1))
  (rw [beq_iff_eq.mpr hEnd]; exact hret _ _ _ (by assumption))
end Mine
end
section
open PySem PySem.W PySem.Spec PySem.Calls PyProof.Rows
set_option maxRecDepth 100000
set_option linter.unusedVariables false
namespace Mine
noncomputable def bL5 : List Stmt := by
  refine' (fun (b : List Stmt) (_ : List.drop 9 bS22 = b) => b) _ ?h
  case h => conv => lhs; whnf
noncomputable def cStep (W : Int) (n : Nat) (s : Int × Int) (k : Int) : Int × Int := if (W.fdiv (2 ^ ((n : Int) + 1 - 1 - k).toNat)).fmod 2 = 0 then (s.1, 1 + if s.2 < s.1 then s.2 else s.1) else (1 + if s.2 < s.1 then s.2 else s.1, s.2)
theorem cs_0 {W : Int} {n : Nat} {p : Int × Int} {pre : List Int} {a b k : Int} (h : (a, b) = pre.foldl (cStep W n) p) (hc : (W.fdiv (2 ^ ((n : Int) + 1 - 1 - k).toNat)).fmod 2 = 0) : (a, 1 + if b < a then b else a) = (pre ++ [k]).foldl (cStep W n) p := by
  rw [List.foldl_append, ← h]
  show _ = cStep W n (a, b) k
  unfold cStep
  rw [if_pos hc]
theorem cs_1 {W : Int} {n : Nat} {p : Int × Int} {pre : List Int} {a b k : Int} (h : (a, b) = pre.foldl (cStep W n) p) (hc : (W.fdiv (2 ^ ((n : Int) + 1 - 1 - k).toNat)).fmod 2 ≠ 0) : (1 + if b < a then b else a, b) = (pre ++ [k]).foldl (cStep W n) p := by
  rw [List.foldl_append, ← h]
  show _ = cStep W n (a, b) k
  unfold cStep
  rw [if_neg hc]
local macro_rules | `(tactic| walk_at "execs cons") => `(tactic| (refine wpAny_execs_cons ?_))
local macro_rules | `(tactic| walk_at "execs nil") => `(tactic| (refine wpAny_execs_nil ?_))
set_option maxHeartbeats 16000000 in
theorem c_law5 (w : World) (mean mg mb) : ∀ (h₀ : Heap) (L fa : Addr) (cdv : Value) (s : Shared) (W f0 a0 : Int) (n : Nat) (R : Str) (u1 u2 u3 u4 u5 : Tok) (f : Str → Option Value) (Q : Flow → Shared → Prop),
    Below callerA h₀ [] h₀ → Fr h₀ L s.heap f → f (Str.ofString "row") = some (.str R u1) → f (Str.ofString "size") = some (.int ((n : Int) + 1) u2) → f (Str.ofString "worth") = some (.int W u3) → f (Str.ofString "fewest") = some (.int f0 u4) → f (Str.ofString "after") = some (.int a0 u5) → (KP w.params).In h₀ → News h₀ L s.heap [] → Top qV looseV mean mg mb h₀ → n ≤ 48 → R.length < 100 → 1 ≤ s.toks → 
    ((n : Int) + 1 - (R.cps.toList.count 32 : Int) = ((rangeKs 0 ((n : Int) + 1 - 0).toNat).foldl (cStep W n) (f0, a0)).1) →
    (∀ h' tk' m', Fr h₀ L h' m' → Q (.ret (.bool true)) { s with heap := h', toks := tk' }) →
    wpAny (model rwP.row.prog w) (callerA.deeper (envOfC (Str.ofString "law") sS22 L fa cdv)) (execs bL5 (envOfC (Str.ofString "law") sS22 L fa cdv)) Q (fun _ _ => False) s := by
  k_fill
  intro h₀ L fa cdv s W f0 a0 n R u1 u2 u3 u4 u5 f Q B F0 e1 e2 e3 e4 e5 X N T hn hR1 ht hEnd hret
  have F1 := fr_see F0 e1
  have F2 := fr_see F1 ((if_neg (by decide +kernel)).trans e2)
  have F3 := fr_see F2 ((if_neg (by decide +kernel)).trans ((if_neg (by decide +kernel)).trans e3))
  have F4 := fr_see F3 ((if_neg (by decide +kernel)).trans ((if_neg (by decide +kernel)).trans ((if_neg (by decide +kernel)).trans e4)))
  have F := fr_see F4 ((if_neg (by decide +kernel)).trans ((if_neg (by decide +kernel)).trans ((if_neg (by decide +kernel)).trans ((if_neg (by decide +kernel)).trans e5))))
  clear F0 F1 F2 F3 F4 e1 e2 e3 e4 e5
  dsimp only [bL5]
  k_with "pyIter ref" => k_state (fun pre fe af => (fe, af) = pre.foldl (cStep W n) (f0, a0)) "fewest" "after"
  k_with "state" => (first | exact rfl | exact cs_0 (by assumption) (by assumption) | exact cs_1 (by assumption) (by assumption))
  refine wpAny_execs_cons (wpAny_with_toks (n := 1) ht (wpAny_noRaise ?_))
  iterate 65 (first | (k_unfold; (try dsimp only)) | (k_end; wrow_close) | walk1 | (dsimp only; walk1))
  (intro ht9; refine c_law6 w mean mg mb h₀ L fa cdv _ ?fe n R u1 u2 ?u4 _ Q B kFr ?e1 ?e2 ?e4 X kNews T hR1 ht9 ?e ?r; (case e1 => (repeat (refine (if_neg (by decide +kernel)).trans ?_)); exact if_pos rfl); (case e2 => (repeat (refine (if_neg (by decide +kernel)).trans ?_)); exact if_pos rfl); (case e4 => (repeat (refine (if_neg (by decide +kernel)).trans ?_)); exact if_pos rfl); (case e => rw [← kInv] at hEnd; exact hEnd); (case r => exact hret))
end Mine
end
section
open PySem PySem.W PySem.Spec PySem.Calls PyProof.Rows
set_option maxRecDepth 100000
set_option linter.unusedVariables false
namespace Mine
noncomputable def bL4 : List Stmt := by
  refine' (fun (b : List Stmt) (_ : List.drop 6 bS22 = b) => b) _ ?h
  case h => conv => lhs; whnf
noncomputable def NoNb (R : Str) (n : Nat) : Prop := ∀ k : Int, 1 ≤ k → k < (n : Int) + 1 → (Txt.item R (k - 1) != Str.ofString " ") = true → (Txt.item R k != Str.ofString " ") = true → False
theorem NoNb.use {R : Str} {n l : Nat} {k : Int} (h : NoNb R n) (hk : k = 1 + (l : Int)) (hl : l < ((n : Int) + 1 - 1).toNat) (a : (Txt.item R (k - 1) != Str.ofString " ") = true) (b : (Txt.item R k != Str.ofString " ") = true) : False := h k (by omega) (by omega) a b
local macro_rules | `(tactic| walk_at "exec Return some") => `(tactic| (exfalso; exact NoNb.use (by assumption) (by assumption) (by assumption) (by assumption) (by assumption)))
set_option maxHeartbeats 16000000 in
theorem c_law4 (w : World) (mean mg mb) : ∀ (h₀ : Heap) (L fa : Addr) (cdv : Value) (s : Shared) (W : Int) (n : Nat) (R : Str) (u1 u2 u3 : Tok) (f : Str → Option Value) (Q : Flow → Shared → Prop),
    Below callerA h₀ [] h₀ → Fr h₀ L s.heap f → f (Str.ofString "row") = some (.str R u1) → f (Str.ofString "size") = some (.int ((n : Int) + 1) u2) → f (Str.ofString "worth") = some (.int W u3) → (KP w.params).In h₀ → News h₀ L s.heap [] → Top qV looseV mean mg mb h₀ → n ≤ 48 → R.length < 100 → (R.length : Int) = (n : Int) + 1 → NoNb R n →
    (∀ f0 a0 : Int, (W < 0 → f0 = 1 ∧ a0 = 1 - 1) → (0 ≤ W → f0 = 0 ∧ a0 = 1 - 0) → (n : Int) + 1 - (R.cps.toList.count 32 : Int) = ((rangeKs 0 ((n : Int) + 1 - 0).toNat).foldl (cStep W n) (f0, a0)).1) →
    (∀ h' tk' m', Fr h₀ L h' m' → Q (.ret (.bool true)) { s with heap := h', toks := tk' }) →
    wpAny (model rwP.row.prog w) (callerA.deeper (envOfC (Str.ofString "law") sS22 L fa cdv)) (execs bL4 (envOfC (Str.ofString "law") sS22 L fa cdv)) Q (fun _ _ => False) s := by
  k_fill
  intro h₀ L fa cdv s W n R u1 u2 u3 f Q B F0 e1 e2 e3 X N T hn hR1 hR hNo hEnd hret
  have F1 := fr_see F0 e1
  have F2 := fr_see F1 ((if_neg (by decide +kernel)).trans e2)
  have F := fr_see F2 ((if_neg (by decide +kernel)).trans ((if_neg (by decide +kernel)).trans e3))
  clear F0 F1 F2 e1 e2 e3
  dsimp only [bL4]
  k_with "pyIter ref" => k_search (fun pre => True)
  iterate 74 (first | (k_unfold; (try dsimp only)) | (k_end; wrow_close) | walk1 | (dsimp only; walk1))
  (refine' c_law5 w mean mg mb h₀ L fa cdv _ W ?f0 ?a0 n R u1 u2 u3 ?u4 ?u5 _ Q B ?F ?e1 ?e2 ?e3 ?e4 ?e5 X ?N T hn hR1 ?ht ?e ?r; (case F => assumption); (case N => assumption); (case e1 => (repeat (refine (if_neg (by decide +kernel)).trans ?_)); exact if_pos rfl); (case e2 => (repeat (refine (if_neg (by decide +kernel)).trans ?_)); exact if_pos rfl); (case e3 => (repeat (refine (if_neg (by decide +kernel)).trans ?_)); exact if_pos rfl); (case e4 => (repeat (refine (if_neg (by decide +kernel)).trans ?_)); exact if_pos rfl); (case e5 => (repeat (refine (if_neg (by decide +kernel)).trans ?_)); exact if_pos rfl); (case ht => exact Nat.succ_le_succ (Nat.zero_le _)); (case e => first | exact hEnd 1 (1 - 1) (fun _ => ⟨rfl, rfl⟩) (fun h => by omega) | exact hEnd 0 (1 - 0) (fun h => by omega) (fun _ => ⟨rfl, rfl⟩)); (case r => exact hret))
  iterate 9 (first | (k_unfold; (try dsimp only)) | (k_end; wrow_close) | walk1 | (dsimp only; walk1))
  (refine' c_law5 w mean mg mb h₀ L fa cdv _ W ?zf0 ?za0 n R u1 u2 u3 ?zu4 ?zu5 _ Q B ?zF ?ze1 ?ze2 ?ze3 ?ze4 ?ze5 X ?zN T hn hR1 ?zht ?ze ?zr; (case zF => assumption); (case zN => assumption); (case ze1 => (repeat (refine (if_neg (by decide +kernel)).trans ?_)); exact if_pos rfl); (case ze2 => (repeat (refine (if_neg (by decide +kernel)).trans ?_)); exact if_pos rfl); (case ze3 => (repeat (refine (if_neg (by decide +kernel)).trans ?_)); exact if_pos rfl); (case ze4 => (repeat (refine (if_neg (by decide +kernel)).trans ?_)); exact if_pos rfl); (case ze5 => (repeat (refine (if_neg (by decide +kernel)).trans ?_)); exact if_pos rfl); (case zht => exact Nat.succ_le_succ (Nat.zero_le _)); (case ze => first | exact hEnd 1 (1 - 1) (fun _ => ⟨rfl, rfl⟩) (fun h => by omega) | exact hEnd 0 (1 - 0) (fun h => by omega) (fun _ => ⟨rfl, rfl⟩)); (case zr => exact hret))
  
end Mine
end
section
open PySem PySem.W PySem.Spec PySem.Calls PyProof.Rows
set_option maxRecDepth 100000
set_option linter.unusedVariables false
namespace Mine
noncomputable def bL3 : List Stmt := by
  refine' (fun (b : List Stmt) (_ : List.drop 5 bS22 = b) => b) _ ?h
  case h => conv => lhs; whnf
theorem Cb2.use' {w : World} {mean : ExcName → Option Value} {mg mb : Str → Option Value} {f : Addr} {news : List (Addr × Obj)} {pre : Prop} {vs : List Value} {R : Tok → Value} (C : Cb2 w mean mg mb f news pre vs R)
    {dp un : Nat} {gd : Option (List Code)} {cn : Str} {cs : Scope} {a : Addr} {ccd : Value} {cl : List (Str × Addr)} {outer : List Env} {A₀ : Around} {base h₀ : Heap} {L : Addr} {m : Str → Option Value} {s : Shared} {Q E : Value → Shared → Prop}
    (B : Below A₀ base outer h₀) (F : Fr h₀ L s.heap m) (X : (KP w.params).In h₀) (N : News h₀ L s.heap news) (T : Top qV looseV mean mg mb h₀) (hk : cs.kind = .function)
    (hp : pre) (hd : dp + 10 < recursionLimit) (hu : un + 1000 < cLine) (hret : CbRet h₀ L m news s Q R) :
    wpAny (model rwP.row.prog w) (ktrTop dp un gd cn cs L a ccd cl outer) (call (.ref f) vs) Q E s :=
  C dp un gd cn cs a ccd cl outer A₀ base h₀ L m s Q E B F X N T hk hp hd hu hret
local macro_rules | `(tactic| walk_at "call ref") => `(tactic| (k_here; k_dflt (refine' Cb2.use' (c_read _ _ _ _ _ _ _) ?k1 ?k2 ?k3 ?k4 ?k5 ?kK ?kp ?kd ?ku ?_); (case k1 => k_asm); (case k2 => k_asm); (case k3 => k_asm); (case k4 => k_asm); (case k5 => k_asm); (case kK => k_dflt (exact rfl)); (case kp => k_dflt (first | assumption | (show _ < 100; omega))); (case kd => k_dflt (decide +kernel)); (case ku => k_dflt (decide +kernel)); intro t9 h9 tk9 F9 N9; (try dsimp only); (try k_fold)))
local macro_rules | `(tactic| walk_at "exec Return some") => `(tactic| (exfalso; first | contradiction | omega))
set_option maxHeartbeats 16000000 in
theorem c_law3 (w : World) (mean mg mb) : ∀ (h₀ : Heap) (L fa : Addr) (cdv : Value) (s : Shared) (W U T3 : Int) (n : Nat) (R : Str) (u1 u2 u3 u4 u5 : Tok) (f : Str → Option Value) (Q : Flow → Shared → Prop),
    Below callerA h₀ [] h₀ → Fr h₀ L s.heap f → f (Str.ofString "row") = some (.str R u1) → f (Str.ofString "size") = some (.int ((n : Int) + 1) u2) → f (Str.ofString "worth") = some (.int W u3) → f (Str.ofString "unlike") = some (.int U u4) → f (Str.ofString "triple") = some (.int T3 u5) → (KP w.params).In h₀ → News h₀ L s.heap [] → Top qV looseV mean mg mb h₀ → n ≤ 48 → R.length < 100 → (R.length : Int) = (n : Int) + 1 → U = 0 → (W < 0 → T3 = -1) → (¬ W < 0 → T3 = 0) → readW R = W → NoNb R n →
    (∀ f0 a0 : Int, (W < 0 → f0 = 1 ∧ a0 = 1 - 1) → (0 ≤ W → f0 = 0 ∧ a0 = 1 - 0) → (n : Int) + 1 - (R.cps.toList.count 32 : Int) = ((rangeKs 0 ((n : Int) + 1 - 0).toNat).foldl (cStep W n) (f0, a0)).1) →
    (∀ h' tk' m', Fr h₀ L h' m' → Q (.ret (.bool true)) { s with heap := h', toks := tk' }) →
    wpAny (model rwP.row.prog w) (callerA.deeper (envOfC (Str.ofString "law") sS22 L fa cdv)) (execs bL3 (envOfC (Str.ofString "law") sS22 L fa cdv)) Q (fun _ _ => False) s := by
  k_fill
  intro h₀ L fa cdv s W U T3 n R u1 u2 u3 u4 u5 f Q B F0 e1 e2 e3 e4 e5 X N T hn hR1 hR hU hT0 hT1 hRd hNo hEnd hret
  have F1 := fr_see F0 e1
  have F2 := fr_see F1 ((if_neg (by decide +kernel)).trans e2)
  have F3 := fr_see F2 ((if_neg (by decide +kernel)).trans ((if_neg (by decide +kernel)).trans e3))
  have F4 := fr_see F3 ((if_neg (by decide +kernel)).trans ((if_neg (by decide +kernel)).trans ((if_neg (by decide +kernel)).trans e4)))
  have F := fr_see F4 ((if_neg (by decide +kernel)).trans ((if_neg (by decide +kernel)).trans ((if_neg (by decide +kernel)).trans ((if_neg (by decide +kernel)).trans e5))))
  clear F0 F1 F2 F3 F4 e1 e2 e3 e4 e5
  dsimp only [bL3]
  iterate 54 (first | (k_unfold; (try dsimp only)) | (k_end; wrow_close) | walk1 | (dsimp only; walk1))
  (refine' c_law4 w mean mg mb h₀ L fa cdv _ W n R u1 u2 u3 _ Q B ?yF ?ye1 ?ye2 ?ye3 X ?yN T hn hR1 hR hNo hEnd ?yr; (case yF => assumption); (case yN => assumption); (case ye1 => (repeat (refine (if_neg (by decide +kernel)).trans ?_)); exact if_pos rfl); (case ye2 => (repeat (refine (if_neg (by decide +kernel)).trans ?_)); exact if_pos rfl); (case ye3 => (repeat (refine (if_neg (by decide +kernel)).trans ?_)); exact if_pos rfl); (case yr => exact hret))
  iterate 29 (first | (k_unfold; (try dsimp only)) | (k_end; wrow_close) | walk1 | (dsimp only; walk1))
  (refine' c_law4 w mean mg mb h₀ L fa cdv _ W n R u1 u2 u3 _ Q B ?zF ?ze1 ?ze2 ?ze3 X ?zN T hn hR1 hR hNo hEnd ?zr; (case zF => assumption); (case zN => assumption); (case ze1 => (repeat (refine (if_neg (by decide +kernel)).trans ?_)); exact if_pos rfl); (case ze2 => (repeat (refine (if_neg (by decide +kernel)).trans ?_)); exact if_pos rfl); (case ze3 => (repeat (refine (if_neg (by decide +kernel)).trans ?_)); exact if_pos rfl); (case zr => exact hret))
end Mine
end
section
open PySem PySem.W PySem.Spec PySem.Calls PyProof.Rows
set_option maxRecDepth 100000
set_option linter.unusedVariables false
namespace Mine
noncomputable def bL2 : List Stmt := by
  refine' (fun (b : List Stmt) (_ : List.drop 1 bS22 = b) => b) _ ?h
  case h => conv => lhs; whnf
structure Facts (W : Int) (n : Nat) : Prop where
  len : ((wrAll W ((n : Int) + 1)).2.length : Int) = (n : Int) + 1
  U0 : Builtin.bitXor W (W * 3) / 2 ^ ((n : Int) + 1 + 1).toNat = 0
  T0 : W < 0 → (wrAll W ((n : Int) + 1)).1 / 2 ^ Int.toNat 1 = -1
  T1 : ¬ W < 0 → (wrAll W ((n : Int) + 1)).1 / 2 ^ Int.toNat 1 = 0
  rd : readW (wrAll W ((n : Int) + 1)).2 = W
  no : NoNb (wrAll W ((n : Int) + 1)).2 n
  fe : ∀ f0 a0 : Int, (W < 0 → f0 = 1 ∧ a0 = 1 - 1) → (0 ≤ W → f0 = 0 ∧ a0 = 1 - 0) → (n : Int) + 1 - ((wrAll W ((n : Int) + 1)).2.cps.toList.count 32 : Int) = ((rangeKs 0 ((n : Int) + 1 - 0).toNat).foldl (cStep W n) (f0, a0)).1
theorem Cb2.use {w : World} {mean : ExcName → Option Value} {mg mb : Str → Option Value} {f : Addr} {news : List (Addr × Obj)} {pre : Prop} {vs : List Value} {R : Tok → Value} (C : Cb2 w mean mg mb f news pre vs R)
    {dp un : Nat} {gd : Option (List Code)} {cn : Str} {cs : Scope} {a : Addr} {ccd : Value} {cl : List (Str × Addr)} {outer : List Env} {A₀ : Around} {base h₀ : Heap} {L : Addr} {m : Str → Option Value} {s : Shared} {Q E : Value → Shared → Prop}
    (B : Below A₀ base outer h₀) (F : Fr h₀ L s.heap m) (X : (KP w.params).In h₀) (N : News h₀ L s.heap news) (T : Top qV looseV mean mg mb h₀) (hk : cs.kind = .function)
    (hp : pre) (hd : dp + 10 < recursionLimit) (hu : un + 1000 < cLine) (hret : CbRet h₀ L m news s Q R) :
    wpAny (model rwP.row.prog w) (ktrTop dp un gd cn cs L a ccd cl outer) (call (.ref f) vs) Q E s :=
  C dp un gd cn cs a ccd cl outer A₀ base h₀ L m s Q E B F X N T hk hp hd hu hret
theorem Cb3.use {w : World} {mean : ExcName → Option Value} {mg mb : Str → Option Value} {f : Addr} {news : List (Addr × Obj)} {pre : Prop} {vs : List Value} {V : List Value → Prop} (C : Cb3 w mean mg mb f news pre vs V)
    {dp un : Nat} {gd : Option (List Code)} {cn : Str} {cs : Scope} {a : Addr} {ccd : Value} {cl : List (Str × Addr)} {outer : List Env} {A₀ : Around} {base h₀ : Heap} {L : Addr} {m : Str → Option Value} {s : Shared} {Q E : Value → Shared → Prop}
    (B : Below A₀ base outer h₀) (F : Fr h₀ L s.heap m) (X : (KP w.params).In h₀) (N : News h₀ L s.heap news) (T : Top qV looseV mean mg mb h₀) (hk : cs.kind = .function)
    (hp : pre) (hd : dp + 10 < recursionLimit) (hu : un + 1000 < cLine) (hret : LRet h₀ L m news s Q V) :
    wpAny (model rwP.row.prog w) (ktrTop dp un gd cn cs L a ccd cl outer) (call (.ref f) vs) Q E s :=
  C dp un gd cn cs a ccd cl outer A₀ base h₀ L m s Q E B F X N T hk hp hd hu hret
local macro_rules | `(tactic| walk_at "binaryOp Mult int int") => `(tactic| (refine' mul_int ?_ ?kmul; (case kmul => apply_assumption)))
local macro_rules | `(tactic| walk_at "call ref") => `(tactic| (k_here; k_dflt (refine' Cb2.use (c_read _ _ _ _ _ _ _) ?k1 ?k2 ?k3 ?k4 ?k5 ?kK ?kp ?kd ?ku ?_); (case k1 => k_asm); (case k2 => k_asm); (case k3 => k_asm); (case k4 => k_asm); (case k5 => k_asm); (case kK => k_dflt (exact rfl)); (case kp => k_dflt (show _ < 100; omega)); (case kd => k_dflt (decide +kernel)); (case ku => k_dflt (decide +kernel)); intro t9 h9 tk9 F9 N9; (try dsimp only); (try k_fold)))
local macro_rules | `(tactic| walk_at "exec Return some") => `(tactic| (exfalso; contradiction))
local macro_rules | `(tactic| walk_at "call ref") => `(tactic| (k_here; k_dflt (refine' Cb3.use (c_write _ _ _ _ _ _ _ _ _) ?k1 ?k2 ?k3 ?k4 ?k5 ?kK ?kp ?kd ?ku ?_); (case k1 => k_asm); (case k2 => k_asm); (case k3 => k_asm); (case k4 => k_asm); (case k5 => k_asm); (case kK => k_dflt (exact rfl)); (case kp => k_dflt (refine ⟨?_, ?_, ?_⟩ <;> first | assumption | omega)); (case kd => k_dflt (decide +kernel)); (case ku => k_dflt (decide +kernel)); intro l9 vs9 n9 h9 tk9 V9 F9 N9 A9; obtain ⟨u1, u2, u3, e9, hl9⟩ := V9; subst e9; (replace N9 : News _ _ _ ((_, listOf #[_, _, _] _) :: _) := N9); (try dsimp only); (try k_fold)))
set_option maxHeartbeats 16000000 in
theorem c_law2 (w : World) (mean mg mb) : ∀ (h₀ : Heap) (L fa : Addr) (cdv : Value) (s : Shared) (pvs : List Value) (P : List Int) (S : Str) (t : Tok) (p : Addr) (k : Nat) (ob : Obj) (m : Str → Option Value) (Q : Flow → Shared → Prop),
    Below callerA h₀ [] h₀ → Fr h₀ L s.heap (fun y => if y = Str.ofString "spelling" then some (.str S t) else m y) → (KP w.params).In h₀ → News h₀ L s.heap [(p, listOf pvs.toArray k), (L + 1, ob)] → ob.data = .cell (some (.ref p)) → Top qV looseV mean mg mb h₀ → IntsAre pvs P → P.length ≤ 48 → (readW S = (List.map (fun k' => P.getD k'.toNat 0 * 2 ^ k'.toNat) (rangeKs 0 ((P.length : Int) - 0).toNat)).sum) → ((List.map (fun k' => P.getD k'.toNat 0 * 2 ^ k'.toNat) (rangeKs 0 ((P.length : Int) - 0).toNat)).sum.natAbs < 2 ^ 59) → (∀ (i : Nat) (b : Int), IntMulOk (P.getD i 0) b) → S.length ≤ 16 → Facts ((List.map (fun k' => P.getD k'.toNat 0 * 2 ^ k'.toNat) (rangeKs 0 ((P.length : Int) - 0).toNat)).sum) P.length →
    (∀ h' tk' m', Fr h₀ L h' m' → Q (.ret (.bool true)) { s with heap := h', toks := tk' }) →
    wpAny (model rwP.row.prog w) (callerA.deeper (envOfC (Str.ofString "law") sS22 L fa cdv)) (execs bL2 (envOfC (Str.ofString "law") sS22 L fa cdv)) Q (fun _ _ => False) s := by
  k_fill
  intro h₀ L fa cdv s pvs P S t p k ob m Q B F X N hob T hI hn hR hW hM hS hFa hret
  dsimp only [bL2]
  iterate 97 (first | (k_unfold; (try dsimp only)) | (k_end; wrow_close) | walk1 | (dsimp only; walk1))
  (refine' c_law3 w mean mg mb h₀ L fa cdv _ _ _ _ P.length _ ?c1 ?c2 ?c3 ?c4 ?c5 _ Q B ?cF ?ce1 ?ce2 ?ce3 ?ce4 ?ce5 X ?cN T hn ?cR1 hFa.len hFa.U0 hFa.T0 hFa.T1 hFa.rd hFa.no hFa.fe ?cr; (case cF => assumption); (case cN => intro p hp; cases hp); (case cR1 => have := hFa.len; omega); (case ce1 => (repeat (refine (if_neg (by decide +kernel)).trans ?_)); exact if_pos rfl); (case ce2 => (repeat (refine (if_neg (by decide +kernel)).trans ?_)); exact if_pos rfl); (case ce3 => (repeat (refine (if_neg (by decide +kernel)).trans ?_)); exact if_pos rfl); (case ce4 => (repeat (refine (if_neg (by decide +kernel)).trans ?_)); exact if_pos rfl); (case ce5 => (repeat (refine (if_neg (by decide +kernel)).trans ?_)); exact if_pos rfl); (case cr => exact hret))
end Mine
end
section
open PySem PySem.W PyProof.Rows
set_option maxRecDepth 100000
set_option linter.unusedVariables false
namespace Mine
theorem item_row (w : Int) (n k : Nat) (h : k < n) : Txt.item ⟨(rowL w n).toArray⟩ (k : Int) = ⟨#[sgn w k]⟩ := by
  have h1 := row_at w n k h
  have hs : (⟨(rowL w n).toArray⟩ : Str).length = n := by show (rowL w n).toArray.size = n; simp [rowL]
  unfold Txt.item
  congr 2
  unfold Txt.charAt
  have e : seqIndex? (k : Int) n = some k := by
    unfold seqIndex?
    rw [if_neg (by omega : ¬ (k : Int) < 0)]
    simp [h]
  rw [hs, e]
  simp [h1]
theorem row_no (w : Int) (n : Nat) : NoNb ⟨(rowL w (n + 1)).toArray⟩ n := by
  intro k h1 h2 ha hb
  obtain ⟨j, rfl⟩ : ∃ j : Nat, k = (j : Int) + 1 := ⟨(k - 1).toNat, by omega⟩
  rw [show (j : Int) + 1 - 1 = (j : Int) by omega, item_row w (n + 1) j (by omega)] at ha
  rw [show (j : Int) + 1 = ((j + 1 : Nat) : Int) by omega, item_row w (n + 1) (j + 1) (by omega)] at hb
  rw [sp_32] at ha hb
  have h3 : sgn w j ≠ 32 := by
    intro q
    rw [q] at ha
    exact absurd ha (by decide)
  rw [sgn_no w j h3] at hb
  exact absurd hb (by decide)
theorem fg_fold (w : Int) (n : Nat) (f0 a0 : Int) (h : (f0, a0) = FG w (n + 1) 0) : ∀ j, j ≤ n + 1 → (rangeKs 0 j).foldl (cStep w n) (f0, a0) = FG w (n + 1) j := by
  intro j
  induction j with
  | zero => intro _; exact h
  | succ j ih =>
    intro hj
    rw [rangeKs_succ, List.foldl_append, ih (by omega)]
    show cStep w n (FG w (n + 1) j) (j : Int) = fgStep w (n + 1 - 1 - j) (FG w (n + 1) j)
    generalize FG w (n + 1) j = s
    unfold cStep fgStep
    rw [show ((n : Int) + 1 - 1 - (j : Int)).toNat = n + 1 - 1 - j by omega, Int.fdiv_eq_ediv_of_nonneg _ (Int.le_of_lt (Int.pow_pos (by decide))), Int.fmod_eq_emod_of_nonneg _ (by decide)]
    have hm : min s.1 s.2 = if s.2 < s.1 then s.2 else s.1 := by split <;> omega
    rw [hm]
theorem facts_of {w : Int} {n : Nat} (h : w.natAbs < 2 ^ n) : Facts w n := by
  have e : (n : Int) + 1 = ((n + 1 : Nat) : Int) := rfl
  refine ⟨?_, ?_, ?_, ?_, ?_, ?_, ?_⟩
  · rw [e, wrAll_row]
    show (((rowL w (n + 1)).toArray.size : Nat) : Int) = _
    simp [rowL]
  · exact unlike_0 h
  · intro hw
    have := wrAll_triple h
    rw [if_pos hw] at this
    exact this
  · intro hw
    have := wrAll_triple h
    rw [if_neg hw] at this
    exact this
  · rw [e, wrAll_row]
    exact row_worth h
  · rw [e, wrAll_row]
    exact row_no w n
  · intro f0 a0 h1 h2
    rw [show ((n : Int) + 1 - 0).toNat = n + 1 by omega]
    have hf : (f0, a0) = FG w (n + 1) 0 := by
      unfold FG
      by_cases hw : w < 0
      · rw [(h1 hw).1, (h1 hw).2]; simp [hw]
      · rw [(h2 (by omega)).1, (h2 (by omega)).2]; simp [hw]
    rw [fg_fold w n f0 a0 hf (n + 1) (Nat.le_refl _), ← row_count h, e, wrAll_row]
/-- all that the drawn row gives -/
structure Drawn (S : Str) (P : List Int) : Prop where
  lp : P.length ≤ 48
  rd : readW S = (List.map (fun k' => P.getD k'.toNat 0 * 2 ^ k'.toNat) (rangeKs 0 ((P.length : Int) - 0).toNat)).sum
  bd : (List.map (fun k' => P.getD k'.toNat 0 * 2 ^ k'.toNat) (rangeKs 0 ((P.length : Int) - 0).toNat)).sum.natAbs < 2 ^ 59
  ml : ∀ (i : Nat) (b : Int), IntMulOk (P.getD i 0) b
  ls : S.length ≤ 16
  fc : Facts ((List.map (fun k' => P.getD k'.toNat 0 * 2 ^ k'.toNat) (rangeKs 0 ((P.length : Int) - 0).toNat)).sum) P.length
theorem drawn_of (ns : List Int) (h : ns.length ≤ 16) : Drawn (ns.foldl drawStep (Str.ofString "", [])).1 (ns.foldl drawStep (Str.ofString "", [])).2 := by
  have d := di_draw ns
  generalize (ns.foldl drawStep (Str.ofString "", [])).1 = S at *
  generalize (ns.foldl drawStep (Str.ofString "", [])).2 = P at *
  have hb := wsum_bd d.sm
  have hl : P.length ≤ 48 := by have := d.lp; omega
  refine ⟨hl, ?_, ?_, mul_fit d.sm, by have := d.ls; omega, ?_⟩
  · rw [wsum_ks]
    unfold readW
    rw [d.rd]
  · rw [wsum_ks]
    exact Nat.lt_of_lt_of_le hb (Nat.le_trans (Nat.pow_le_pow_right (by decide) hl) (Nat.pow_le_pow_right (by decide) (by decide : 48 ≤ 59)))
  · rw [wsum_ks]
    exact facts_of hb
end Mine
end
section
open PySem PySem.W PySem.Spec PySem.Calls PyProof.Rows
set_option maxRecDepth 100000
set_option linter.unusedVariables false
namespace Mine
theorem Cb4.use {w : World} {mean : ExcName → Option Value} {mg mb : Str → Option Value} {f : Addr} {news : List (Addr × Obj)} {pre : Prop} {vs : List Value} {S : Str} {P : List Int} (C : Cb4 w mean mg mb f news pre vs S P)
    {dp un : Nat} {gd : Option (List Code)} {cn : Str} {cs : Scope} {a : Addr} {ccd : Value} {cl : List (Str × Addr)} {outer : List Env} {A₀ : Around} {base h₀ : Heap} {L : Addr} {m : Str → Option Value} {s : Shared} {Q E : Value → Shared → Prop}
    (B : Below A₀ base outer h₀) (F : Fr h₀ L s.heap m) (X : (KP w.params).In h₀) (N : News h₀ L s.heap news) (T : Top qV looseV mean mg mb h₀) (hk : cs.kind = .function)
    (hp : pre) (hd : dp + 10 < recursionLimit) (hu : un + 1000 < cLine) (hret : DRet h₀ L m news s Q S P) :
    wpAny (model rwP.row.prog w) (ktrTop dp un gd cn cs L a ccd cl outer) (call (.ref f) vs) Q E s :=
  C dp un gd cn cs a ccd cl outer A₀ base h₀ L m s Q E B F X N T hk hp hd hu hret
theorem go2 {w : World} {mean : ExcName → Option Value} {mg mb : Str → Option Value} {h₀ : Heap} {L fa : Addr} {cdv : Value} {s : Shared} {pvs : List Value} {ns : List Int} {t : Tok} {p : Addr} {k : Nat} {ob : Obj} {m : Str → Option Value} {Q : Flow → Shared → Prop} {a c d : Addr × Obj}
    (B : Below callerA h₀ [] h₀) (F : Fr h₀ L s.heap (fun y => if y = Str.ofString "spelling" then some (.str (ns.foldl drawStep (Str.ofString "", [])).1 t) else m y)) (X : (KP w.params).In h₀) (N : News h₀ L s.heap [a, (p, listOf pvs.toArray k), c, d, (L + 1, ob)]) (hob : ob.data = .cell (some (.ref p)))
    (T : Top qV looseV mean mg mb h₀) (hI : IntsAre pvs (ns.foldl drawStep (Str.ofString "", [])).2) (hns : ns.length ≤ 16) (hret : ∀ h' tk' m', Fr h₀ L h' m' → Q (.ret (.bool true)) { s with heap := h', toks := tk' }) :
    wpAny (model rwP.row.prog w) (callerA.deeper (envOfC (Str.ofString "law") sS22 L fa cdv)) (execs bL2 (envOfC (Str.ofString "law") sS22 L fa cdv)) Q (fun _ _ => False) s :=
  have D := drawn_of ns hns
  c_law2 w mean mg mb h₀ L fa cdv s pvs _ _ t p k ob m Q B F X (fun q hq => by
    rcases List.mem_cons.mp hq with rfl | hq
    · exact N _ (.tail _ (.head _))
    · rcases List.mem_cons.mp hq with rfl | hq
      · exact N _ (.tail _ (.tail _ (.tail _ (.tail _ (.head _)))))
      · cases hq) hob T hI D.lp D.rd D.bd D.ml D.ls D.fc hret
local macro_rules | `(tactic| walk_at "call ref") => `(tactic| (k_here; k_dflt (refine' Cb4.use (c_draw _ _ _ _ _ _ _ _ _) ?k1 ?k2 ?k3 ?k4 ?k5 ?kK ?kp ?kd ?ku ?_); (case k1 => k_asm); (case k2 => k_asm); (case k3 => k_asm); (case k4 => k_asm); (case k5 => k_asm); (case kK => k_dflt (exact rfl)); (case kp => k_dflt (refine ⟨by assumption, ?_⟩; omega)); (case kd => k_dflt (decide +kernel)); (case ku => k_dflt (decide +kernel)); intro l9 p9 t9 pvs k9 n9 h9 tk9 I9 F9 N9 A9 Q9; (simp only [List.forall_mem_cons] at A9); (obtain ⟨_, _, z9, _⟩ := A9); (have z8 := Nat.lt_trans z9 Q9); (have z7 := Nat.lt_of_lt_of_le z9 (Nat.le_refl _)); (have z6 := Nat.lt_of_lt_of_le Q9 (Nat.le_refl _)); (try dsimp only); (try k_fold)))
local macro_rules | `(tactic| walk_at "call ref") => `(tactic| (k_here; k_dflt (refine' Cb4.use (c_draw _ _ _ _ _ _ _ _ [2, 1, 2]) ?k1 ?k2 ?k3 ?k4 ?k5 ?kK ?kp ?kd ?ku ?_); (case k1 => k_asm); (case k2 => k_asm); (case k3 => k_asm); (case k4 => k_asm); (case k5 => k_asm); (case kK => k_dflt (exact rfl)); (case kp => k_dflt (exact ⟨IntsAre.cons _ _ (IntsAre.cons _ _ (IntsAre.cons _ _ IntsAre.nil)), by decide⟩)); (case kd => k_dflt (decide +kernel)); (case ku => k_dflt (decide +kernel)); intro l9 p9 t9 pvs k9 n9 h9 tk9 I9 F9 N9 A9 Q9; (simp only [List.forall_mem_cons] at A9); (obtain ⟨_, _, z9, _⟩ := A9); (have z8 := Nat.lt_trans z9 Q9); (have z7 := Nat.lt_of_lt_of_le z9 (Nat.le_refl _)); (have z6 := Nat.lt_of_lt_of_le Q9 (Nat.le_refl _)); (try dsimp only); (try k_fold)))
set_option maxHeartbeats 16000000 in
theorem c_law (w : World) (mean mg mb) : ∀ (h₀ : Heap) (L fa : Addr) (cdv : Value) (s : Shared) (vs : List Value) (ns : List Int) (la : Addr) (ob : Obj) (Q : Flow → Shared → Prop),
    Below callerA h₀ [] h₀ → Fr h₀ L s.heap (fun y => if y = Str.ofString "script" then some (.ref la) else none) → (KP w.params).In h₀ → News h₀ L s.heap [(L + 1, ob)] → ob.data = .cell none → Top qV looseV mean mg mb h₀ → h₀.IsList la vs.toArray → IntsAre vs ns → ¬ (63 < ns.length) →
    (∀ h' tk' m', Fr h₀ L h' m' → Q (.ret (.bool true)) { s with heap := h', toks := tk' }) →
    wpAny (model rwP.row.prog w) (callerA.deeper (envOfC (Str.ofString "law") sS22 L fa cdv)) (execs bS22 (envOfC (Str.ofString "law") sS22 L fa cdv)) Q (fun _ _ => False) s := by
  k_fill
  intro h₀ L fa cdv s vs ns la ob Q B F X N hob T hL hI hn hret
  dsimp only [bS22]
  iterate 37 (first | (k_unfold; (try dsimp only)) | (k_end; wrow_close) | walk1 | (dsimp only; walk1))
  (refine' go2 B ?yF X ?yN ?yo T ?yI ?yl ?yr; (case yF => assumption); (case yN => assumption); (case yo => assumption); (case yI => assumption); (case yl => first | decide | omega); (case yr => exact hret))
  iterate 19 (first | (k_unfold; (try dsimp only)) | (k_end; wrow_close) | walk1 | (dsimp only; walk1))
  (refine' go2 B ?zF X ?zN ?zo T ?zI ?zl ?zr; (case zF => assumption); (case zN => assumption); (case zo => assumption); (case zI => assumption); (case zl => first | decide | omega); (case zr => exact hret))
end Mine
end
section
open PySem PySem.W PySem.Spec PySem.Calls PyProof.Rows
set_option maxRecDepth 100000
set_option linter.unusedVariables false
namespace Mine
theorem fr_eq {h₀ h : Heap} {L : Addr} {m m' : Str → Option Value} (F : Fr h₀ L h m) (e : m = m') : Fr h₀ L h m' := e ▸ F
theorem looseV_eq : looseW qV looseV = looseV := by kernel_rfl
set_option maxHeartbeats 16000000 in
theorem walkP : WalkP := by
  w_strict (k_go0)
  rename_i ns0 hs0 hlay0 hL1 hr1 hl2 w5 w4 la vs w1 hL ra w1b r0 hI hr hc1 hc K0 hD h1 tk1 F ob hob N0 X0
  rename Top _ _ _ _ _ _ => T
  rw [looseV_eq] at T
  rename Frag.In _ _ => KX
  refine wpAny_noRaise ?_
  refine c_law _ _ _ _ _ _ _ _ _ vs ns0 la ob _ K0 ?F KX N0 ?ob T ?L hI ?n ?r
  case F => exact fr_eq F (by kernel_rfl)
  case ob => exact hob.trans (by kernel_rfl)
  case L => exact hL
  case n => omega
  case r =>
    intro h' tk' m' F'
    dsimp only
    wrow_close
end Mine
end
section
open PySem PySem.W PyProof.Rows
set_option maxRecDepth 100000
namespace Mine
theorem look2 (w : World) (os : OsState) : openSeen qV looseV (importedModules prog.main.body) XtV true ⟨H1 w.params, #[], {}, 2357, os⟩ = openGood qV looseV := by
  rw [PySem.W.Fast.te4187177175401517315]
  kernel_rfl
theorem leftP : LeftO prog qV looseV XtV hookP.obs hookP.val 28318 :=
  LeftO.of_pieces (H₀ := boot_heap) (H₁ := H1) (gs₀ := Array.mk []) (gs₁ := #[]) (d₀ := boot_drawn) (d₁ := {}) (k₀ := boot_toks) (k₁ := 2357) (m₀ := 11) (ann := ann0) (M := 14400)
    open_ok size_ok top_run (by decide) fun w => funext fun os => by
      rw [look1 w os, look2 w os, look3 w os]
end Mine
end
section
open PySem PySem.W PyProof.Rows
set_option maxRecDepth 100000
namespace Mine
set_option maxHeartbeats 8000000 in
theorem headP (call : WalkP) : rwP.Holds := by
  w_on
  o_law
  refine W.holds_open (q := qV) (loose := looseV) (Xt := XtV) (XP := XL qV []) (Yf := hookP.obs) (Ya := hookP.val) (YP := hookP.says) (N := 28318) (d := dLaw) (kwd := []) leftP hookP.of hookP.keeps (fun s e => xl_of s (Bool.and_eq_true_iff.mp e).1) XL.keeps (by kernel_rfl) (by kernel_rfl) (by kernel_rfl) (fun s e => recFacts_of (Bool.and_eq_true_iff.mp e).2) (by rfl) (by first | assumption | decide +kernel) (by decide +kernel) ⟨rfl, rfl, rfl, rfl, rfl, by decide +kernel⟩ ?hw call
  w_witness2
end Mine
end
open PySem PySem.W PyProof.Rows
theorem PySem.Challenge.cw_pg0226_01_holds : PySem.Challenge.rw_pg0226_01.Holds :=
  Mine.headP Mine.walkP
