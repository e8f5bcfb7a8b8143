import PyProof.Rows.All
import Wide.All
import OpenK.AllK
import Wide.FinOn
import Lean
import PySem.Challenge.RW_wf0091_01
open PySem PySem.W PyProof.Rows
set_option Elab.async false
set_option maxRecDepth 100000
set_option maxHeartbeats 1000000
set_option linter.unusedVariables false
set_option compiler.extract_closed false
namespace WB
section
noncomputable abbrev pw : Program := Challenge.pw_wf0091_01
noncomputable def fnOfStm (j : Nat) : Arguments × List Stmt × Scope := match pw.main.body[j]? with
  | some (.FunctionDef (args := a) (body := b) (scope := s) ..) => (a, b, s)
  | _ => default
noncomputable def stms (a n : Nat) : List Stmt := (pw.main.body.drop a).take n
noncomputable def env : Env := { scope := pw.main.scope, locals := mainNs, globals := mainNs, cells := [], code := .ref 13, frame := some 14 }
noncomputable def cB : Code := .body (behindTheImports pw) env
noncomputable def fB : List Frame := [topFrame ⟨0, 0, 0, 0⟩]
noncomputable def st (T : BT) (n tk : Nat) (os : OsState) : SharedT := ⟨T, n, {}, #[], {}, tk, os⟩
noncomputable def ob11 (P : Params) : Obj := ⟨(.type "tuple"), none, (.seq [].toArray 0), [].toArray⟩
noncomputable def ob12 (P : Params) : Obj := ⟨.none, none, (.fields [].toArray), [].toArray⟩
noncomputable def ob13 (P : Params) : Obj := ⟨(.type "code"), none, (.fields [(.str (Str.ofString "<module>") 182), (.str (Str.ofString "<module>") 183), (.str (Str.ofString "/claim/cut.py") 184), (.int 1 0), (.int 0 0), (.int 0 0), (.int 0 0), (.int 0 0), (.ref 11), (.bool false), (.int 181 0), (.ref 12), .none, .none, .none, .none, (.int 185 0), (.int 1 0), (.str (Str.ofString "/claim/cut.py") 186)].toArray), [].toArray⟩
noncomputable def ob14 (P : Params) : Obj := ⟨(.type "frame"), none, .plain, [(some (.ref 13)), (some (.ref 3)), (some (.ref 3)), none, (some (.str (Str.ofString "__main__") 164)), none, (some (.ref 0))].toArray⟩
noncomputable def tr_a (P : Params) : BT := (.node (boot_o_0 P) (.node (boot_o_1 P) (.node (boot_o_3 P) (.node (boot_o_7 P) .nil .nil) (.node (ob11 P) .nil .nil)) (.node (boot_o_5 P) (.node (boot_o_9 P) .nil .nil) (.node (ob13 P) .nil .nil))) (.node (boot_o_2 P) (.node (boot_o_4 P) (.node (boot_o_8 P) .nil .nil) (.node (ob12 P) .nil .nil)) (.node (boot_o_6 P) (.node (boot_o_10 P) .nil .nil) (.node (ob14 P) .nil .nil))))
noncomputable def tr_b (P : Params) : BT := (.node (boot_o_0 P) (.node (boot_o_1 P) (.node (boot_o_3 P) (.node (boot_o_7 P) .nil .nil) (.node (ob11 P) .nil .nil)) (.node (boot_o_5 P) (.node (boot_o_9 P) .nil .nil) (.node (ob13 P) .nil .nil))) (.node (boot_o_2 P) (.node (boot_o_4 P) (.node (boot_o_8 P) .nil .nil) (.node (ob12 P) .nil .nil)) (.node (boot_o_6 P) (.node (boot_o_10 P) .nil .nil) (.node (ob14 P) .nil .nil))))
noncomputable def ob3_0 (P : Params) : Obj := ⟨(.type "dict"), none, (.dict [⟨PyData.keyHash P (Str.ofString "__name__"), (.str (Str.ofString "__name__") 165), (.str (Str.ofString "cpy313.operator") 187)⟩, ⟨PyData.keyHash P (Str.ofString "__doc__"), (.str (Str.ofString "__doc__") 166), .none⟩, ⟨PyData.keyHash P (Str.ofString "__package__"), (.str (Str.ofString "__package__") 167), .none⟩, ⟨PyData.keyHash P (Str.ofString "__loader__"), (.str (Str.ofString "__loader__") 168), (.builtin "__main__.__loader__#opaque")⟩, ⟨PyData.keyHash P (Str.ofString "__spec__"), (.str (Str.ofString "__spec__") 169), .none⟩, ⟨PyData.keyHash P (Str.ofString "__annotations__"), (.str (Str.ofString "__annotations__") 170), (.ref 6)⟩, ⟨PyData.keyHash P (Str.ofString "__builtins__"), (.str (Str.ofString "__builtins__") 171), (.ref 4)⟩, ⟨PyData.keyHash P (Str.ofString "__file__"), (.str (Str.ofString "__file__") 173), (.str (Str.ofString "/claim/cut.py") 172)⟩, ⟨PyData.keyHash P (Str.ofString "__cached__"), (.str (Str.ofString "__cached__") 174), .none⟩, ⟨PyData.keyHash P (Str.ofString "lt"), (.str (Str.ofString "lt") 196), (.ref 21)⟩, ⟨PyData.keyHash P (Str.ofString "le"), (.str (Str.ofString "le") 204), (.ref 28)⟩, ⟨PyData.keyHash P (Str.ofString "eq"), (.str (Str.ofString "eq") 212), (.ref 35)⟩, ⟨PyData.keyHash P (Str.ofString "ne"), (.str (Str.ofString "ne") 220), (.ref 42)⟩, ⟨PyData.keyHash P (Str.ofString "ge"), (.str (Str.ofString "ge") 228), (.ref 49)⟩, ⟨PyData.keyHash P (Str.ofString "gt"), (.str (Str.ofString "gt") 236), (.ref 56)⟩, ⟨PyData.keyHash P (Str.ofString "add"), (.str (Str.ofString "add") 244), (.ref 63)⟩, ⟨PyData.keyHash P (Str.ofString "and_"), (.str (Str.ofString "and_") 252), (.ref 70)⟩, ⟨PyData.keyHash P (Str.ofString "or_"), (.str (Str.ofString "or_") 260), (.ref 77)⟩, ⟨PyData.keyHash P (Str.ofString "sub"), (.str (Str.ofString "sub") 268), (.ref 84)⟩, ⟨PyData.keyHash P (Str.ofString "xor"), (.str (Str.ofString "xor") 276), (.ref 91)⟩, ⟨PyData.keyHash P (Str.ofString "contains"), (.str (Str.ofString "contains") 284), (.ref 98)⟩].toArray 21), [].toArray⟩
noncomputable def ob12_0 (P : Params) : Obj := ⟨.none, none, (.fields [(.int 2 0), (.int 0 0), (.ref 20), (.int 4 0), (.int 0 0), (.ref 27), (.int 6 0), (.int 0 0), (.ref 34), (.int 8 0), (.int 0 0), (.ref 41), (.int 10 0), (.int 0 0), (.ref 48), (.int 12 0), (.int 0 0), (.ref 55), (.int 14 0), (.int 0 0), (.ref 62), (.int 16 0), (.int 0 0), (.ref 69), (.int 18 0), (.int 0 0), (.ref 76), (.int 20 0), (.int 0 0), (.ref 83), (.int 22 0), (.int 0 0), (.ref 90), (.int 24 0), (.int 0 0), (.ref 97)].toArray), [].toArray⟩
noncomputable def ob15 (P : Params) : Obj := ⟨(.type "tuple"), none, (.seq [].toArray 0), [].toArray⟩
noncomputable def ob16 (P : Params) : Obj := ⟨.none, none, (.fields [].toArray), [].toArray⟩
noncomputable def ob17 (P : Params) : Obj := ⟨(.type "tuple"), none, (.seq [(.str (Str.ofString "a") 192), (.str (Str.ofString "b") 193)].toArray 0), [].toArray⟩
noncomputable def ob18 (P : Params) : Obj := ⟨(.type "tuple"), none, (.seq [].toArray 0), [].toArray⟩
noncomputable def ob19 (P : Params) : Obj := ⟨.none, none, (.func { name := (Str.ofString "lt"), qualname := (Str.ofString "lt"), params := (fnOfStm 1).1, body := .stmts (fnOfStm 1).2.1, scope := (fnOfStm 1).2.2, globals := 0, closure := [], defaults := .none, kwdefaults := .none, doc := .none, pyModule := .none, annotations := none, code := .none, closureTuple := .none, builtins := 0 }), [].toArray⟩
noncomputable def ob20 (P : Params) : Obj := ⟨(.type "code"), none, (.fields [(.str (Str.ofString "lt") 189), (.str (Str.ofString "lt") 190), (.str (Str.ofString "/claim/cut.py") 191), (.int 2 0), (.int 2 0), (.int 0 0), (.int 0 0), (.int 3 0), (.ref 15), (.bool true), (.int 181 0), (.ref 16), .none, (.ref 17), (.ref 18), (.ref 19), (.int 194 0), (.int 2 0), (.str (Str.ofString "/claim/cut.py") 195)].toArray), [].toArray⟩
noncomputable def ob21 (P : Params) : Obj := ⟨(.type "function"), none, (.func { name := (Str.ofString "lt"), qualname := (Str.ofString "lt"), params := (fnOfStm 1).1, body := .stmts (fnOfStm 1).2.1, scope := (fnOfStm 1).2.2, globals := 3, closure := [], defaults := .none, kwdefaults := .none, doc := .none, pyModule := (.str (Str.ofString "cpy313.operator") 187), annotations := none, code := (.ref 20), closureTuple := .none, builtins := 0 }), [].toArray⟩
noncomputable def ob22 (P : Params) : Obj := ⟨(.type "tuple"), none, (.seq [].toArray 0), [].toArray⟩
noncomputable def ob23 (P : Params) : Obj := ⟨.none, none, (.fields [].toArray), [].toArray⟩
noncomputable def ob24 (P : Params) : Obj := ⟨(.type "tuple"), none, (.seq [(.str (Str.ofString "a") 200), (.str (Str.ofString "b") 201)].toArray 0), [].toArray⟩
noncomputable def ob25 (P : Params) : Obj := ⟨(.type "tuple"), none, (.seq [].toArray 0), [].toArray⟩
noncomputable def ob26 (P : Params) : Obj := ⟨.none, none, (.func { name := (Str.ofString "le"), qualname := (Str.ofString "le"), params := (fnOfStm 2).1, body := .stmts (fnOfStm 2).2.1, scope := (fnOfStm 2).2.2, globals := 0, closure := [], defaults := .none, kwdefaults := .none, doc := .none, pyModule := .none, annotations := none, code := .none, closureTuple := .none, builtins := 0 }), [].toArray⟩
noncomputable def ob27 (P : Params) : Obj := ⟨(.type "code"), none, (.fields [(.str (Str.ofString "le") 197), (.str (Str.ofString "le") 198), (.str (Str.ofString "/claim/cut.py") 199), (.int 4 0), (.int 2 0), (.int 0 0), (.int 0 0), (.int 3 0), (.ref 22), (.bool true), (.int 181 0), (.ref 23), .none, (.ref 24), (.ref 25), (.ref 26), (.int 202 0), (.int 4 0), (.str (Str.ofString "/claim/cut.py") 203)].toArray), [].toArray⟩
noncomputable def ob28 (P : Params) : Obj := ⟨(.type "function"), none, (.func { name := (Str.ofString "le"), qualname := (Str.ofString "le"), params := (fnOfStm 2).1, body := .stmts (fnOfStm 2).2.1, scope := (fnOfStm 2).2.2, globals := 3, closure := [], defaults := .none, kwdefaults := .none, doc := .none, pyModule := (.str (Str.ofString "cpy313.operator") 187), annotations := none, code := (.ref 27), closureTuple := .none, builtins := 0 }), [].toArray⟩
noncomputable def ob29 (P : Params) : Obj := ⟨(.type "tuple"), none, (.seq [].toArray 0), [].toArray⟩
noncomputable def ob30 (P : Params) : Obj := ⟨.none, none, (.fields [].toArray), [].toArray⟩
noncomputable def ob31 (P : Params) : Obj := ⟨(.type "tuple"), none, (.seq [(.str (Str.ofString "a") 208), (.str (Str.ofString "b") 209)].toArray 0), [].toArray⟩
noncomputable def ob32 (P : Params) : Obj := ⟨(.type "tuple"), none, (.seq [].toArray 0), [].toArray⟩
noncomputable def ob33 (P : Params) : Obj := ⟨.none, none, (.func { name := (Str.ofString "eq"), qualname := (Str.ofString "eq"), params := (fnOfStm 3).1, body := .stmts (fnOfStm 3).2.1, scope := (fnOfStm 3).2.2, globals := 0, closure := [], defaults := .none, kwdefaults := .none, doc := .none, pyModule := .none, annotations := none, code := .none, closureTuple := .none, builtins := 0 }), [].toArray⟩
noncomputable def ob34 (P : Params) : Obj := ⟨(.type "code"), none, (.fields [(.str (Str.ofString "eq") 205), (.str (Str.ofString "eq") 206), (.str (Str.ofString "/claim/cut.py") 207), (.int 6 0), (.int 2 0), (.int 0 0), (.int 0 0), (.int 3 0), (.ref 29), (.bool true), (.int 181 0), (.ref 30), .none, (.ref 31), (.ref 32), (.ref 33), (.int 210 0), (.int 6 0), (.str (Str.ofString "/claim/cut.py") 211)].toArray), [].toArray⟩
noncomputable def ob35 (P : Params) : Obj := ⟨(.type "function"), none, (.func { name := (Str.ofString "eq"), qualname := (Str.ofString "eq"), params := (fnOfStm 3).1, body := .stmts (fnOfStm 3).2.1, scope := (fnOfStm 3).2.2, globals := 3, closure := [], defaults := .none, kwdefaults := .none, doc := .none, pyModule := (.str (Str.ofString "cpy313.operator") 187), annotations := none, code := (.ref 34), closureTuple := .none, builtins := 0 }), [].toArray⟩
noncomputable def ob36 (P : Params) : Obj := ⟨(.type "tuple"), none, (.seq [].toArray 0), [].toArray⟩
noncomputable def ob37 (P : Params) : Obj := ⟨.none, none, (.fields [].toArray), [].toArray⟩
noncomputable def ob38 (P : Params) : Obj := ⟨(.type "tuple"), none, (.seq [(.str (Str.ofString "a") 216), (.str (Str.ofString "b") 217)].toArray 0), [].toArray⟩
noncomputable def ob39 (P : Params) : Obj := ⟨(.type "tuple"), none, (.seq [].toArray 0), [].toArray⟩
noncomputable def ob40 (P : Params) : Obj := ⟨.none, none, (.func { name := (Str.ofString "ne"), qualname := (Str.ofString "ne"), params := (fnOfStm 4).1, body := .stmts (fnOfStm 4).2.1, scope := (fnOfStm 4).2.2, globals := 0, closure := [], defaults := .none, kwdefaults := .none, doc := .none, pyModule := .none, annotations := none, code := .none, closureTuple := .none, builtins := 0 }), [].toArray⟩
noncomputable def ob41 (P : Params) : Obj := ⟨(.type "code"), none, (.fields [(.str (Str.ofString "ne") 213), (.str (Str.ofString "ne") 214), (.str (Str.ofString "/claim/cut.py") 215), (.int 8 0), (.int 2 0), (.int 0 0), (.int 0 0), (.int 3 0), (.ref 36), (.bool true), (.int 181 0), (.ref 37), .none, (.ref 38), (.ref 39), (.ref 40), (.int 218 0), (.int 8 0), (.str (Str.ofString "/claim/cut.py") 219)].toArray), [].toArray⟩
noncomputable def ob42 (P : Params) : Obj := ⟨(.type "function"), none, (.func { name := (Str.ofString "ne"), qualname := (Str.ofString "ne"), params := (fnOfStm 4).1, body := .stmts (fnOfStm 4).2.1, scope := (fnOfStm 4).2.2, globals := 3, closure := [], defaults := .none, kwdefaults := .none, doc := .none, pyModule := (.str (Str.ofString "cpy313.operator") 187), annotations := none, code := (.ref 41), closureTuple := .none, builtins := 0 }), [].toArray⟩
noncomputable def ob43 (P : Params) : Obj := ⟨(.type "tuple"), none, (.seq [].toArray 0), [].toArray⟩
noncomputable def ob44 (P : Params) : Obj := ⟨.none, none, (.fields [].toArray), [].toArray⟩
noncomputable def ob45 (P : Params) : Obj := ⟨(.type "tuple"), none, (.seq [(.str (Str.ofString "a") 224), (.str (Str.ofString "b") 225)].toArray 0), [].toArray⟩
noncomputable def ob46 (P : Params) : Obj := ⟨(.type "tuple"), none, (.seq [].toArray 0), [].toArray⟩
noncomputable def ob47 (P : Params) : Obj := ⟨.none, none, (.func { name := (Str.ofString "ge"), qualname := (Str.ofString "ge"), params := (fnOfStm 5).1, body := .stmts (fnOfStm 5).2.1, scope := (fnOfStm 5).2.2, globals := 0, closure := [], defaults := .none, kwdefaults := .none, doc := .none, pyModule := .none, annotations := none, code := .none, closureTuple := .none, builtins := 0 }), [].toArray⟩
noncomputable def ob48 (P : Params) : Obj := ⟨(.type "code"), none, (.fields [(.str (Str.ofString "ge") 221), (.str (Str.ofString "ge") 222), (.str (Str.ofString "/claim/cut.py") 223), (.int 10 0), (.int 2 0), (.int 0 0), (.int 0 0), (.int 3 0), (.ref 43), (.bool true), (.int 181 0), (.ref 44), .none, (.ref 45), (.ref 46), (.ref 47), (.int 226 0), (.int 10 0), (.str (Str.ofString "/claim/cut.py") 227)].toArray), [].toArray⟩
noncomputable def ob49 (P : Params) : Obj := ⟨(.type "function"), none, (.func { name := (Str.ofString "ge"), qualname := (Str.ofString "ge"), params := (fnOfStm 5).1, body := .stmts (fnOfStm 5).2.1, scope := (fnOfStm 5).2.2, globals := 3, closure := [], defaults := .none, kwdefaults := .none, doc := .none, pyModule := (.str (Str.ofString "cpy313.operator") 187), annotations := none, code := (.ref 48), closureTuple := .none, builtins := 0 }), [].toArray⟩
noncomputable def ob50 (P : Params) : Obj := ⟨(.type "tuple"), none, (.seq [].toArray 0), [].toArray⟩
noncomputable def ob51 (P : Params) : Obj := ⟨.none, none, (.fields [].toArray), [].toArray⟩
noncomputable def ob52 (P : Params) : Obj := ⟨(.type "tuple"), none, (.seq [(.str (Str.ofString "a") 232), (.str (Str.ofString "b") 233)].toArray 0), [].toArray⟩
noncomputable def ob53 (P : Params) : Obj := ⟨(.type "tuple"), none, (.seq [].toArray 0), [].toArray⟩
noncomputable def ob54 (P : Params) : Obj := ⟨.none, none, (.func { name := (Str.ofString "gt"), qualname := (Str.ofString "gt"), params := (fnOfStm 6).1, body := .stmts (fnOfStm 6).2.1, scope := (fnOfStm 6).2.2, globals := 0, closure := [], defaults := .none, kwdefaults := .none, doc := .none, pyModule := .none, annotations := none, code := .none, closureTuple := .none, builtins := 0 }), [].toArray⟩
noncomputable def ob55 (P : Params) : Obj := ⟨(.type "code"), none, (.fields [(.str (Str.ofString "gt") 229), (.str (Str.ofString "gt") 230), (.str (Str.ofString "/claim/cut.py") 231), (.int 12 0), (.int 2 0), (.int 0 0), (.int 0 0), (.int 3 0), (.ref 50), (.bool true), (.int 181 0), (.ref 51), .none, (.ref 52), (.ref 53), (.ref 54), (.int 234 0), (.int 12 0), (.str (Str.ofString "/claim/cut.py") 235)].toArray), [].toArray⟩
noncomputable def ob56 (P : Params) : Obj := ⟨(.type "function"), none, (.func { name := (Str.ofString "gt"), qualname := (Str.ofString "gt"), params := (fnOfStm 6).1, body := .stmts (fnOfStm 6).2.1, scope := (fnOfStm 6).2.2, globals := 3, closure := [], defaults := .none, kwdefaults := .none, doc := .none, pyModule := (.str (Str.ofString "cpy313.operator") 187), annotations := none, code := (.ref 55), closureTuple := .none, builtins := 0 }), [].toArray⟩
noncomputable def ob57 (P : Params) : Obj := ⟨(.type "tuple"), none, (.seq [].toArray 0), [].toArray⟩
noncomputable def ob58 (P : Params) : Obj := ⟨.none, none, (.fields [].toArray), [].toArray⟩
noncomputable def ob59 (P : Params) : Obj := ⟨(.type "tuple"), none, (.seq [(.str (Str.ofString "a") 240), (.str (Str.ofString "b") 241)].toArray 0), [].toArray⟩
noncomputable def ob60 (P : Params) : Obj := ⟨(.type "tuple"), none, (.seq [].toArray 0), [].toArray⟩
noncomputable def ob61 (P : Params) : Obj := ⟨.none, none, (.func { name := (Str.ofString "add"), qualname := (Str.ofString "add"), params := (fnOfStm 7).1, body := .stmts (fnOfStm 7).2.1, scope := (fnOfStm 7).2.2, globals := 0, closure := [], defaults := .none, kwdefaults := .none, doc := .none, pyModule := .none, annotations := none, code := .none, closureTuple := .none, builtins := 0 }), [].toArray⟩
noncomputable def ob62 (P : Params) : Obj := ⟨(.type "code"), none, (.fields [(.str (Str.ofString "add") 237), (.str (Str.ofString "add") 238), (.str (Str.ofString "/claim/cut.py") 239), (.int 14 0), (.int 2 0), (.int 0 0), (.int 0 0), (.int 3 0), (.ref 57), (.bool true), (.int 181 0), (.ref 58), .none, (.ref 59), (.ref 60), (.ref 61), (.int 242 0), (.int 14 0), (.str (Str.ofString "/claim/cut.py") 243)].toArray), [].toArray⟩
noncomputable def ob63 (P : Params) : Obj := ⟨(.type "function"), none, (.func { name := (Str.ofString "add"), qualname := (Str.ofString "add"), params := (fnOfStm 7).1, body := .stmts (fnOfStm 7).2.1, scope := (fnOfStm 7).2.2, globals := 3, closure := [], defaults := .none, kwdefaults := .none, doc := .none, pyModule := (.str (Str.ofString "cpy313.operator") 187), annotations := none, code := (.ref 62), closureTuple := .none, builtins := 0 }), [].toArray⟩
noncomputable def ob64 (P : Params) : Obj := ⟨(.type "tuple"), none, (.seq [].toArray 0), [].toArray⟩
noncomputable def ob65 (P : Params) : Obj := ⟨.none, none, (.fields [].toArray), [].toArray⟩
noncomputable def ob66 (P : Params) : Obj := ⟨(.type "tuple"), none, (.seq [(.str (Str.ofString "a") 248), (.str (Str.ofString "b") 249)].toArray 0), [].toArray⟩
noncomputable def ob67 (P : Params) : Obj := ⟨(.type "tuple"), none, (.seq [].toArray 0), [].toArray⟩
noncomputable def ob68 (P : Params) : Obj := ⟨.none, none, (.func { name := (Str.ofString "and_"), qualname := (Str.ofString "and_"), params := (fnOfStm 8).1, body := .stmts (fnOfStm 8).2.1, scope := (fnOfStm 8).2.2, globals := 0, closure := [], defaults := .none, kwdefaults := .none, doc := .none, pyModule := .none, annotations := none, code := .none, closureTuple := .none, builtins := 0 }), [].toArray⟩
noncomputable def ob69 (P : Params) : Obj := ⟨(.type "code"), none, (.fields [(.str (Str.ofString "and_") 245), (.str (Str.ofString "and_") 246), (.str (Str.ofString "/claim/cut.py") 247), (.int 16 0), (.int 2 0), (.int 0 0), (.int 0 0), (.int 3 0), (.ref 64), (.bool true), (.int 181 0), (.ref 65), .none, (.ref 66), (.ref 67), (.ref 68), (.int 250 0), (.int 16 0), (.str (Str.ofString "/claim/cut.py") 251)].toArray), [].toArray⟩
noncomputable def ob70 (P : Params) : Obj := ⟨(.type "function"), none, (.func { name := (Str.ofString "and_"), qualname := (Str.ofString "and_"), params := (fnOfStm 8).1, body := .stmts (fnOfStm 8).2.1, scope := (fnOfStm 8).2.2, globals := 3, closure := [], defaults := .none, kwdefaults := .none, doc := .none, pyModule := (.str (Str.ofString "cpy313.operator") 187), annotations := none, code := (.ref 69), closureTuple := .none, builtins := 0 }), [].toArray⟩
noncomputable def ob71 (P : Params) : Obj := ⟨(.type "tuple"), none, (.seq [].toArray 0), [].toArray⟩
noncomputable def ob72 (P : Params) : Obj := ⟨.none, none, (.fields [].toArray), [].toArray⟩
noncomputable def ob73 (P : Params) : Obj := ⟨(.type "tuple"), none, (.seq [(.str (Str.ofString "a") 256), (.str (Str.ofString "b") 257)].toArray 0), [].toArray⟩
noncomputable def ob74 (P : Params) : Obj := ⟨(.type "tuple"), none, (.seq [].toArray 0), [].toArray⟩
noncomputable def ob75 (P : Params) : Obj := ⟨.none, none, (.func { name := (Str.ofString "or_"), qualname := (Str.ofString "or_"), params := (fnOfStm 9).1, body := .stmts (fnOfStm 9).2.1, scope := (fnOfStm 9).2.2, globals := 0, closure := [], defaults := .none, kwdefaults := .none, doc := .none, pyModule := .none, annotations := none, code := .none, closureTuple := .none, builtins := 0 }), [].toArray⟩
noncomputable def ob76 (P : Params) : Obj := ⟨(.type "code"), none, (.fields [(.str (Str.ofString "or_") 253), (.str (Str.ofString "or_") 254), (.str (Str.ofString "/claim/cut.py") 255), (.int 18 0), (.int 2 0), (.int 0 0), (.int 0 0), (.int 3 0), (.ref 71), (.bool true), (.int 181 0), (.ref 72), .none, (.ref 73), (.ref 74), (.ref 75), (.int 258 0), (.int 18 0), (.str (Str.ofString "/claim/cut.py") 259)].toArray), [].toArray⟩
noncomputable def ob77 (P : Params) : Obj := ⟨(.type "function"), none, (.func { name := (Str.ofString "or_"), qualname := (Str.ofString "or_"), params := (fnOfStm 9).1, body := .stmts (fnOfStm 9).2.1, scope := (fnOfStm 9).2.2, globals := 3, closure := [], defaults := .none, kwdefaults := .none, doc := .none, pyModule := (.str (Str.ofString "cpy313.operator") 187), annotations := none, code := (.ref 76), closureTuple := .none, builtins := 0 }), [].toArray⟩
noncomputable def ob78 (P : Params) : Obj := ⟨(.type "tuple"), none, (.seq [].toArray 0), [].toArray⟩
noncomputable def ob79 (P : Params) : Obj := ⟨.none, none, (.fields [].toArray), [].toArray⟩
noncomputable def ob80 (P : Params) : Obj := ⟨(.type "tuple"), none, (.seq [(.str (Str.ofString "a") 264), (.str (Str.ofString "b") 265)].toArray 0), [].toArray⟩
noncomputable def ob81 (P : Params) : Obj := ⟨(.type "tuple"), none, (.seq [].toArray 0), [].toArray⟩
noncomputable def ob82 (P : Params) : Obj := ⟨.none, none, (.func { name := (Str.ofString "sub"), qualname := (Str.ofString "sub"), params := (fnOfStm 10).1, body := .stmts (fnOfStm 10).2.1, scope := (fnOfStm 10).2.2, globals := 0, closure := [], defaults := .none, kwdefaults := .none, doc := .none, pyModule := .none, annotations := none, code := .none, closureTuple := .none, builtins := 0 }), [].toArray⟩
noncomputable def ob83 (P : Params) : Obj := ⟨(.type "code"), none, (.fields [(.str (Str.ofString "sub") 261), (.str (Str.ofString "sub") 262), (.str (Str.ofString "/claim/cut.py") 263), (.int 20 0), (.int 2 0), (.int 0 0), (.int 0 0), (.int 3 0), (.ref 78), (.bool true), (.int 181 0), (.ref 79), .none, (.ref 80), (.ref 81), (.ref 82), (.int 266 0), (.int 20 0), (.str (Str.ofString "/claim/cut.py") 267)].toArray), [].toArray⟩
noncomputable def ob84 (P : Params) : Obj := ⟨(.type "function"), none, (.func { name := (Str.ofString "sub"), qualname := (Str.ofString "sub"), params := (fnOfStm 10).1, body := .stmts (fnOfStm 10).2.1, scope := (fnOfStm 10).2.2, globals := 3, closure := [], defaults := .none, kwdefaults := .none, doc := .none, pyModule := (.str (Str.ofString "cpy313.operator") 187), annotations := none, code := (.ref 83), closureTuple := .none, builtins := 0 }), [].toArray⟩
noncomputable def ob85 (P : Params) : Obj := ⟨(.type "tuple"), none, (.seq [].toArray 0), [].toArray⟩
noncomputable def ob86 (P : Params) : Obj := ⟨.none, none, (.fields [].toArray), [].toArray⟩
noncomputable def ob87 (P : Params) : Obj := ⟨(.type "tuple"), none, (.seq [(.str (Str.ofString "a") 272), (.str (Str.ofString "b") 273)].toArray 0), [].toArray⟩
noncomputable def ob88 (P : Params) : Obj := ⟨(.type "tuple"), none, (.seq [].toArray 0), [].toArray⟩
noncomputable def ob89 (P : Params) : Obj := ⟨.none, none, (.func { name := (Str.ofString "xor"), qualname := (Str.ofString "xor"), params := (fnOfStm 11).1, body := .stmts (fnOfStm 11).2.1, scope := (fnOfStm 11).2.2, globals := 0, closure := [], defaults := .none, kwdefaults := .none, doc := .none, pyModule := .none, annotations := none, code := .none, closureTuple := .none, builtins := 0 }), [].toArray⟩
noncomputable def ob90 (P : Params) : Obj := ⟨(.type "code"), none, (.fields [(.str (Str.ofString "xor") 269), (.str (Str.ofString "xor") 270), (.str (Str.ofString "/claim/cut.py") 271), (.int 22 0), (.int 2 0), (.int 0 0), (.int 0 0), (.int 3 0), (.ref 85), (.bool true), (.int 181 0), (.ref 86), .none, (.ref 87), (.ref 88), (.ref 89), (.int 274 0), (.int 22 0), (.str (Str.ofString "/claim/cut.py") 275)].toArray), [].toArray⟩
noncomputable def ob91 (P : Params) : Obj := ⟨(.type "function"), none, (.func { name := (Str.ofString "xor"), qualname := (Str.ofString "xor"), params := (fnOfStm 11).1, body := .stmts (fnOfStm 11).2.1, scope := (fnOfStm 11).2.2, globals := 3, closure := [], defaults := .none, kwdefaults := .none, doc := .none, pyModule := (.str (Str.ofString "cpy313.operator") 187), annotations := none, code := (.ref 90), closureTuple := .none, builtins := 0 }), [].toArray⟩
noncomputable def ob92 (P : Params) : Obj := ⟨(.type "tuple"), none, (.seq [].toArray 0), [].toArray⟩
noncomputable def ob93 (P : Params) : Obj := ⟨.none, none, (.fields [].toArray), [].toArray⟩
noncomputable def ob94 (P : Params) : Obj := ⟨(.type "tuple"), none, (.seq [(.str (Str.ofString "a") 280), (.str (Str.ofString "b") 281)].toArray 0), [].toArray⟩
noncomputable def ob95 (P : Params) : Obj := ⟨(.type "tuple"), none, (.seq [].toArray 0), [].toArray⟩
noncomputable def ob96 (P : Params) : Obj := ⟨.none, none, (.func { name := (Str.ofString "contains"), qualname := (Str.ofString "contains"), params := (fnOfStm 12).1, body := .stmts (fnOfStm 12).2.1, scope := (fnOfStm 12).2.2, globals := 0, closure := [], defaults := .none, kwdefaults := .none, doc := .none, pyModule := .none, annotations := none, code := .none, closureTuple := .none, builtins := 0 }), [].toArray⟩
noncomputable def ob97 (P : Params) : Obj := ⟨(.type "code"), none, (.fields [(.str (Str.ofString "contains") 277), (.str (Str.ofString "contains") 278), (.str (Str.ofString "/claim/cut.py") 279), (.int 24 0), (.int 2 0), (.int 0 0), (.int 0 0), (.int 3 0), (.ref 92), (.bool true), (.int 181 0), (.ref 93), .none, (.ref 94), (.ref 95), (.ref 96), (.int 282 0), (.int 24 0), (.str (Str.ofString "/claim/cut.py") 283)].toArray), [].toArray⟩
noncomputable def ob98 (P : Params) : Obj := ⟨(.type "function"), none, (.func { name := (Str.ofString "contains"), qualname := (Str.ofString "contains"), params := (fnOfStm 12).1, body := .stmts (fnOfStm 12).2.1, scope := (fnOfStm 12).2.2, globals := 3, closure := [], defaults := .none, kwdefaults := .none, doc := .none, pyModule := (.str (Str.ofString "cpy313.operator") 187), annotations := none, code := (.ref 97), closureTuple := .none, builtins := 0 }), [].toArray⟩
noncomputable def tr_0 (P : Params) : BT := (.node (boot_o_0 P) (.node (boot_o_1 P) (.node (ob3_0 P) (.node (boot_o_7 P) (.node (ob15 P) (.node (ob31 P) (.node (ob63 P) .nil .nil) (.node (ob95 P) .nil .nil)) (.node (ob47 P) (.node (ob79 P) .nil .nil) .nil)) (.node (ob23 P) (.node (ob39 P) (.node (ob71 P) .nil .nil) .nil) (.node (ob55 P) (.node (ob87 P) .nil .nil) .nil))) (.node (ob11 P) (.node (ob19 P) (.node (ob35 P) (.node (ob67 P) .nil .nil) .nil) (.node (ob51 P) (.node (ob83 P) .nil .nil) .nil)) (.node (ob27 P) (.node (ob43 P) (.node (ob75 P) .nil .nil) .nil) (.node (ob59 P) (.node (ob91 P) .nil .nil) .nil)))) (.node (boot_o_5 P) (.node (boot_o_9 P) (.node (ob17 P) (.node (ob33 P) (.node (ob65 P) .nil .nil) (.node (ob97 P) .nil .nil)) (.node (ob49 P) (.node (ob81 P) .nil .nil) .nil)) (.node (ob25 P) (.node (ob41 P) (.node (ob73 P) .nil .nil) .nil) (.node (ob57 P) (.node (ob89 P) .nil .nil) .nil))) (.node (ob13 P) (.node (ob21 P) (.node (ob37 P) (.node (ob69 P) .nil .nil) .nil) (.node (ob53 P) (.node (ob85 P) .nil .nil) .nil)) (.node (ob29 P) (.node (ob45 P) (.node (ob77 P) .nil .nil) .nil) (.node (ob61 P) (.node (ob93 P) .nil .nil) .nil))))) (.node (boot_o_2 P) (.node (boot_o_4 P) (.node (boot_o_8 P) (.node (ob16 P) (.node (ob32 P) (.node (ob64 P) .nil .nil) (.node (ob96 P) .nil .nil)) (.node (ob48 P) (.node (ob80 P) .nil .nil) .nil)) (.node (ob24 P) (.node (ob40 P) (.node (ob72 P) .nil .nil) .nil) (.node (ob56 P) (.node (ob88 P) .nil .nil) .nil))) (.node (ob12_0 P) (.node (ob20 P) (.node (ob36 P) (.node (ob68 P) .nil .nil) .nil) (.node (ob52 P) (.node (ob84 P) .nil .nil) .nil)) (.node (ob28 P) (.node (ob44 P) (.node (ob76 P) .nil .nil) .nil) (.node (ob60 P) (.node (ob92 P) .nil .nil) .nil)))) (.node (boot_o_6 P) (.node (boot_o_10 P) (.node (ob18 P) (.node (ob34 P) (.node (ob66 P) .nil .nil) (.node (ob98 P) .nil .nil)) (.node (ob50 P) (.node (ob82 P) .nil .nil) .nil)) (.node (ob26 P) (.node (ob42 P) (.node (ob74 P) .nil .nil) .nil) (.node (ob58 P) (.node (ob90 P) .nil .nil) .nil))) (.node (ob14 P) (.node (ob22 P) (.node (ob38 P) (.node (ob70 P) .nil .nil) .nil) (.node (ob54 P) (.node (ob86 P) .nil .nil) .nil)) (.node (ob30 P) (.node (ob46 P) (.node (ob78 P) .nil .nil) .nil) (.node (ob62 P) (.node (ob94 P) .nil .nil) .nil))))))
noncomputable def ob3_1 (P : Params) : Obj := ⟨(.type "dict"), none, (.dict [⟨PyData.keyHash P (Str.ofString "__name__"), (.str (Str.ofString "__name__") 165), (.str (Str.ofString "cpy313.stringprep") 313)⟩, ⟨PyData.keyHash P (Str.ofString "__doc__"), (.str (Str.ofString "__doc__") 166), .none⟩, ⟨PyData.keyHash P (Str.ofString "__package__"), (.str (Str.ofString "__package__") 167), .none⟩, ⟨PyData.keyHash P (Str.ofString "__loader__"), (.str (Str.ofString "__loader__") 168), (.builtin "__main__.__loader__#opaque")⟩, ⟨PyData.keyHash P (Str.ofString "__spec__"), (.str (Str.ofString "__spec__") 169), .none⟩, ⟨PyData.keyHash P (Str.ofString "__annotations__"), (.str (Str.ofString "__annotations__") 170), (.ref 6)⟩, ⟨PyData.keyHash P (Str.ofString "__builtins__"), (.str (Str.ofString "__builtins__") 171), (.ref 4)⟩, ⟨PyData.keyHash P (Str.ofString "__file__"), (.str (Str.ofString "__file__") 173), (.str (Str.ofString "/claim/cut.py") 172)⟩, ⟨PyData.keyHash P (Str.ofString "__cached__"), (.str (Str.ofString "__cached__") 174), .none⟩, ⟨PyData.keyHash P (Str.ofString "lt"), (.str (Str.ofString "lt") 196), (.ref 21)⟩, ⟨PyData.keyHash P (Str.ofString "le"), (.str (Str.ofString "le") 204), (.ref 28)⟩, ⟨PyData.keyHash P (Str.ofString "eq"), (.str (Str.ofString "eq") 212), (.ref 35)⟩, ⟨PyData.keyHash P (Str.ofString "ne"), (.str (Str.ofString "ne") 220), (.ref 42)⟩, ⟨PyData.keyHash P (Str.ofString "ge"), (.str (Str.ofString "ge") 228), (.ref 49)⟩, ⟨PyData.keyHash P (Str.ofString "gt"), (.str (Str.ofString "gt") 236), (.ref 56)⟩, ⟨PyData.keyHash P (Str.ofString "add"), (.str (Str.ofString "add") 244), (.ref 63)⟩, ⟨PyData.keyHash P (Str.ofString "and_"), (.str (Str.ofString "and_") 252), (.ref 70)⟩, ⟨PyData.keyHash P (Str.ofString "or_"), (.str (Str.ofString "or_") 260), (.ref 77)⟩, ⟨PyData.keyHash P (Str.ofString "sub"), (.str (Str.ofString "sub") 268), (.ref 84)⟩, ⟨PyData.keyHash P (Str.ofString "xor"), (.str (Str.ofString "xor") 276), (.ref 91)⟩, ⟨PyData.keyHash P (Str.ofString "contains"), (.str (Str.ofString "contains") 284), (.ref 98)⟩, ⟨PyData.keyHash P (Str.ofString "countOf"), (.str (Str.ofString "countOf") 294), (.ref 105)⟩, ⟨PyData.keyHash P (Str.ofString "getitem"), (.str (Str.ofString "getitem") 302), (.ref 112)⟩, ⟨PyData.keyHash P (Str.ofString "indexOf"), (.str (Str.ofString "indexOf") 312), (.ref 119)⟩].toArray 24), [].toArray⟩
noncomputable def ob12_1 (P : Params) : Obj := ⟨.none, none, (.fields [(.int 2 0), (.int 0 0), (.ref 20), (.int 4 0), (.int 0 0), (.ref 27), (.int 6 0), (.int 0 0), (.ref 34), (.int 8 0), (.int 0 0), (.ref 41), (.int 10 0), (.int 0 0), (.ref 48), (.int 12 0), (.int 0 0), (.ref 55), (.int 14 0), (.int 0 0), (.ref 62), (.int 16 0), (.int 0 0), (.ref 69), (.int 18 0), (.int 0 0), (.ref 76), (.int 20 0), (.int 0 0), (.ref 83), (.int 22 0), (.int 0 0), (.ref 90), (.int 24 0), (.int 0 0), (.ref 97), (.int 26 0), (.int 0 0), (.ref 104), (.int 32 0), (.int 0 0), (.ref 111), (.int 34 0), (.int 0 0), (.ref 118)].toArray), [].toArray⟩
noncomputable def ob99 (P : Params) : Obj := ⟨(.type "tuple"), none, (.seq [].toArray 0), [].toArray⟩
noncomputable def ob100 (P : Params) : Obj := ⟨.none, none, (.fields [].toArray), [].toArray⟩
noncomputable def ob101 (P : Params) : Obj := ⟨(.type "tuple"), none, (.seq [(.str (Str.ofString "a") 288), (.str (Str.ofString "b") 289), (.str (Str.ofString "count") 290), (.str (Str.ofString "i") 291)].toArray 0), [].toArray⟩
noncomputable def ob102 (P : Params) : Obj := ⟨(.type "tuple"), none, (.seq [].toArray 0), [].toArray⟩
noncomputable def ob103 (P : Params) : Obj := ⟨.none, none, (.func { name := (Str.ofString "countOf"), qualname := (Str.ofString "countOf"), params := (fnOfStm 13).1, body := .stmts (fnOfStm 13).2.1, scope := (fnOfStm 13).2.2, globals := 0, closure := [], defaults := .none, kwdefaults := .none, doc := .none, pyModule := .none, annotations := none, code := .none, closureTuple := .none, builtins := 0 }), [].toArray⟩
noncomputable def ob104 (P : Params) : Obj := ⟨(.type "code"), none, (.fields [(.str (Str.ofString "countOf") 285), (.str (Str.ofString "countOf") 286), (.str (Str.ofString "/claim/cut.py") 287), (.int 26 0), (.int 2 0), (.int 0 0), (.int 0 0), (.int 3 0), (.ref 99), (.bool true), (.int 181 0), (.ref 100), .none, (.ref 101), (.ref 102), (.ref 103), (.int 292 0), (.int 26 0), (.str (Str.ofString "/claim/cut.py") 293)].toArray), [].toArray⟩
noncomputable def ob105 (P : Params) : Obj := ⟨(.type "function"), none, (.func { name := (Str.ofString "countOf"), qualname := (Str.ofString "countOf"), params := (fnOfStm 13).1, body := .stmts (fnOfStm 13).2.1, scope := (fnOfStm 13).2.2, globals := 3, closure := [], defaults := .none, kwdefaults := .none, doc := .none, pyModule := (.str (Str.ofString "cpy313.operator") 187), annotations := none, code := (.ref 104), closureTuple := .none, builtins := 0 }), [].toArray⟩
noncomputable def ob106 (P : Params) : Obj := ⟨(.type "tuple"), none, (.seq [].toArray 0), [].toArray⟩
noncomputable def ob107 (P : Params) : Obj := ⟨.none, none, (.fields [].toArray), [].toArray⟩
noncomputable def ob108 (P : Params) : Obj := ⟨(.type "tuple"), none, (.seq [(.str (Str.ofString "a") 298), (.str (Str.ofString "b") 299)].toArray 0), [].toArray⟩
noncomputable def ob109 (P : Params) : Obj := ⟨(.type "tuple"), none, (.seq [].toArray 0), [].toArray⟩
noncomputable def ob110 (P : Params) : Obj := ⟨.none, none, (.func { name := (Str.ofString "getitem"), qualname := (Str.ofString "getitem"), params := (fnOfStm 14).1, body := .stmts (fnOfStm 14).2.1, scope := (fnOfStm 14).2.2, globals := 0, closure := [], defaults := .none, kwdefaults := .none, doc := .none, pyModule := .none, annotations := none, code := .none, closureTuple := .none, builtins := 0 }), [].toArray⟩
noncomputable def ob111 (P : Params) : Obj := ⟨(.type "code"), none, (.fields [(.str (Str.ofString "getitem") 295), (.str (Str.ofString "getitem") 296), (.str (Str.ofString "/claim/cut.py") 297), (.int 32 0), (.int 2 0), (.int 0 0), (.int 0 0), (.int 3 0), (.ref 106), (.bool true), (.int 181 0), (.ref 107), .none, (.ref 108), (.ref 109), (.ref 110), (.int 300 0), (.int 32 0), (.str (Str.ofString "/claim/cut.py") 301)].toArray), [].toArray⟩
noncomputable def ob112 (P : Params) : Obj := ⟨(.type "function"), none, (.func { name := (Str.ofString "getitem"), qualname := (Str.ofString "getitem"), params := (fnOfStm 14).1, body := .stmts (fnOfStm 14).2.1, scope := (fnOfStm 14).2.2, globals := 3, closure := [], defaults := .none, kwdefaults := .none, doc := .none, pyModule := (.str (Str.ofString "cpy313.operator") 187), annotations := none, code := (.ref 111), closureTuple := .none, builtins := 0 }), [].toArray⟩
noncomputable def ob113 (P : Params) : Obj := ⟨(.type "tuple"), none, (.seq [].toArray 0), [].toArray⟩
noncomputable def ob114 (P : Params) : Obj := ⟨.none, none, (.fields [].toArray), [].toArray⟩
noncomputable def ob115 (P : Params) : Obj := ⟨(.type "tuple"), none, (.seq [(.str (Str.ofString "a") 306), (.str (Str.ofString "b") 307), (.str (Str.ofString "i") 308), (.str (Str.ofString "j") 309)].toArray 0), [].toArray⟩
noncomputable def ob116 (P : Params) : Obj := ⟨(.type "tuple"), none, (.seq [].toArray 0), [].toArray⟩
noncomputable def ob117 (P : Params) : Obj := ⟨.none, none, (.func { name := (Str.ofString "indexOf"), qualname := (Str.ofString "indexOf"), params := (fnOfStm 15).1, body := .stmts (fnOfStm 15).2.1, scope := (fnOfStm 15).2.2, globals := 0, closure := [], defaults := .none, kwdefaults := .none, doc := .none, pyModule := .none, annotations := none, code := .none, closureTuple := .none, builtins := 0 }), [].toArray⟩
noncomputable def ob118 (P : Params) : Obj := ⟨(.type "code"), none, (.fields [(.str (Str.ofString "indexOf") 303), (.str (Str.ofString "indexOf") 304), (.str (Str.ofString "/claim/cut.py") 305), (.int 34 0), (.int 2 0), (.int 0 0), (.int 0 0), (.int 3 0), (.ref 113), (.bool true), (.int 181 0), (.ref 114), .none, (.ref 115), (.ref 116), (.ref 117), (.int 310 0), (.int 34 0), (.str (Str.ofString "/claim/cut.py") 311)].toArray), [].toArray⟩
noncomputable def ob119 (P : Params) : Obj := ⟨(.type "function"), none, (.func { name := (Str.ofString "indexOf"), qualname := (Str.ofString "indexOf"), params := (fnOfStm 15).1, body := .stmts (fnOfStm 15).2.1, scope := (fnOfStm 15).2.2, globals := 3, closure := [], defaults := .none, kwdefaults := .none, doc := .none, pyModule := (.str (Str.ofString "cpy313.operator") 187), annotations := none, code := (.ref 118), closureTuple := .none, builtins := 0 }), [].toArray⟩
noncomputable def tr_1 (P : Params) : BT := (.node (boot_o_0 P) (.node (boot_o_1 P) (.node (ob3_1 P) (.node (boot_o_7 P) (.node (ob15 P) (.node (ob31 P) (.node (ob63 P) .nil .nil) (.node (ob95 P) .nil .nil)) (.node (ob47 P) (.node (ob79 P) .nil .nil) (.node (ob111 P) .nil .nil))) (.node (ob23 P) (.node (ob39 P) (.node (ob71 P) .nil .nil) (.node (ob103 P) .nil .nil)) (.node (ob55 P) (.node (ob87 P) .nil .nil) (.node (ob119 P) .nil .nil)))) (.node (ob11 P) (.node (ob19 P) (.node (ob35 P) (.node (ob67 P) .nil .nil) (.node (ob99 P) .nil .nil)) (.node (ob51 P) (.node (ob83 P) .nil .nil) (.node (ob115 P) .nil .nil))) (.node (ob27 P) (.node (ob43 P) (.node (ob75 P) .nil .nil) (.node (ob107 P) .nil .nil)) (.node (ob59 P) (.node (ob91 P) .nil .nil) .nil)))) (.node (boot_o_5 P) (.node (boot_o_9 P) (.node (ob17 P) (.node (ob33 P) (.node (ob65 P) .nil .nil) (.node (ob97 P) .nil .nil)) (.node (ob49 P) (.node (ob81 P) .nil .nil) (.node (ob113 P) .nil .nil))) (.node (ob25 P) (.node (ob41 P) (.node (ob73 P) .nil .nil) (.node (ob105 P) .nil .nil)) (.node (ob57 P) (.node (ob89 P) .nil .nil) .nil))) (.node (ob13 P) (.node (ob21 P) (.node (ob37 P) (.node (ob69 P) .nil .nil) (.node (ob101 P) .nil .nil)) (.node (ob53 P) (.node (ob85 P) .nil .nil) (.node (ob117 P) .nil .nil))) (.node (ob29 P) (.node (ob45 P) (.node (ob77 P) .nil .nil) (.node (ob109 P) .nil .nil)) (.node (ob61 P) (.node (ob93 P) .nil .nil) .nil))))) (.node (boot_o_2 P) (.node (boot_o_4 P) (.node (boot_o_8 P) (.node (ob16 P) (.node (ob32 P) (.node (ob64 P) .nil .nil) (.node (ob96 P) .nil .nil)) (.node (ob48 P) (.node (ob80 P) .nil .nil) (.node (ob112 P) .nil .nil))) (.node (ob24 P) (.node (ob40 P) (.node (ob72 P) .nil .nil) (.node (ob104 P) .nil .nil)) (.node (ob56 P) (.node (ob88 P) .nil .nil) .nil))) (.node (ob12_1 P) (.node (ob20 P) (.node (ob36 P) (.node (ob68 P) .nil .nil) (.node (ob100 P) .nil .nil)) (.node (ob52 P) (.node (ob84 P) .nil .nil) (.node (ob116 P) .nil .nil))) (.node (ob28 P) (.node (ob44 P) (.node (ob76 P) .nil .nil) (.node (ob108 P) .nil .nil)) (.node (ob60 P) (.node (ob92 P) .nil .nil) .nil)))) (.node (boot_o_6 P) (.node (boot_o_10 P) (.node (ob18 P) (.node (ob34 P) (.node (ob66 P) .nil .nil) (.node (ob98 P) .nil .nil)) (.node (ob50 P) (.node (ob82 P) .nil .nil) (.node (ob114 P) .nil .nil))) (.node (ob26 P) (.node (ob42 P) (.node (ob74 P) .nil .nil) (.node (ob106 P) .nil .nil)) (.node (ob58 P) (.node (ob90 P) .nil .nil) .nil))) (.node (ob14 P) (.node (ob22 P) (.node (ob38 P) (.node (ob70 P) .nil .nil) (.node (ob102 P) .nil .nil)) (.node (ob54 P) (.node (ob86 P) .nil .nil) (.node (ob118 P) .nil .nil))) (.node (ob30 P) (.node (ob46 P) (.node (ob78 P) .nil .nil) (.node (ob110 P) .nil .nil)) (.node (ob62 P) (.node (ob94 P) .nil .nil) .nil))))))
noncomputable def ob3_2 (P : Params) : Obj := ⟨(.type "dict"), none, (.dict [⟨PyData.keyHash P (Str.ofString "__name__"), (.str (Str.ofString "__name__") 165), (.str (Str.ofString "cpy313.stringprep") 313)⟩, ⟨PyData.keyHash P (Str.ofString "__doc__"), (.str (Str.ofString "__doc__") 166), .none⟩, ⟨PyData.keyHash P (Str.ofString "__package__"), (.str (Str.ofString "__package__") 167), .none⟩, ⟨PyData.keyHash P (Str.ofString "__loader__"), (.str (Str.ofString "__loader__") 168), (.builtin "__main__.__loader__#opaque")⟩, ⟨PyData.keyHash P (Str.ofString "__spec__"), (.str (Str.ofString "__spec__") 169), .none⟩, ⟨PyData.keyHash P (Str.ofString "__annotations__"), (.str (Str.ofString "__annotations__") 170), (.ref 6)⟩, ⟨PyData.keyHash P (Str.ofString "__builtins__"), (.str (Str.ofString "__builtins__") 171), (.ref 4)⟩, ⟨PyData.keyHash P (Str.ofString "__file__"), (.str (Str.ofString "__file__") 173), (.str (Str.ofString "/claim/cut.py") 172)⟩, ⟨PyData.keyHash P (Str.ofString "__cached__"), (.str (Str.ofString "__cached__") 174), .none⟩, ⟨PyData.keyHash P (Str.ofString "lt"), (.str (Str.ofString "lt") 196), (.ref 21)⟩, ⟨PyData.keyHash P (Str.ofString "le"), (.str (Str.ofString "le") 204), (.ref 28)⟩, ⟨PyData.keyHash P (Str.ofString "eq"), (.str (Str.ofString "eq") 212), (.ref 35)⟩, ⟨PyData.keyHash P (Str.ofString "ne"), (.str (Str.ofString "ne") 220), (.ref 42)⟩, ⟨PyData.keyHash P (Str.ofString "ge"), (.str (Str.ofString "ge") 228), (.ref 49)⟩, ⟨PyData.keyHash P (Str.ofString "gt"), (.str (Str.ofString "gt") 236), (.ref 56)⟩, ⟨PyData.keyHash P (Str.ofString "add"), (.str (Str.ofString "add") 244), (.ref 63)⟩, ⟨PyData.keyHash P (Str.ofString "and_"), (.str (Str.ofString "and_") 252), (.ref 70)⟩, ⟨PyData.keyHash P (Str.ofString "or_"), (.str (Str.ofString "or_") 260), (.ref 77)⟩, ⟨PyData.keyHash P (Str.ofString "sub"), (.str (Str.ofString "sub") 268), (.ref 84)⟩, ⟨PyData.keyHash P (Str.ofString "xor"), (.str (Str.ofString "xor") 276), (.ref 91)⟩, ⟨PyData.keyHash P (Str.ofString "contains"), (.str (Str.ofString "contains") 284), (.ref 98)⟩, ⟨PyData.keyHash P (Str.ofString "countOf"), (.str (Str.ofString "countOf") 294), (.ref 105)⟩, ⟨PyData.keyHash P (Str.ofString "getitem"), (.str (Str.ofString "getitem") 302), (.ref 112)⟩, ⟨PyData.keyHash P (Str.ofString "indexOf"), (.str (Str.ofString "indexOf") 312), (.ref 119)⟩, ⟨PyData.keyHash P (Str.ofString "b1_set"), (.str (Str.ofString "b1_set") 374), (.ref 127)⟩].toArray 25), [].toArray⟩
noncomputable def ob120 (P : Params) : Obj := ⟨(.type "list"), none, (.seq [(.int 173 315), (.int 847 316), (.int 6150 317), (.int 6155 318), (.int 6156 319), (.int 6157 320), (.int 8203 321), (.int 8204 322), (.int 8205 323), (.int 8288 324), (.int 65279 325)].toArray 0), [].toArray⟩
noncomputable def ob121 (P : Params) : Obj := ⟨(.type "range"), none, (.fields [(.int 65024 326), (.int 65040 327), (.int 1 328)].toArray), [].toArray⟩
noncomputable def ob122 (P : Params) : Obj := ⟨(.type "list"), none, (.seq [(.int 65024 331), (.int 65025 332), (.int 65026 333), (.int 65027 334), (.int 65028 335), (.int 65029 336), (.int 65030 337), (.int 65031 338), (.int 65032 339), (.int 65033 340), (.int 65034 341), (.int 65035 342), (.int 65036 343), (.int 65037 344), (.int 65038 345), (.int 65039 346)].toArray 18), [].toArray⟩
noncomputable def ob123 (P : Params) : Obj := ⟨(.type "range_iterator"), none, (.fields [(.int 65040 0), (.int 0 0), (.int 1 0)].toArray), [].toArray⟩
noncomputable def ob124 (P : Params) : Obj := ⟨(.type "tuple"), none, (.seq [].toArray 0), [].toArray⟩
noncomputable def ob125 (P : Params) : Obj := ⟨(.type "StopIteration"), none, (.fields [(.ref 124), .none, .none, .none, (.bool false), .none].toArray), [].toArray⟩
noncomputable def ob126 (P : Params) : Obj := ⟨(.type "list"), none, (.seq [(.int 173 315), (.int 847 316), (.int 6150 317), (.int 6155 318), (.int 6156 319), (.int 6157 320), (.int 8203 321), (.int 8204 322), (.int 8205 323), (.int 8288 324), (.int 65279 325), (.int 65024 331), (.int 65025 332), (.int 65026 333), (.int 65027 334), (.int 65028 335), (.int 65029 336), (.int 65030 337), (.int 65031 338), (.int 65032 339), (.int 65033 340), (.int 65034 341), (.int 65035 342), (.int 65036 343), (.int 65037 344), (.int 65038 345), (.int 65039 346)].toArray 0), [].toArray⟩
noncomputable def ob127 (P : Params) : Obj := ⟨(.type "set"), none, (.set [(65024, (.int 65024 331)), (65025, (.int 65025 332)), (65026, (.int 65026 333)), (65027, (.int 65027 334)), (65028, (.int 65028 335)), (65029, (.int 65029 336)), (6150, (.int 6150 317)), (65030, (.int 65030 337)), (65031, (.int 65031 338)), (65032, (.int 65032 339)), (65033, (.int 65033 340)), (6155, (.int 6155 318)), (6156, (.int 6156 319)), (6157, (.int 6157 320)), (8203, (.int 8203 321)), (8204, (.int 8204 322)), (8205, (.int 8205 323)), (65034, (.int 65034 341)), (65035, (.int 65035 342)), (65036, (.int 65036 343)), (65037, (.int 65037 344)), (65038, (.int 65038 345)), (65039, (.int 65039 346)), (173, (.int 173 315)), (847, (.int 847 316)), (8288, (.int 8288 324)), (65279, (.int 65279 325))].toArray 29 { mask := 127, place := [0, 1, 2, 3, 4, 5, 6, 7, 8, 9, 10, 11, 12, 13, 14, 15, 16, 17, 18, 19, 20, 21, 22, 45, 79, 96, 127].toArray, dummies := [].toArray, finger := 0, led := !(P.followText "set-order"), moves := 2, plain := true }), [].toArray⟩
noncomputable def ob128 (P : Params) : Obj := ⟨(.type "list_iterator"), none, (.fields [.none, (.int 27 0)].toArray), [].toArray⟩
noncomputable def ob129 (P : Params) : Obj := ⟨(.type "tuple"), none, (.seq [].toArray 0), [].toArray⟩
noncomputable def ob130 (P : Params) : Obj := ⟨(.type "StopIteration"), none, (.fields [(.ref 129), .none, .none, .none, (.bool false), .none].toArray), [].toArray⟩
noncomputable def tr_2 (P : Params) : BT := (.node (boot_o_0 P) (.node (boot_o_1 P) (.node (ob3_2 P) (.node (boot_o_7 P) (.node (ob15 P) (.node (ob31 P) (.node (ob63 P) (.node (ob127 P) .nil .nil) .nil) (.node (ob95 P) .nil .nil)) (.node (ob47 P) (.node (ob79 P) .nil .nil) (.node (ob111 P) .nil .nil))) (.node (ob23 P) (.node (ob39 P) (.node (ob71 P) .nil .nil) (.node (ob103 P) .nil .nil)) (.node (ob55 P) (.node (ob87 P) .nil .nil) (.node (ob119 P) .nil .nil)))) (.node (ob11 P) (.node (ob19 P) (.node (ob35 P) (.node (ob67 P) .nil .nil) (.node (ob99 P) .nil .nil)) (.node (ob51 P) (.node (ob83 P) .nil .nil) (.node (ob115 P) .nil .nil))) (.node (ob27 P) (.node (ob43 P) (.node (ob75 P) .nil .nil) (.node (ob107 P) .nil .nil)) (.node (ob59 P) (.node (ob91 P) .nil .nil) (.node (ob123 P) .nil .nil))))) (.node (boot_o_5 P) (.node (boot_o_9 P) (.node (ob17 P) (.node (ob33 P) (.node (ob65 P) (.node (ob129 P) .nil .nil) .nil) (.node (ob97 P) .nil .nil)) (.node (ob49 P) (.node (ob81 P) .nil .nil) (.node (ob113 P) .nil .nil))) (.node (ob25 P) (.node (ob41 P) (.node (ob73 P) .nil .nil) (.node (ob105 P) .nil .nil)) (.node (ob57 P) (.node (ob89 P) .nil .nil) (.node (ob121 P) .nil .nil)))) (.node (ob13 P) (.node (ob21 P) (.node (ob37 P) (.node (ob69 P) .nil .nil) (.node (ob101 P) .nil .nil)) (.node (ob53 P) (.node (ob85 P) .nil .nil) (.node (ob117 P) .nil .nil))) (.node (ob29 P) (.node (ob45 P) (.node (ob77 P) .nil .nil) (.node (ob109 P) .nil .nil)) (.node (ob61 P) (.node (ob93 P) .nil .nil) (.node (ob125 P) .nil .nil)))))) (.node (boot_o_2 P) (.node (boot_o_4 P) (.node (boot_o_8 P) (.node (ob16 P) (.node (ob32 P) (.node (ob64 P) (.node (ob128 P) .nil .nil) .nil) (.node (ob96 P) .nil .nil)) (.node (ob48 P) (.node (ob80 P) .nil .nil) (.node (ob112 P) .nil .nil))) (.node (ob24 P) (.node (ob40 P) (.node (ob72 P) .nil .nil) (.node (ob104 P) .nil .nil)) (.node (ob56 P) (.node (ob88 P) .nil .nil) (.node (ob120 P) .nil .nil)))) (.node (ob12_1 P) (.node (ob20 P) (.node (ob36 P) (.node (ob68 P) .nil .nil) (.node (ob100 P) .nil .nil)) (.node (ob52 P) (.node (ob84 P) .nil .nil) (.node (ob116 P) .nil .nil))) (.node (ob28 P) (.node (ob44 P) (.node (ob76 P) .nil .nil) (.node (ob108 P) .nil .nil)) (.node (ob60 P) (.node (ob92 P) .nil .nil) (.node (ob124 P) .nil .nil))))) (.node (boot_o_6 P) (.node (boot_o_10 P) (.node (ob18 P) (.node (ob34 P) (.node (ob66 P) (.node (ob130 P) .nil .nil) .nil) (.node (ob98 P) .nil .nil)) (.node (ob50 P) (.node (ob82 P) .nil .nil) (.node (ob114 P) .nil .nil))) (.node (ob26 P) (.node (ob42 P) (.node (ob74 P) .nil .nil) (.node (ob106 P) .nil .nil)) (.node (ob58 P) (.node (ob90 P) .nil .nil) (.node (ob122 P) .nil .nil)))) (.node (ob14 P) (.node (ob22 P) (.node (ob38 P) (.node (ob70 P) .nil .nil) (.node (ob102 P) .nil .nil)) (.node (ob54 P) (.node (ob86 P) .nil .nil) (.node (ob118 P) .nil .nil))) (.node (ob30 P) (.node (ob46 P) (.node (ob78 P) .nil .nil) (.node (ob110 P) .nil .nil)) (.node (ob62 P) (.node (ob94 P) .nil .nil) (.node (ob126 P) .nil .nil)))))))
noncomputable def ob3_3 (P : Params) : Obj := ⟨(.type "dict"), none, (.dict [⟨PyData.keyHash P (Str.ofString "__name__"), (.str (Str.ofString "__name__") 165), (.str (Str.ofString "cpy313.stringprep") 313)⟩, ⟨PyData.keyHash P (Str.ofString "__doc__"), (.str (Str.ofString "__doc__") 166), .none⟩, ⟨PyData.keyHash P (Str.ofString "__package__"), (.str (Str.ofString "__package__") 167), .none⟩, ⟨PyData.keyHash P (Str.ofString "__loader__"), (.str (Str.ofString "__loader__") 168), (.builtin "__main__.__loader__#opaque")⟩, ⟨PyData.keyHash P (Str.ofString "__spec__"), (.str (Str.ofString "__spec__") 169), .none⟩, ⟨PyData.keyHash P (Str.ofString "__annotations__"), (.str (Str.ofString "__annotations__") 170), (.ref 6)⟩, ⟨PyData.keyHash P (Str.ofString "__builtins__"), (.str (Str.ofString "__builtins__") 171), (.ref 4)⟩, ⟨PyData.keyHash P (Str.ofString "__file__"), (.str (Str.ofString "__file__") 173), (.str (Str.ofString "/claim/cut.py") 172)⟩, ⟨PyData.keyHash P (Str.ofString "__cached__"), (.str (Str.ofString "__cached__") 174), .none⟩, ⟨PyData.keyHash P (Str.ofString "lt"), (.str (Str.ofString "lt") 196), (.ref 21)⟩, ⟨PyData.keyHash P (Str.ofString "le"), (.str (Str.ofString "le") 204), (.ref 28)⟩, ⟨PyData.keyHash P (Str.ofString "eq"), (.str (Str.ofString "eq") 212), (.ref 35)⟩, ⟨PyData.keyHash P (Str.ofString "ne"), (.str (Str.ofString "ne") 220), (.ref 42)⟩, ⟨PyData.keyHash P (Str.ofString "ge"), (.str (Str.ofString "ge") 228), (.ref 49)⟩, ⟨PyData.keyHash P (Str.ofString "gt"), (.str (Str.ofString "gt") 236), (.ref 56)⟩, ⟨PyData.keyHash P (Str.ofString "add"), (.str (Str.ofString "add") 244), (.ref 63)⟩, ⟨PyData.keyHash P (Str.ofString "and_"), (.str (Str.ofString "and_") 252), (.ref 70)⟩, ⟨PyData.keyHash P (Str.ofString "or_"), (.str (Str.ofString "or_") 260), (.ref 77)⟩, ⟨PyData.keyHash P (Str.ofString "sub"), (.str (Str.ofString "sub") 268), (.ref 84)⟩, ⟨PyData.keyHash P (Str.ofString "xor"), (.str (Str.ofString "xor") 276), (.ref 91)⟩, ⟨PyData.keyHash P (Str.ofString "contains"), (.str (Str.ofString "contains") 284), (.ref 98)⟩, ⟨PyData.keyHash P (Str.ofString "countOf"), (.str (Str.ofString "countOf") 294), (.ref 105)⟩, ⟨PyData.keyHash P (Str.ofString "getitem"), (.str (Str.ofString "getitem") 302), (.ref 112)⟩, ⟨PyData.keyHash P (Str.ofString "indexOf"), (.str (Str.ofString "indexOf") 312), (.ref 119)⟩, ⟨PyData.keyHash P (Str.ofString "b1_set"), (.str (Str.ofString "b1_set") 374), (.ref 127)⟩, ⟨PyData.keyHash P (Str.ofString "in_table_b1"), (.str (Str.ofString "in_table_b1") 381), (.ref 137)⟩].toArray 26), [].toArray⟩
noncomputable def ob12_3 (P : Params) : Obj := ⟨.none, none, (.fields [(.int 2 0), (.int 0 0), (.ref 20), (.int 4 0), (.int 0 0), (.ref 27), (.int 6 0), (.int 0 0), (.ref 34), (.int 8 0), (.int 0 0), (.ref 41), (.int 10 0), (.int 0 0), (.ref 48), (.int 12 0), (.int 0 0), (.ref 55), (.int 14 0), (.int 0 0), (.ref 62), (.int 16 0), (.int 0 0), (.ref 69), (.int 18 0), (.int 0 0), (.ref 76), (.int 20 0), (.int 0 0), (.ref 83), (.int 22 0), (.int 0 0), (.ref 90), (.int 24 0), (.int 0 0), (.ref 97), (.int 26 0), (.int 0 0), (.ref 104), (.int 32 0), (.int 0 0), (.ref 111), (.int 34 0), (.int 0 0), (.ref 118), (.int 42 0), (.int 0 0), (.ref 136)].toArray), [].toArray⟩
noncomputable def ob131 (P : Params) : Obj := ⟨(.type "tuple"), none, (.seq [].toArray 0), [].toArray⟩
noncomputable def ob132 (P : Params) : Obj := ⟨.none, none, (.fields [].toArray), [].toArray⟩
noncomputable def ob133 (P : Params) : Obj := ⟨(.type "tuple"), none, (.seq [(.str (Str.ofString "code") 378)].toArray 0), [].toArray⟩
noncomputable def ob134 (P : Params) : Obj := ⟨(.type "tuple"), none, (.seq [].toArray 0), [].toArray⟩
noncomputable def ob135 (P : Params) : Obj := ⟨.none, none, (.func { name := (Str.ofString "in_table_b1"), qualname := (Str.ofString "in_table_b1"), params := (fnOfStm 18).1, body := .stmts (fnOfStm 18).2.1, scope := (fnOfStm 18).2.2, globals := 0, closure := [], defaults := .none, kwdefaults := .none, doc := .none, pyModule := .none, annotations := none, code := .none, closureTuple := .none, builtins := 0 }), [].toArray⟩
noncomputable def ob136 (P : Params) : Obj := ⟨(.type "code"), none, (.fields [(.str (Str.ofString "in_table_b1") 375), (.str (Str.ofString "in_table_b1") 376), (.str (Str.ofString "/claim/cut.py") 377), (.int 42 0), (.int 1 0), (.int 0 0), (.int 0 0), (.int 3 0), (.ref 131), (.bool true), (.int 181 0), (.ref 132), .none, (.ref 133), (.ref 134), (.ref 135), (.int 379 0), (.int 42 0), (.str (Str.ofString "/claim/cut.py") 380)].toArray), [].toArray⟩
noncomputable def ob137 (P : Params) : Obj := ⟨(.type "function"), none, (.func { name := (Str.ofString "in_table_b1"), qualname := (Str.ofString "in_table_b1"), params := (fnOfStm 18).1, body := .stmts (fnOfStm 18).2.1, scope := (fnOfStm 18).2.2, globals := 3, closure := [], defaults := .none, kwdefaults := .none, doc := .none, pyModule := (.str (Str.ofString "cpy313.stringprep") 313), annotations := none, code := (.ref 136), closureTuple := .none, builtins := 0 }), [].toArray⟩
noncomputable def tr_3 (P : Params) : BT := (.node (boot_o_0 P) (.node (boot_o_1 P) (.node (ob3_3 P) (.node (boot_o_7 P) (.node (ob15 P) (.node (ob31 P) (.node (ob63 P) (.node (ob127 P) .nil .nil) .nil) (.node (ob95 P) .nil .nil)) (.node (ob47 P) (.node (ob79 P) .nil .nil) (.node (ob111 P) .nil .nil))) (.node (ob23 P) (.node (ob39 P) (.node (ob71 P) (.node (ob135 P) .nil .nil) .nil) (.node (ob103 P) .nil .nil)) (.node (ob55 P) (.node (ob87 P) .nil .nil) (.node (ob119 P) .nil .nil)))) (.node (ob11 P) (.node (ob19 P) (.node (ob35 P) (.node (ob67 P) (.node (ob131 P) .nil .nil) .nil) (.node (ob99 P) .nil .nil)) (.node (ob51 P) (.node (ob83 P) .nil .nil) (.node (ob115 P) .nil .nil))) (.node (ob27 P) (.node (ob43 P) (.node (ob75 P) .nil .nil) (.node (ob107 P) .nil .nil)) (.node (ob59 P) (.node (ob91 P) .nil .nil) (.node (ob123 P) .nil .nil))))) (.node (boot_o_5 P) (.node (boot_o_9 P) (.node (ob17 P) (.node (ob33 P) (.node (ob65 P) (.node (ob129 P) .nil .nil) .nil) (.node (ob97 P) .nil .nil)) (.node (ob49 P) (.node (ob81 P) .nil .nil) (.node (ob113 P) .nil .nil))) (.node (ob25 P) (.node (ob41 P) (.node (ob73 P) (.node (ob137 P) .nil .nil) .nil) (.node (ob105 P) .nil .nil)) (.node (ob57 P) (.node (ob89 P) .nil .nil) (.node (ob121 P) .nil .nil)))) (.node (ob13 P) (.node (ob21 P) (.node (ob37 P) (.node (ob69 P) (.node (ob133 P) .nil .nil) .nil) (.node (ob101 P) .nil .nil)) (.node (ob53 P) (.node (ob85 P) .nil .nil) (.node (ob117 P) .nil .nil))) (.node (ob29 P) (.node (ob45 P) (.node (ob77 P) .nil .nil) (.node (ob109 P) .nil .nil)) (.node (ob61 P) (.node (ob93 P) .nil .nil) (.node (ob125 P) .nil .nil)))))) (.node (boot_o_2 P) (.node (boot_o_4 P) (.node (boot_o_8 P) (.node (ob16 P) (.node (ob32 P) (.node (ob64 P) (.node (ob128 P) .nil .nil) .nil) (.node (ob96 P) .nil .nil)) (.node (ob48 P) (.node (ob80 P) .nil .nil) (.node (ob112 P) .nil .nil))) (.node (ob24 P) (.node (ob40 P) (.node (ob72 P) (.node (ob136 P) .nil .nil) .nil) (.node (ob104 P) .nil .nil)) (.node (ob56 P) (.node (ob88 P) .nil .nil) (.node (ob120 P) .nil .nil)))) (.node (ob12_3 P) (.node (ob20 P) (.node (ob36 P) (.node (ob68 P) (.node (ob132 P) .nil .nil) .nil) (.node (ob100 P) .nil .nil)) (.node (ob52 P) (.node (ob84 P) .nil .nil) (.node (ob116 P) .nil .nil))) (.node (ob28 P) (.node (ob44 P) (.node (ob76 P) .nil .nil) (.node (ob108 P) .nil .nil)) (.node (ob60 P) (.node (ob92 P) .nil .nil) (.node (ob124 P) .nil .nil))))) (.node (boot_o_6 P) (.node (boot_o_10 P) (.node (ob18 P) (.node (ob34 P) (.node (ob66 P) (.node (ob130 P) .nil .nil) .nil) (.node (ob98 P) .nil .nil)) (.node (ob50 P) (.node (ob82 P) .nil .nil) (.node (ob114 P) .nil .nil))) (.node (ob26 P) (.node (ob42 P) (.node (ob74 P) .nil .nil) (.node (ob106 P) .nil .nil)) (.node (ob58 P) (.node (ob90 P) .nil .nil) (.node (ob122 P) .nil .nil)))) (.node (ob14 P) (.node (ob22 P) (.node (ob38 P) (.node (ob70 P) (.node (ob134 P) .nil .nil) .nil) (.node (ob102 P) .nil .nil)) (.node (ob54 P) (.node (ob86 P) .nil .nil) (.node (ob118 P) .nil .nil))) (.node (ob30 P) (.node (ob46 P) (.node (ob78 P) .nil .nil) (.node (ob110 P) .nil .nil)) (.node (ob62 P) (.node (ob94 P) .nil .nil) (.node (ob126 P) .nil .nil)))))))
noncomputable def ob3_4 (P : Params) : Obj := ⟨(.type "dict"), none, (.dict [⟨PyData.keyHash P (Str.ofString "__name__"), (.str (Str.ofString "__name__") 165), (.str (Str.ofString "cpy313.stringprep") 313)⟩, ⟨PyData.keyHash P (Str.ofString "__doc__"), (.str (Str.ofString "__doc__") 166), .none⟩, ⟨PyData.keyHash P (Str.ofString "__package__"), (.str (Str.ofString "__package__") 167), .none⟩, ⟨PyData.keyHash P (Str.ofString "__loader__"), (.str (Str.ofString "__loader__") 168), (.builtin "__main__.__loader__#opaque")⟩, ⟨PyData.keyHash P (Str.ofString "__spec__"), (.str (Str.ofString "__spec__") 169), .none⟩, ⟨PyData.keyHash P (Str.ofString "__annotations__"), (.str (Str.ofString "__annotations__") 170), (.ref 6)⟩, ⟨PyData.keyHash P (Str.ofString "__builtins__"), (.str (Str.ofString "__builtins__") 171), (.ref 4)⟩, ⟨PyData.keyHash P (Str.ofString "__file__"), (.str (Str.ofString "__file__") 173), (.str (Str.ofString "/claim/cut.py") 172)⟩, ⟨PyData.keyHash P (Str.ofString "__cached__"), (.str (Str.ofString "__cached__") 174), .none⟩, ⟨PyData.keyHash P (Str.ofString "lt"), (.str (Str.ofString "lt") 196), (.ref 21)⟩, ⟨PyData.keyHash P (Str.ofString "le"), (.str (Str.ofString "le") 204), (.ref 28)⟩, ⟨PyData.keyHash P (Str.ofString "eq"), (.str (Str.ofString "eq") 212), (.ref 35)⟩, ⟨PyData.keyHash P (Str.ofString "ne"), (.str (Str.ofString "ne") 220), (.ref 42)⟩, ⟨PyData.keyHash P (Str.ofString "ge"), (.str (Str.ofString "ge") 228), (.ref 49)⟩, ⟨PyData.keyHash P (Str.ofString "gt"), (.str (Str.ofString "gt") 236), (.ref 56)⟩, ⟨PyData.keyHash P (Str.ofString "add"), (.str (Str.ofString "add") 244), (.ref 63)⟩, ⟨PyData.keyHash P (Str.ofString "and_"), (.str (Str.ofString "and_") 252), (.ref 70)⟩, ⟨PyData.keyHash P (Str.ofString "or_"), (.str (Str.ofString "or_") 260), (.ref 77)⟩, ⟨PyData.keyHash P (Str.ofString "sub"), (.str (Str.ofString "sub") 268), (.ref 84)⟩, ⟨PyData.keyHash P (Str.ofString "xor"), (.str (Str.ofString "xor") 276), (.ref 91)⟩, ⟨PyData.keyHash P (Str.ofString "contains"), (.str (Str.ofString "contains") 284), (.ref 98)⟩, ⟨PyData.keyHash P (Str.ofString "countOf"), (.str (Str.ofString "countOf") 294), (.ref 105)⟩, ⟨PyData.keyHash P (Str.ofString "getitem"), (.str (Str.ofString "getitem") 302), (.ref 112)⟩, ⟨PyData.keyHash P (Str.ofString "indexOf"), (.str (Str.ofString "indexOf") 312), (.ref 119)⟩, ⟨PyData.keyHash P (Str.ofString "b1_set"), (.str (Str.ofString "b1_set") 374), (.ref 127)⟩, ⟨PyData.keyHash P (Str.ofString "in_table_b1"), (.str (Str.ofString "in_table_b1") 381), (.ref 137)⟩, ⟨PyData.keyHash P (Str.ofString "b3_exceptions"), (.str (Str.ofString "b3_exceptions") 2332), (.ref 138)⟩].toArray 27), [].toArray⟩
noncomputable def b3P : List (Int × Str) := match (pw.main.body[19]? : Option PySem.Stmt) with
  | some (PySem.Stmt.Assign _ (PySem.Expr.Dict ks vs _) _) => (ks.zip vs).map fun
    | (some (PySem.Expr.Constant (.int i) _ _), PySem.Expr.Constant (.str s) _ _) => (i, s)
    | _ => (0, Str.ofString "")
  | _ => []
noncomputable def entsBy (st : Nat) : Nat → List (Int × Str) → List DictEntry
  | _, [] => []
  | t, (i, s) :: l => ⟨PySem.hashInt i, .int i t, .str s (t + 1)⟩ :: entsBy st (t + st) l
noncomputable def b3E : List DictEntry := entsBy 3 382 (b3P.take 646) ++ entsBy 2 2320 (b3P.drop 646)
noncomputable def entsB (st : Nat) : Nat → List (Int × Str) → List DictEntry
  | _, [] => []
  | t, (i, s) :: l => ⟨i, .int i t, .str s (t + 1)⟩ :: entsB st (t + st) l
noncomputable def dO (es : List DictEntry) : Obj := ⟨.type "dict", none, .dict es.toArray es.length, #[]⟩
noncomputable def dr : Nat → List (Int × Str)
  | 0 => b3P
  | k + 1 => (dr k).drop 17
noncomputable def ob138 (P : Params) : Obj := ⟨(.type "dict"), none, (.dict b3E.toArray 650), [].toArray⟩
noncomputable def ob139 (P : Params) : Obj := dO (entsB 3 433 ((dr 1).take 17))
noncomputable def ob140 (P : Params) : Obj := dO (entsB 3 484 ((dr 2).take 17))
noncomputable def ob141 (P : Params) : Obj := dO (entsB 3 535 ((dr 3).take 17))
noncomputable def ob142 (P : Params) : Obj := dO (entsB 3 586 ((dr 4).take 17))
noncomputable def ob143 (P : Params) : Obj := dO (entsB 3 637 ((dr 5).take 17))
noncomputable def ob144 (P : Params) : Obj := dO (entsB 3 688 ((dr 6).take 17))
noncomputable def ob145 (P : Params) : Obj := dO (entsB 3 739 ((dr 7).take 17))
noncomputable def ob146 (P : Params) : Obj := dO (entsB 3 790 ((dr 8).take 17))
noncomputable def ob147 (P : Params) : Obj := dO (entsB 3 841 ((dr 9).take 17))
noncomputable def ob148 (P : Params) : Obj := dO (entsB 3 892 ((dr 10).take 17))
noncomputable def ob149 (P : Params) : Obj := dO (entsB 3 943 ((dr 11).take 17))
noncomputable def ob150 (P : Params) : Obj := dO (entsB 3 994 ((dr 12).take 17))
noncomputable def ob151 (P : Params) : Obj := dO (entsB 3 1045 ((dr 13).take 17))
noncomputable def ob152 (P : Params) : Obj := dO (entsB 3 1096 ((dr 14).take 17))
noncomputable def ob153 (P : Params) : Obj := dO (entsB 3 1147 ((dr 15).take 17))
noncomputable def ob154 (P : Params) : Obj := dO (entsB 3 1198 ((dr 16).take 17))
noncomputable def ob155 (P : Params) : Obj := dO (entsB 3 1249 ((dr 17).take 17))
noncomputable def ob156 (P : Params) : Obj := dO (entsB 3 1300 ((dr 18).take 17))
noncomputable def ob157 (P : Params) : Obj := dO (entsB 3 1351 ((dr 19).take 17))
noncomputable def ob158 (P : Params) : Obj := dO (entsB 3 1402 ((dr 20).take 17))
noncomputable def ob159 (P : Params) : Obj := dO (entsB 3 1453 ((dr 21).take 17))
noncomputable def ob160 (P : Params) : Obj := dO (entsB 3 1504 ((dr 22).take 17))
noncomputable def ob161 (P : Params) : Obj := dO (entsB 3 1555 ((dr 23).take 17))
noncomputable def ob162 (P : Params) : Obj := dO (entsB 3 1606 ((dr 24).take 17))
noncomputable def ob163 (P : Params) : Obj := dO (entsB 3 1657 ((dr 25).take 17))
noncomputable def ob164 (P : Params) : Obj := dO (entsB 3 1708 ((dr 26).take 17))
noncomputable def ob165 (P : Params) : Obj := dO (entsB 3 1759 ((dr 27).take 17))
noncomputable def ob166 (P : Params) : Obj := dO (entsB 3 1810 ((dr 28).take 17))
noncomputable def ob167 (P : Params) : Obj := dO (entsB 3 1861 ((dr 29).take 17))
noncomputable def ob168 (P : Params) : Obj := dO (entsB 3 1912 ((dr 30).take 17))
noncomputable def ob169 (P : Params) : Obj := dO (entsB 3 1963 ((dr 31).take 17))
noncomputable def ob170 (P : Params) : Obj := dO (entsB 3 2014 ((dr 32).take 17))
noncomputable def ob171 (P : Params) : Obj := dO (entsB 3 2065 ((dr 33).take 17))
noncomputable def ob172 (P : Params) : Obj := dO (entsB 3 2116 ((dr 34).take 17))
noncomputable def ob173 (P : Params) : Obj := dO (entsB 3 2167 ((dr 35).take 17))
noncomputable def ob174 (P : Params) : Obj := dO (entsB 3 2218 ((dr 36).take 17))
noncomputable def ob175 (P : Params) : Obj := dO (entsB 3 2269 ((dr 37).take 17))
noncomputable def ob176 (P : Params) : Obj := dO (entsB 2 2320 (dr 38))
noncomputable def tr_4 (P : Params) : BT := (.node (boot_o_0 P) (.node (boot_o_1 P) (.node (ob3_4 P) (.node (boot_o_7 P) (.node (ob15 P) (.node (ob31 P) (.node (ob63 P) (.node (ob127 P) .nil .nil) .nil) (.node (ob95 P) (.node (ob159 P) .nil .nil) .nil)) (.node (ob47 P) (.node (ob79 P) (.node (ob143 P) .nil .nil) .nil) (.node (ob111 P) (.node (ob175 P) .nil .nil) .nil))) (.node (ob23 P) (.node (ob39 P) (.node (ob71 P) (.node (ob135 P) .nil .nil) .nil) (.node (ob103 P) (.node (ob167 P) .nil .nil) .nil)) (.node (ob55 P) (.node (ob87 P) (.node (ob151 P) .nil .nil) .nil) (.node (ob119 P) .nil .nil)))) (.node (ob11 P) (.node (ob19 P) (.node (ob35 P) (.node (ob67 P) (.node (ob131 P) .nil .nil) .nil) (.node (ob99 P) (.node (ob163 P) .nil .nil) .nil)) (.node (ob51 P) (.node (ob83 P) (.node (ob147 P) .nil .nil) .nil) (.node (ob115 P) .nil .nil))) (.node (ob27 P) (.node (ob43 P) (.node (ob75 P) (.node (ob139 P) .nil .nil) .nil) (.node (ob107 P) (.node (ob171 P) .nil .nil) .nil)) (.node (ob59 P) (.node (ob91 P) (.node (ob155 P) .nil .nil) .nil) (.node (ob123 P) .nil .nil))))) (.node (boot_o_5 P) (.node (boot_o_9 P) (.node (ob17 P) (.node (ob33 P) (.node (ob65 P) (.node (ob129 P) .nil .nil) .nil) (.node (ob97 P) (.node (ob161 P) .nil .nil) .nil)) (.node (ob49 P) (.node (ob81 P) (.node (ob145 P) .nil .nil) .nil) (.node (ob113 P) .nil .nil))) (.node (ob25 P) (.node (ob41 P) (.node (ob73 P) (.node (ob137 P) .nil .nil) .nil) (.node (ob105 P) (.node (ob169 P) .nil .nil) .nil)) (.node (ob57 P) (.node (ob89 P) (.node (ob153 P) .nil .nil) .nil) (.node (ob121 P) .nil .nil)))) (.node (ob13 P) (.node (ob21 P) (.node (ob37 P) (.node (ob69 P) (.node (ob133 P) .nil .nil) .nil) (.node (ob101 P) (.node (ob165 P) .nil .nil) .nil)) (.node (ob53 P) (.node (ob85 P) (.node (ob149 P) .nil .nil) .nil) (.node (ob117 P) .nil .nil))) (.node (ob29 P) (.node (ob45 P) (.node (ob77 P) (.node (ob141 P) .nil .nil) .nil) (.node (ob109 P) (.node (ob173 P) .nil .nil) .nil)) (.node (ob61 P) (.node (ob93 P) (.node (ob157 P) .nil .nil) .nil) (.node (ob125 P) .nil .nil)))))) (.node (boot_o_2 P) (.node (boot_o_4 P) (.node (boot_o_8 P) (.node (ob16 P) (.node (ob32 P) (.node (ob64 P) (.node (ob128 P) .nil .nil) .nil) (.node (ob96 P) (.node (ob160 P) .nil .nil) .nil)) (.node (ob48 P) (.node (ob80 P) (.node (ob144 P) .nil .nil) .nil) (.node (ob112 P) (.node (ob176 P) .nil .nil) .nil))) (.node (ob24 P) (.node (ob40 P) (.node (ob72 P) (.node (ob136 P) .nil .nil) .nil) (.node (ob104 P) (.node (ob168 P) .nil .nil) .nil)) (.node (ob56 P) (.node (ob88 P) (.node (ob152 P) .nil .nil) .nil) (.node (ob120 P) .nil .nil)))) (.node (ob12_3 P) (.node (ob20 P) (.node (ob36 P) (.node (ob68 P) (.node (ob132 P) .nil .nil) .nil) (.node (ob100 P) (.node (ob164 P) .nil .nil) .nil)) (.node (ob52 P) (.node (ob84 P) (.node (ob148 P) .nil .nil) .nil) (.node (ob116 P) .nil .nil))) (.node (ob28 P) (.node (ob44 P) (.node (ob76 P) (.node (ob140 P) .nil .nil) .nil) (.node (ob108 P) (.node (ob172 P) .nil .nil) .nil)) (.node (ob60 P) (.node (ob92 P) (.node (ob156 P) .nil .nil) .nil) (.node (ob124 P) .nil .nil))))) (.node (boot_o_6 P) (.node (boot_o_10 P) (.node (ob18 P) (.node (ob34 P) (.node (ob66 P) (.node (ob130 P) .nil .nil) .nil) (.node (ob98 P) (.node (ob162 P) .nil .nil) .nil)) (.node (ob50 P) (.node (ob82 P) (.node (ob146 P) .nil .nil) .nil) (.node (ob114 P) .nil .nil))) (.node (ob26 P) (.node (ob42 P) (.node (ob74 P) (.node (ob138 P) .nil .nil) .nil) (.node (ob106 P) (.node (ob170 P) .nil .nil) .nil)) (.node (ob58 P) (.node (ob90 P) (.node (ob154 P) .nil .nil) .nil) (.node (ob122 P) .nil .nil)))) (.node (ob14 P) (.node (ob22 P) (.node (ob38 P) (.node (ob70 P) (.node (ob134 P) .nil .nil) .nil) (.node (ob102 P) (.node (ob166 P) .nil .nil) .nil)) (.node (ob54 P) (.node (ob86 P) (.node (ob150 P) .nil .nil) .nil) (.node (ob118 P) .nil .nil))) (.node (ob30 P) (.node (ob46 P) (.node (ob78 P) (.node (ob142 P) .nil .nil) .nil) (.node (ob110 P) (.node (ob174 P) .nil .nil) .nil)) (.node (ob62 P) (.node (ob94 P) (.node (ob158 P) .nil .nil) .nil) (.node (ob126 P) .nil .nil)))))))
noncomputable def tr_m (P : Params) : BT := (.node (boot_o_0 P) (.node (boot_o_1 P) (.node (ob3_3 P) (.node (boot_o_7 P) (.node (ob15 P) (.node (ob31 P) (.node (ob63 P) (.node (ob127 P) .nil .nil) .nil) (.node (ob95 P) (.node (ob159 P) .nil .nil) .nil)) (.node (ob47 P) (.node (ob79 P) (.node (ob143 P) .nil .nil) .nil) (.node (ob111 P) (.node (ob175 P) .nil .nil) .nil))) (.node (ob23 P) (.node (ob39 P) (.node (ob71 P) (.node (ob135 P) .nil .nil) .nil) (.node (ob103 P) (.node (ob167 P) .nil .nil) .nil)) (.node (ob55 P) (.node (ob87 P) (.node (ob151 P) .nil .nil) .nil) (.node (ob119 P) .nil .nil)))) (.node (ob11 P) (.node (ob19 P) (.node (ob35 P) (.node (ob67 P) (.node (ob131 P) .nil .nil) .nil) (.node (ob99 P) (.node (ob163 P) .nil .nil) .nil)) (.node (ob51 P) (.node (ob83 P) (.node (ob147 P) .nil .nil) .nil) (.node (ob115 P) .nil .nil))) (.node (ob27 P) (.node (ob43 P) (.node (ob75 P) (.node (ob139 P) .nil .nil) .nil) (.node (ob107 P) (.node (ob171 P) .nil .nil) .nil)) (.node (ob59 P) (.node (ob91 P) (.node (ob155 P) .nil .nil) .nil) (.node (ob123 P) .nil .nil))))) (.node (boot_o_5 P) (.node (boot_o_9 P) (.node (ob17 P) (.node (ob33 P) (.node (ob65 P) (.node (ob129 P) .nil .nil) .nil) (.node (ob97 P) (.node (ob161 P) .nil .nil) .nil)) (.node (ob49 P) (.node (ob81 P) (.node (ob145 P) .nil .nil) .nil) (.node (ob113 P) .nil .nil))) (.node (ob25 P) (.node (ob41 P) (.node (ob73 P) (.node (ob137 P) .nil .nil) .nil) (.node (ob105 P) (.node (ob169 P) .nil .nil) .nil)) (.node (ob57 P) (.node (ob89 P) (.node (ob153 P) .nil .nil) .nil) (.node (ob121 P) .nil .nil)))) (.node (ob13 P) (.node (ob21 P) (.node (ob37 P) (.node (ob69 P) (.node (ob133 P) .nil .nil) .nil) (.node (ob101 P) (.node (ob165 P) .nil .nil) .nil)) (.node (ob53 P) (.node (ob85 P) (.node (ob149 P) .nil .nil) .nil) (.node (ob117 P) .nil .nil))) (.node (ob29 P) (.node (ob45 P) (.node (ob77 P) (.node (ob141 P) .nil .nil) .nil) (.node (ob109 P) (.node (ob173 P) .nil .nil) .nil)) (.node (ob61 P) (.node (ob93 P) (.node (ob157 P) .nil .nil) .nil) (.node (ob125 P) .nil .nil)))))) (.node (boot_o_2 P) (.node (boot_o_4 P) (.node (boot_o_8 P) (.node (ob16 P) (.node (ob32 P) (.node (ob64 P) (.node (ob128 P) .nil .nil) .nil) (.node (ob96 P) (.node (ob160 P) .nil .nil) .nil)) (.node (ob48 P) (.node (ob80 P) (.node (ob144 P) .nil .nil) .nil) (.node (ob112 P) (.node (ob176 P) .nil .nil) .nil))) (.node (ob24 P) (.node (ob40 P) (.node (ob72 P) (.node (ob136 P) .nil .nil) .nil) (.node (ob104 P) (.node (ob168 P) .nil .nil) .nil)) (.node (ob56 P) (.node (ob88 P) (.node (ob152 P) .nil .nil) .nil) (.node (ob120 P) .nil .nil)))) (.node (ob12_3 P) (.node (ob20 P) (.node (ob36 P) (.node (ob68 P) (.node (ob132 P) .nil .nil) .nil) (.node (ob100 P) (.node (ob164 P) .nil .nil) .nil)) (.node (ob52 P) (.node (ob84 P) (.node (ob148 P) .nil .nil) .nil) (.node (ob116 P) .nil .nil))) (.node (ob28 P) (.node (ob44 P) (.node (ob76 P) (.node (ob140 P) .nil .nil) .nil) (.node (ob108 P) (.node (ob172 P) .nil .nil) .nil)) (.node (ob60 P) (.node (ob92 P) (.node (ob156 P) .nil .nil) .nil) (.node (ob124 P) .nil .nil))))) (.node (boot_o_6 P) (.node (boot_o_10 P) (.node (ob18 P) (.node (ob34 P) (.node (ob66 P) (.node (ob130 P) .nil .nil) .nil) (.node (ob98 P) (.node (ob162 P) .nil .nil) .nil)) (.node (ob50 P) (.node (ob82 P) (.node (ob146 P) .nil .nil) .nil) (.node (ob114 P) .nil .nil))) (.node (ob26 P) (.node (ob42 P) (.node (ob74 P) (.node (ob138 P) .nil .nil) .nil) (.node (ob106 P) (.node (ob170 P) .nil .nil) .nil)) (.node (ob58 P) (.node (ob90 P) (.node (ob154 P) .nil .nil) .nil) (.node (ob122 P) .nil .nil)))) (.node (ob14 P) (.node (ob22 P) (.node (ob38 P) (.node (ob70 P) (.node (ob134 P) .nil .nil) .nil) (.node (ob102 P) (.node (ob166 P) .nil .nil) .nil)) (.node (ob54 P) (.node (ob86 P) (.node (ob150 P) .nil .nil) .nil) (.node (ob118 P) .nil .nil))) (.node (ob30 P) (.node (ob46 P) (.node (ob78 P) (.node (ob142 P) .nil .nil) .nil) (.node (ob110 P) (.node (ob174 P) .nil .nil) .nil)) (.node (ob62 P) (.node (ob94 P) (.node (ob158 P) .nil .nil) .nil) (.node (ob126 P) .nil .nil)))))))
noncomputable def ob3_5 (P : Params) : Obj := ⟨(.type "dict"), none, (.dict [⟨PyData.keyHash P (Str.ofString "__name__"), (.str (Str.ofString "__name__") 165), (.str (Str.ofString "cpy313.token") 2348)⟩, ⟨PyData.keyHash P (Str.ofString "__doc__"), (.str (Str.ofString "__doc__") 166), .none⟩, ⟨PyData.keyHash P (Str.ofString "__package__"), (.str (Str.ofString "__package__") 167), .none⟩, ⟨PyData.keyHash P (Str.ofString "__loader__"), (.str (Str.ofString "__loader__") 168), (.builtin "__main__.__loader__#opaque")⟩, ⟨PyData.keyHash P (Str.ofString "__spec__"), (.str (Str.ofString "__spec__") 169), .none⟩, ⟨PyData.keyHash P (Str.ofString "__annotations__"), (.str (Str.ofString "__annotations__") 170), (.ref 6)⟩, ⟨PyData.keyHash P (Str.ofString "__builtins__"), (.str (Str.ofString "__builtins__") 171), (.ref 4)⟩, ⟨PyData.keyHash P (Str.ofString "__file__"), (.str (Str.ofString "__file__") 173), (.str (Str.ofString "/claim/cut.py") 172)⟩, ⟨PyData.keyHash P (Str.ofString "__cached__"), (.str (Str.ofString "__cached__") 174), .none⟩, ⟨PyData.keyHash P (Str.ofString "lt"), (.str (Str.ofString "lt") 196), (.ref 21)⟩, ⟨PyData.keyHash P (Str.ofString "le"), (.str (Str.ofString "le") 204), (.ref 28)⟩, ⟨PyData.keyHash P (Str.ofString "eq"), (.str (Str.ofString "eq") 212), (.ref 35)⟩, ⟨PyData.keyHash P (Str.ofString "ne"), (.str (Str.ofString "ne") 220), (.ref 42)⟩, ⟨PyData.keyHash P (Str.ofString "ge"), (.str (Str.ofString "ge") 228), (.ref 49)⟩, ⟨PyData.keyHash P (Str.ofString "gt"), (.str (Str.ofString "gt") 236), (.ref 56)⟩, ⟨PyData.keyHash P (Str.ofString "add"), (.str (Str.ofString "add") 244), (.ref 63)⟩, ⟨PyData.keyHash P (Str.ofString "and_"), (.str (Str.ofString "and_") 252), (.ref 70)⟩, ⟨PyData.keyHash P (Str.ofString "or_"), (.str (Str.ofString "or_") 260), (.ref 77)⟩, ⟨PyData.keyHash P (Str.ofString "sub"), (.str (Str.ofString "sub") 268), (.ref 84)⟩, ⟨PyData.keyHash P (Str.ofString "xor"), (.str (Str.ofString "xor") 276), (.ref 91)⟩, ⟨PyData.keyHash P (Str.ofString "contains"), (.str (Str.ofString "contains") 284), (.ref 98)⟩, ⟨PyData.keyHash P (Str.ofString "countOf"), (.str (Str.ofString "countOf") 294), (.ref 105)⟩, ⟨PyData.keyHash P (Str.ofString "getitem"), (.str (Str.ofString "getitem") 302), (.ref 112)⟩, ⟨PyData.keyHash P (Str.ofString "indexOf"), (.str (Str.ofString "indexOf") 312), (.ref 119)⟩, ⟨PyData.keyHash P (Str.ofString "b1_set"), (.str (Str.ofString "b1_set") 374), (.ref 127)⟩, ⟨PyData.keyHash P (Str.ofString "in_table_b1"), (.str (Str.ofString "in_table_b1") 381), (.ref 137)⟩, ⟨PyData.keyHash P (Str.ofString "b3_exceptions"), (.str (Str.ofString "b3_exceptions") 2332), (.ref 138)⟩, ⟨PyData.keyHash P (Str.ofString "map_table_b3"), (.str (Str.ofString "map_table_b3") 2340), (.ref 183)⟩, ⟨PyData.keyHash P (Str.ofString "in_table_c11"), (.str (Str.ofString "in_table_c11") 2347), (.ref 190)⟩, ⟨PyData.keyHash P (Str.ofString "LPAR"), (.str (Str.ofString "LPAR") 2351), (.int 7 2350)⟩, ⟨PyData.keyHash P (Str.ofString "RPAR"), (.str (Str.ofString "RPAR") 2353), (.int 8 2352)⟩, ⟨PyData.keyHash P (Str.ofString "LSQB"), (.str (Str.ofString "LSQB") 2355), (.int 9 2354)⟩, ⟨PyData.keyHash P (Str.ofString "RSQB"), (.str (Str.ofString "RSQB") 2357), (.int 10 2356)⟩, ⟨PyData.keyHash P (Str.ofString "COLON"), (.str (Str.ofString "COLON") 2359), (.int 11 2358)⟩, ⟨PyData.keyHash P (Str.ofString "COMMA"), (.str (Str.ofString "COMMA") 2361), (.int 12 2360)⟩, ⟨PyData.keyHash P (Str.ofString "SEMI"), (.str (Str.ofString "SEMI") 2363), (.int 13 2362)⟩, ⟨PyData.keyHash P (Str.ofString "PLUS"), (.str (Str.ofString "PLUS") 2365), (.int 14 2364)⟩, ⟨PyData.keyHash P (Str.ofString "MINUS"), (.str (Str.ofString "MINUS") 2367), (.int 15 2366)⟩, ⟨PyData.keyHash P (Str.ofString "STAR"), (.str (Str.ofString "STAR") 2369), (.int 16 2368)⟩, ⟨PyData.keyHash P (Str.ofString "SLASH"), (.str (Str.ofString "SLASH") 2371), (.int 17 2370)⟩, ⟨PyData.keyHash P (Str.ofString "VBAR"), (.str (Str.ofString "VBAR") 2373), (.int 18 2372)⟩, ⟨PyData.keyHash P (Str.ofString "AMPER"), (.str (Str.ofString "AMPER") 2375), (.int 19 2374)⟩, ⟨PyData.keyHash P (Str.ofString "LESS"), (.str (Str.ofString "LESS") 2377), (.int 20 2376)⟩, ⟨PyData.keyHash P (Str.ofString "GREATER"), (.str (Str.ofString "GREATER") 2379), (.int 21 2378)⟩, ⟨PyData.keyHash P (Str.ofString "EQUAL"), (.str (Str.ofString "EQUAL") 2381), (.int 22 2380)⟩, ⟨PyData.keyHash P (Str.ofString "DOT"), (.str (Str.ofString "DOT") 2383), (.int 23 2382)⟩, ⟨PyData.keyHash P (Str.ofString "PERCENT"), (.str (Str.ofString "PERCENT") 2385), (.int 24 2384)⟩, ⟨PyData.keyHash P (Str.ofString "LBRACE"), (.str (Str.ofString "LBRACE") 2387), (.int 25 2386)⟩, ⟨PyData.keyHash P (Str.ofString "RBRACE"), (.str (Str.ofString "RBRACE") 2389), (.int 26 2388)⟩, ⟨PyData.keyHash P (Str.ofString "EQEQUAL"), (.str (Str.ofString "EQEQUAL") 2391), (.int 27 2390)⟩, ⟨PyData.keyHash P (Str.ofString "NOTEQUAL"), (.str (Str.ofString "NOTEQUAL") 2393), (.int 28 2392)⟩, ⟨PyData.keyHash P (Str.ofString "LESSEQUAL"), (.str (Str.ofString "LESSEQUAL") 2395), (.int 29 2394)⟩, ⟨PyData.keyHash P (Str.ofString "GREATEREQUAL"), (.str (Str.ofString "GREATEREQUAL") 2397), (.int 30 2396)⟩, ⟨PyData.keyHash P (Str.ofString "TILDE"), (.str (Str.ofString "TILDE") 2399), (.int 31 2398)⟩, ⟨PyData.keyHash P (Str.ofString "CIRCUMFLEX"), (.str (Str.ofString "CIRCUMFLEX") 2401), (.int 32 2400)⟩, ⟨PyData.keyHash P (Str.ofString "LEFTSHIFT"), (.str (Str.ofString "LEFTSHIFT") 2403), (.int 33 2402)⟩].toArray 56), [].toArray⟩
noncomputable def ob12_5 (P : Params) : Obj := ⟨.none, none, (.fields [(.int 2 0), (.int 0 0), (.ref 20), (.int 4 0), (.int 0 0), (.ref 27), (.int 6 0), (.int 0 0), (.ref 34), (.int 8 0), (.int 0 0), (.ref 41), (.int 10 0), (.int 0 0), (.ref 48), (.int 12 0), (.int 0 0), (.ref 55), (.int 14 0), (.int 0 0), (.ref 62), (.int 16 0), (.int 0 0), (.ref 69), (.int 18 0), (.int 0 0), (.ref 76), (.int 20 0), (.int 0 0), (.ref 83), (.int 22 0), (.int 0 0), (.ref 90), (.int 24 0), (.int 0 0), (.ref 97), (.int 26 0), (.int 0 0), (.ref 104), (.int 32 0), (.int 0 0), (.ref 111), (.int 34 0), (.int 0 0), (.ref 118), (.int 42 0), (.int 0 0), (.ref 136), (.int 45 0), (.int 0 0), (.ref 182), (.int 50 0), (.int 0 0), (.ref 189)].toArray), [].toArray⟩
noncomputable def ob177 (P : Params) : Obj := ⟨(.type "tuple"), none, (.seq [].toArray 0), [].toArray⟩
noncomputable def ob178 (P : Params) : Obj := ⟨.none, none, (.fields [].toArray), [].toArray⟩
noncomputable def ob179 (P : Params) : Obj := ⟨(.type "tuple"), none, (.seq [(.str (Str.ofString "code") 2336), (.str (Str.ofString "r") 2337)].toArray 0), [].toArray⟩
noncomputable def ob180 (P : Params) : Obj := ⟨(.type "tuple"), none, (.seq [].toArray 0), [].toArray⟩
noncomputable def ob181 (P : Params) : Obj := ⟨.none, none, (.func { name := (Str.ofString "map_table_b3"), qualname := (Str.ofString "map_table_b3"), params := (fnOfStm 20).1, body := .stmts (fnOfStm 20).2.1, scope := (fnOfStm 20).2.2, globals := 0, closure := [], defaults := .none, kwdefaults := .none, doc := .none, pyModule := .none, annotations := none, code := .none, closureTuple := .none, builtins := 0 }), [].toArray⟩
noncomputable def ob182 (P : Params) : Obj := ⟨(.type "code"), none, (.fields [(.str (Str.ofString "map_table_b3") 2333), (.str (Str.ofString "map_table_b3") 2334), (.str (Str.ofString "/claim/cut.py") 2335), (.int 45 0), (.int 1 0), (.int 0 0), (.int 0 0), (.int 3 0), (.ref 177), (.bool true), (.int 181 0), (.ref 178), .none, (.ref 179), (.ref 180), (.ref 181), (.int 2338 0), (.int 45 0), (.str (Str.ofString "/claim/cut.py") 2339)].toArray), [].toArray⟩
noncomputable def ob183 (P : Params) : Obj := ⟨(.type "function"), none, (.func { name := (Str.ofString "map_table_b3"), qualname := (Str.ofString "map_table_b3"), params := (fnOfStm 20).1, body := .stmts (fnOfStm 20).2.1, scope := (fnOfStm 20).2.2, globals := 3, closure := [], defaults := .none, kwdefaults := .none, doc := .none, pyModule := (.str (Str.ofString "cpy313.stringprep") 313), annotations := none, code := (.ref 182), closureTuple := .none, builtins := 0 }), [].toArray⟩
noncomputable def ob184 (P : Params) : Obj := ⟨(.type "tuple"), none, (.seq [].toArray 0), [].toArray⟩
noncomputable def ob185 (P : Params) : Obj := ⟨.none, none, (.fields [].toArray), [].toArray⟩
noncomputable def ob186 (P : Params) : Obj := ⟨(.type "tuple"), none, (.seq [(.str (Str.ofString "code") 2344)].toArray 0), [].toArray⟩
noncomputable def ob187 (P : Params) : Obj := ⟨(.type "tuple"), none, (.seq [].toArray 0), [].toArray⟩
noncomputable def ob188 (P : Params) : Obj := ⟨.none, none, (.func { name := (Str.ofString "in_table_c11"), qualname := (Str.ofString "in_table_c11"), params := (fnOfStm 21).1, body := .stmts (fnOfStm 21).2.1, scope := (fnOfStm 21).2.2, globals := 0, closure := [], defaults := .none, kwdefaults := .none, doc := .none, pyModule := .none, annotations := none, code := .none, closureTuple := .none, builtins := 0 }), [].toArray⟩
noncomputable def ob189 (P : Params) : Obj := ⟨(.type "code"), none, (.fields [(.str (Str.ofString "in_table_c11") 2341), (.str (Str.ofString "in_table_c11") 2342), (.str (Str.ofString "/claim/cut.py") 2343), (.int 50 0), (.int 1 0), (.int 0 0), (.int 0 0), (.int 3 0), (.ref 184), (.bool true), (.int 181 0), (.ref 185), .none, (.ref 186), (.ref 187), (.ref 188), (.int 2345 0), (.int 50 0), (.str (Str.ofString "/claim/cut.py") 2346)].toArray), [].toArray⟩
noncomputable def ob190 (P : Params) : Obj := ⟨(.type "function"), none, (.func { name := (Str.ofString "in_table_c11"), qualname := (Str.ofString "in_table_c11"), params := (fnOfStm 21).1, body := .stmts (fnOfStm 21).2.1, scope := (fnOfStm 21).2.2, globals := 3, closure := [], defaults := .none, kwdefaults := .none, doc := .none, pyModule := (.str (Str.ofString "cpy313.stringprep") 313), annotations := none, code := (.ref 189), closureTuple := .none, builtins := 0 }), [].toArray⟩
noncomputable def tr_5 (P : Params) : BT := (.node (boot_o_0 P) (.node (boot_o_1 P) (.node (ob3_5 P) (.node (boot_o_7 P) (.node (ob15 P) (.node (ob31 P) (.node (ob63 P) (.node (ob127 P) .nil .nil) .nil) (.node (ob95 P) (.node (ob159 P) .nil .nil) .nil)) (.node (ob47 P) (.node (ob79 P) (.node (ob143 P) .nil .nil) .nil) (.node (ob111 P) (.node (ob175 P) .nil .nil) .nil))) (.node (ob23 P) (.node (ob39 P) (.node (ob71 P) (.node (ob135 P) .nil .nil) .nil) (.node (ob103 P) (.node (ob167 P) .nil .nil) .nil)) (.node (ob55 P) (.node (ob87 P) (.node (ob151 P) .nil .nil) .nil) (.node (ob119 P) (.node (ob183 P) .nil .nil) .nil)))) (.node (ob11 P) (.node (ob19 P) (.node (ob35 P) (.node (ob67 P) (.node (ob131 P) .nil .nil) .nil) (.node (ob99 P) (.node (ob163 P) .nil .nil) .nil)) (.node (ob51 P) (.node (ob83 P) (.node (ob147 P) .nil .nil) .nil) (.node (ob115 P) (.node (ob179 P) .nil .nil) .nil))) (.node (ob27 P) (.node (ob43 P) (.node (ob75 P) (.node (ob139 P) .nil .nil) .nil) (.node (ob107 P) (.node (ob171 P) .nil .nil) .nil)) (.node (ob59 P) (.node (ob91 P) (.node (ob155 P) .nil .nil) .nil) (.node (ob123 P) (.node (ob187 P) .nil .nil) .nil))))) (.node (boot_o_5 P) (.node (boot_o_9 P) (.node (ob17 P) (.node (ob33 P) (.node (ob65 P) (.node (ob129 P) .nil .nil) .nil) (.node (ob97 P) (.node (ob161 P) .nil .nil) .nil)) (.node (ob49 P) (.node (ob81 P) (.node (ob145 P) .nil .nil) .nil) (.node (ob113 P) (.node (ob177 P) .nil .nil) .nil))) (.node (ob25 P) (.node (ob41 P) (.node (ob73 P) (.node (ob137 P) .nil .nil) .nil) (.node (ob105 P) (.node (ob169 P) .nil .nil) .nil)) (.node (ob57 P) (.node (ob89 P) (.node (ob153 P) .nil .nil) .nil) (.node (ob121 P) (.node (ob185 P) .nil .nil) .nil)))) (.node (ob13 P) (.node (ob21 P) (.node (ob37 P) (.node (ob69 P) (.node (ob133 P) .nil .nil) .nil) (.node (ob101 P) (.node (ob165 P) .nil .nil) .nil)) (.node (ob53 P) (.node (ob85 P) (.node (ob149 P) .nil .nil) .nil) (.node (ob117 P) (.node (ob181 P) .nil .nil) .nil))) (.node (ob29 P) (.node (ob45 P) (.node (ob77 P) (.node (ob141 P) .nil .nil) .nil) (.node (ob109 P) (.node (ob173 P) .nil .nil) .nil)) (.node (ob61 P) (.node (ob93 P) (.node (ob157 P) .nil .nil) .nil) (.node (ob125 P) (.node (ob189 P) .nil .nil) .nil)))))) (.node (boot_o_2 P) (.node (boot_o_4 P) (.node (boot_o_8 P) (.node (ob16 P) (.node (ob32 P) (.node (ob64 P) (.node (ob128 P) .nil .nil) .nil) (.node (ob96 P) (.node (ob160 P) .nil .nil) .nil)) (.node (ob48 P) (.node (ob80 P) (.node (ob144 P) .nil .nil) .nil) (.node (ob112 P) (.node (ob176 P) .nil .nil) .nil))) (.node (ob24 P) (.node (ob40 P) (.node (ob72 P) (.node (ob136 P) .nil .nil) .nil) (.node (ob104 P) (.node (ob168 P) .nil .nil) .nil)) (.node (ob56 P) (.node (ob88 P) (.node (ob152 P) .nil .nil) .nil) (.node (ob120 P) (.node (ob184 P) .nil .nil) .nil)))) (.node (ob12_5 P) (.node (ob20 P) (.node (ob36 P) (.node (ob68 P) (.node (ob132 P) .nil .nil) .nil) (.node (ob100 P) (.node (ob164 P) .nil .nil) .nil)) (.node (ob52 P) (.node (ob84 P) (.node (ob148 P) .nil .nil) .nil) (.node (ob116 P) (.node (ob180 P) .nil .nil) .nil))) (.node (ob28 P) (.node (ob44 P) (.node (ob76 P) (.node (ob140 P) .nil .nil) .nil) (.node (ob108 P) (.node (ob172 P) .nil .nil) .nil)) (.node (ob60 P) (.node (ob92 P) (.node (ob156 P) .nil .nil) .nil) (.node (ob124 P) (.node (ob188 P) .nil .nil) .nil))))) (.node (boot_o_6 P) (.node (boot_o_10 P) (.node (ob18 P) (.node (ob34 P) (.node (ob66 P) (.node (ob130 P) .nil .nil) .nil) (.node (ob98 P) (.node (ob162 P) .nil .nil) .nil)) (.node (ob50 P) (.node (ob82 P) (.node (ob146 P) .nil .nil) .nil) (.node (ob114 P) (.node (ob178 P) .nil .nil) .nil))) (.node (ob26 P) (.node (ob42 P) (.node (ob74 P) (.node (ob138 P) .nil .nil) .nil) (.node (ob106 P) (.node (ob170 P) .nil .nil) .nil)) (.node (ob58 P) (.node (ob90 P) (.node (ob154 P) .nil .nil) .nil) (.node (ob122 P) (.node (ob186 P) .nil .nil) .nil)))) (.node (ob14 P) (.node (ob22 P) (.node (ob38 P) (.node (ob70 P) (.node (ob134 P) .nil .nil) .nil) (.node (ob102 P) (.node (ob166 P) .nil .nil) .nil)) (.node (ob54 P) (.node (ob86 P) (.node (ob150 P) .nil .nil) .nil) (.node (ob118 P) (.node (ob182 P) .nil .nil) .nil))) (.node (ob30 P) (.node (ob46 P) (.node (ob78 P) (.node (ob142 P) .nil .nil) .nil) (.node (ob110 P) (.node (ob174 P) .nil .nil) .nil)) (.node (ob62 P) (.node (ob94 P) (.node (ob158 P) .nil .nil) .nil) (.node (ob126 P) (.node (ob190 P) .nil .nil) .nil)))))))
noncomputable def ob3_6 (P : Params) : Obj := ⟨(.type "dict"), none, (.dict [⟨PyData.keyHash P (Str.ofString "__name__"), (.str (Str.ofString "__name__") 165), (.str (Str.ofString "cpy313.token") 2348)⟩, ⟨PyData.keyHash P (Str.ofString "__doc__"), (.str (Str.ofString "__doc__") 166), .none⟩, ⟨PyData.keyHash P (Str.ofString "__package__"), (.str (Str.ofString "__package__") 167), .none⟩, ⟨PyData.keyHash P (Str.ofString "__loader__"), (.str (Str.ofString "__loader__") 168), (.builtin "__main__.__loader__#opaque")⟩, ⟨PyData.keyHash P (Str.ofString "__spec__"), (.str (Str.ofString "__spec__") 169), .none⟩, ⟨PyData.keyHash P (Str.ofString "__annotations__"), (.str (Str.ofString "__annotations__") 170), (.ref 6)⟩, ⟨PyData.keyHash P (Str.ofString "__builtins__"), (.str (Str.ofString "__builtins__") 171), (.ref 4)⟩, ⟨PyData.keyHash P (Str.ofString "__file__"), (.str (Str.ofString "__file__") 173), (.str (Str.ofString "/claim/cut.py") 172)⟩, ⟨PyData.keyHash P (Str.ofString "__cached__"), (.str (Str.ofString "__cached__") 174), .none⟩, ⟨PyData.keyHash P (Str.ofString "lt"), (.str (Str.ofString "lt") 196), (.ref 21)⟩, ⟨PyData.keyHash P (Str.ofString "le"), (.str (Str.ofString "le") 204), (.ref 28)⟩, ⟨PyData.keyHash P (Str.ofString "eq"), (.str (Str.ofString "eq") 212), (.ref 35)⟩, ⟨PyData.keyHash P (Str.ofString "ne"), (.str (Str.ofString "ne") 220), (.ref 42)⟩, ⟨PyData.keyHash P (Str.ofString "ge"), (.str (Str.ofString "ge") 228), (.ref 49)⟩, ⟨PyData.keyHash P (Str.ofString "gt"), (.str (Str.ofString "gt") 236), (.ref 56)⟩, ⟨PyData.keyHash P (Str.ofString "add"), (.str (Str.ofString "add") 244), (.ref 63)⟩, ⟨PyData.keyHash P (Str.ofString "and_"), (.str (Str.ofString "and_") 252), (.ref 70)⟩, ⟨PyData.keyHash P (Str.ofString "or_"), (.str (Str.ofString "or_") 260), (.ref 77)⟩, ⟨PyData.keyHash P (Str.ofString "sub"), (.str (Str.ofString "sub") 268), (.ref 84)⟩, ⟨PyData.keyHash P (Str.ofString "xor"), (.str (Str.ofString "xor") 276), (.ref 91)⟩, ⟨PyData.keyHash P (Str.ofString "contains"), (.str (Str.ofString "contains") 284), (.ref 98)⟩, ⟨PyData.keyHash P (Str.ofString "countOf"), (.str (Str.ofString "countOf") 294), (.ref 105)⟩, ⟨PyData.keyHash P (Str.ofString "getitem"), (.str (Str.ofString "getitem") 302), (.ref 112)⟩, ⟨PyData.keyHash P (Str.ofString "indexOf"), (.str (Str.ofString "indexOf") 312), (.ref 119)⟩, ⟨PyData.keyHash P (Str.ofString "b1_set"), (.str (Str.ofString "b1_set") 374), (.ref 127)⟩, ⟨PyData.keyHash P (Str.ofString "in_table_b1"), (.str (Str.ofString "in_table_b1") 381), (.ref 137)⟩, ⟨PyData.keyHash P (Str.ofString "b3_exceptions"), (.str (Str.ofString "b3_exceptions") 2332), (.ref 138)⟩, ⟨PyData.keyHash P (Str.ofString "map_table_b3"), (.str (Str.ofString "map_table_b3") 2340), (.ref 183)⟩, ⟨PyData.keyHash P (Str.ofString "in_table_c11"), (.str (Str.ofString "in_table_c11") 2347), (.ref 190)⟩, ⟨PyData.keyHash P (Str.ofString "LPAR"), (.str (Str.ofString "LPAR") 2351), (.int 7 2350)⟩, ⟨PyData.keyHash P (Str.ofString "RPAR"), (.str (Str.ofString "RPAR") 2353), (.int 8 2352)⟩, ⟨PyData.keyHash P (Str.ofString "LSQB"), (.str (Str.ofString "LSQB") 2355), (.int 9 2354)⟩, ⟨PyData.keyHash P (Str.ofString "RSQB"), (.str (Str.ofString "RSQB") 2357), (.int 10 2356)⟩, ⟨PyData.keyHash P (Str.ofString "COLON"), (.str (Str.ofString "COLON") 2359), (.int 11 2358)⟩, ⟨PyData.keyHash P (Str.ofString "COMMA"), (.str (Str.ofString "COMMA") 2361), (.int 12 2360)⟩, ⟨PyData.keyHash P (Str.ofString "SEMI"), (.str (Str.ofString "SEMI") 2363), (.int 13 2362)⟩, ⟨PyData.keyHash P (Str.ofString "PLUS"), (.str (Str.ofString "PLUS") 2365), (.int 14 2364)⟩, ⟨PyData.keyHash P (Str.ofString "MINUS"), (.str (Str.ofString "MINUS") 2367), (.int 15 2366)⟩, ⟨PyData.keyHash P (Str.ofString "STAR"), (.str (Str.ofString "STAR") 2369), (.int 16 2368)⟩, ⟨PyData.keyHash P (Str.ofString "SLASH"), (.str (Str.ofString "SLASH") 2371), (.int 17 2370)⟩, ⟨PyData.keyHash P (Str.ofString "VBAR"), (.str (Str.ofString "VBAR") 2373), (.int 18 2372)⟩, ⟨PyData.keyHash P (Str.ofString "AMPER"), (.str (Str.ofString "AMPER") 2375), (.int 19 2374)⟩, ⟨PyData.keyHash P (Str.ofString "LESS"), (.str (Str.ofString "LESS") 2377), (.int 20 2376)⟩, ⟨PyData.keyHash P (Str.ofString "GREATER"), (.str (Str.ofString "GREATER") 2379), (.int 21 2378)⟩, ⟨PyData.keyHash P (Str.ofString "EQUAL"), (.str (Str.ofString "EQUAL") 2381), (.int 22 2380)⟩, ⟨PyData.keyHash P (Str.ofString "DOT"), (.str (Str.ofString "DOT") 2383), (.int 23 2382)⟩, ⟨PyData.keyHash P (Str.ofString "PERCENT"), (.str (Str.ofString "PERCENT") 2385), (.int 24 2384)⟩, ⟨PyData.keyHash P (Str.ofString "LBRACE"), (.str (Str.ofString "LBRACE") 2387), (.int 25 2386)⟩, ⟨PyData.keyHash P (Str.ofString "RBRACE"), (.str (Str.ofString "RBRACE") 2389), (.int 26 2388)⟩, ⟨PyData.keyHash P (Str.ofString "EQEQUAL"), (.str (Str.ofString "EQEQUAL") 2391), (.int 27 2390)⟩, ⟨PyData.keyHash P (Str.ofString "NOTEQUAL"), (.str (Str.ofString "NOTEQUAL") 2393), (.int 28 2392)⟩, ⟨PyData.keyHash P (Str.ofString "LESSEQUAL"), (.str (Str.ofString "LESSEQUAL") 2395), (.int 29 2394)⟩, ⟨PyData.keyHash P (Str.ofString "GREATEREQUAL"), (.str (Str.ofString "GREATEREQUAL") 2397), (.int 30 2396)⟩, ⟨PyData.keyHash P (Str.ofString "TILDE"), (.str (Str.ofString "TILDE") 2399), (.int 31 2398)⟩, ⟨PyData.keyHash P (Str.ofString "CIRCUMFLEX"), (.str (Str.ofString "CIRCUMFLEX") 2401), (.int 32 2400)⟩, ⟨PyData.keyHash P (Str.ofString "LEFTSHIFT"), (.str (Str.ofString "LEFTSHIFT") 2403), (.int 33 2402)⟩, ⟨PyData.keyHash P (Str.ofString "RIGHTSHIFT"), (.str (Str.ofString "RIGHTSHIFT") 2405), (.int 34 2404)⟩, ⟨PyData.keyHash P (Str.ofString "DOUBLESTAR"), (.str (Str.ofString "DOUBLESTAR") 2407), (.int 35 2406)⟩, ⟨PyData.keyHash P (Str.ofString "PLUSEQUAL"), (.str (Str.ofString "PLUSEQUAL") 2409), (.int 36 2408)⟩, ⟨PyData.keyHash P (Str.ofString "MINEQUAL"), (.str (Str.ofString "MINEQUAL") 2411), (.int 37 2410)⟩, ⟨PyData.keyHash P (Str.ofString "STAREQUAL"), (.str (Str.ofString "STAREQUAL") 2413), (.int 38 2412)⟩, ⟨PyData.keyHash P (Str.ofString "SLASHEQUAL"), (.str (Str.ofString "SLASHEQUAL") 2415), (.int 39 2414)⟩, ⟨PyData.keyHash P (Str.ofString "PERCENTEQUAL"), (.str (Str.ofString "PERCENTEQUAL") 2417), (.int 40 2416)⟩, ⟨PyData.keyHash P (Str.ofString "AMPEREQUAL"), (.str (Str.ofString "AMPEREQUAL") 2419), (.int 41 2418)⟩, ⟨PyData.keyHash P (Str.ofString "VBAREQUAL"), (.str (Str.ofString "VBAREQUAL") 2421), (.int 42 2420)⟩, ⟨PyData.keyHash P (Str.ofString "CIRCUMFLEXEQUAL"), (.str (Str.ofString "CIRCUMFLEXEQUAL") 2423), (.int 43 2422)⟩, ⟨PyData.keyHash P (Str.ofString "LEFTSHIFTEQUAL"), (.str (Str.ofString "LEFTSHIFTEQUAL") 2425), (.int 44 2424)⟩, ⟨PyData.keyHash P (Str.ofString "RIGHTSHIFTEQUAL"), (.str (Str.ofString "RIGHTSHIFTEQUAL") 2427), (.int 45 2426)⟩, ⟨PyData.keyHash P (Str.ofString "DOUBLESTAREQUAL"), (.str (Str.ofString "DOUBLESTAREQUAL") 2429), (.int 46 2428)⟩, ⟨PyData.keyHash P (Str.ofString "DOUBLESLASH"), (.str (Str.ofString "DOUBLESLASH") 2431), (.int 47 2430)⟩, ⟨PyData.keyHash P (Str.ofString "DOUBLESLASHEQUAL"), (.str (Str.ofString "DOUBLESLASHEQUAL") 2433), (.int 48 2432)⟩, ⟨PyData.keyHash P (Str.ofString "AT"), (.str (Str.ofString "AT") 2435), (.int 49 2434)⟩, ⟨PyData.keyHash P (Str.ofString "ATEQUAL"), (.str (Str.ofString "ATEQUAL") 2437), (.int 50 2436)⟩, ⟨PyData.keyHash P (Str.ofString "RARROW"), (.str (Str.ofString "RARROW") 2439), (.int 51 2438)⟩, ⟨PyData.keyHash P (Str.ofString "ELLIPSIS"), (.str (Str.ofString "ELLIPSIS") 2441), (.int 52 2440)⟩, ⟨PyData.keyHash P (Str.ofString "COLONEQUAL"), (.str (Str.ofString "COLONEQUAL") 2443), (.int 53 2442)⟩, ⟨PyData.keyHash P (Str.ofString "EXCLAMATION"), (.str (Str.ofString "EXCLAMATION") 2445), (.int 54 2444)⟩, ⟨PyData.keyHash P (Str.ofString "NT_OFFSET"), (.str (Str.ofString "NT_OFFSET") 2447), (.int 256 2446)⟩].toArray 78), [].toArray⟩
noncomputable def tr_6 (P : Params) : BT := (.node (boot_o_0 P) (.node (boot_o_1 P) (.node (ob3_6 P) (.node (boot_o_7 P) (.node (ob15 P) (.node (ob31 P) (.node (ob63 P) (.node (ob127 P) .nil .nil) .nil) (.node (ob95 P) (.node (ob159 P) .nil .nil) .nil)) (.node (ob47 P) (.node (ob79 P) (.node (ob143 P) .nil .nil) .nil) (.node (ob111 P) (.node (ob175 P) .nil .nil) .nil))) (.node (ob23 P) (.node (ob39 P) (.node (ob71 P) (.node (ob135 P) .nil .nil) .nil) (.node (ob103 P) (.node (ob167 P) .nil .nil) .nil)) (.node (ob55 P) (.node (ob87 P) (.node (ob151 P) .nil .nil) .nil) (.node (ob119 P) (.node (ob183 P) .nil .nil) .nil)))) (.node (ob11 P) (.node (ob19 P) (.node (ob35 P) (.node (ob67 P) (.node (ob131 P) .nil .nil) .nil) (.node (ob99 P) (.node (ob163 P) .nil .nil) .nil)) (.node (ob51 P) (.node (ob83 P) (.node (ob147 P) .nil .nil) .nil) (.node (ob115 P) (.node (ob179 P) .nil .nil) .nil))) (.node (ob27 P) (.node (ob43 P) (.node (ob75 P) (.node (ob139 P) .nil .nil) .nil) (.node (ob107 P) (.node (ob171 P) .nil .nil) .nil)) (.node (ob59 P) (.node (ob91 P) (.node (ob155 P) .nil .nil) .nil) (.node (ob123 P) (.node (ob187 P) .nil .nil) .nil))))) (.node (boot_o_5 P) (.node (boot_o_9 P) (.node (ob17 P) (.node (ob33 P) (.node (ob65 P) (.node (ob129 P) .nil .nil) .nil) (.node (ob97 P) (.node (ob161 P) .nil .nil) .nil)) (.node (ob49 P) (.node (ob81 P) (.node (ob145 P) .nil .nil) .nil) (.node (ob113 P) (.node (ob177 P) .nil .nil) .nil))) (.node (ob25 P) (.node (ob41 P) (.node (ob73 P) (.node (ob137 P) .nil .nil) .nil) (.node (ob105 P) (.node (ob169 P) .nil .nil) .nil)) (.node (ob57 P) (.node (ob89 P) (.node (ob153 P) .nil .nil) .nil) (.node (ob121 P) (.node (ob185 P) .nil .nil) .nil)))) (.node (ob13 P) (.node (ob21 P) (.node (ob37 P) (.node (ob69 P) (.node (ob133 P) .nil .nil) .nil) (.node (ob101 P) (.node (ob165 P) .nil .nil) .nil)) (.node (ob53 P) (.node (ob85 P) (.node (ob149 P) .nil .nil) .nil) (.node (ob117 P) (.node (ob181 P) .nil .nil) .nil))) (.node (ob29 P) (.node (ob45 P) (.node (ob77 P) (.node (ob141 P) .nil .nil) .nil) (.node (ob109 P) (.node (ob173 P) .nil .nil) .nil)) (.node (ob61 P) (.node (ob93 P) (.node (ob157 P) .nil .nil) .nil) (.node (ob125 P) (.node (ob189 P) .nil .nil) .nil)))))) (.node (boot_o_2 P) (.node (boot_o_4 P) (.node (boot_o_8 P) (.node (ob16 P) (.node (ob32 P) (.node (ob64 P) (.node (ob128 P) .nil .nil) .nil) (.node (ob96 P) (.node (ob160 P) .nil .nil) .nil)) (.node (ob48 P) (.node (ob80 P) (.node (ob144 P) .nil .nil) .nil) (.node (ob112 P) (.node (ob176 P) .nil .nil) .nil))) (.node (ob24 P) (.node (ob40 P) (.node (ob72 P) (.node (ob136 P) .nil .nil) .nil) (.node (ob104 P) (.node (ob168 P) .nil .nil) .nil)) (.node (ob56 P) (.node (ob88 P) (.node (ob152 P) .nil .nil) .nil) (.node (ob120 P) (.node (ob184 P) .nil .nil) .nil)))) (.node (ob12_5 P) (.node (ob20 P) (.node (ob36 P) (.node (ob68 P) (.node (ob132 P) .nil .nil) .nil) (.node (ob100 P) (.node (ob164 P) .nil .nil) .nil)) (.node (ob52 P) (.node (ob84 P) (.node (ob148 P) .nil .nil) .nil) (.node (ob116 P) (.node (ob180 P) .nil .nil) .nil))) (.node (ob28 P) (.node (ob44 P) (.node (ob76 P) (.node (ob140 P) .nil .nil) .nil) (.node (ob108 P) (.node (ob172 P) .nil .nil) .nil)) (.node (ob60 P) (.node (ob92 P) (.node (ob156 P) .nil .nil) .nil) (.node (ob124 P) (.node (ob188 P) .nil .nil) .nil))))) (.node (boot_o_6 P) (.node (boot_o_10 P) (.node (ob18 P) (.node (ob34 P) (.node (ob66 P) (.node (ob130 P) .nil .nil) .nil) (.node (ob98 P) (.node (ob162 P) .nil .nil) .nil)) (.node (ob50 P) (.node (ob82 P) (.node (ob146 P) .nil .nil) .nil) (.node (ob114 P) (.node (ob178 P) .nil .nil) .nil))) (.node (ob26 P) (.node (ob42 P) (.node (ob74 P) (.node (ob138 P) .nil .nil) .nil) (.node (ob106 P) (.node (ob170 P) .nil .nil) .nil)) (.node (ob58 P) (.node (ob90 P) (.node (ob154 P) .nil .nil) .nil) (.node (ob122 P) (.node (ob186 P) .nil .nil) .nil)))) (.node (ob14 P) (.node (ob22 P) (.node (ob38 P) (.node (ob70 P) (.node (ob134 P) .nil .nil) .nil) (.node (ob102 P) (.node (ob166 P) .nil .nil) .nil)) (.node (ob54 P) (.node (ob86 P) (.node (ob150 P) .nil .nil) .nil) (.node (ob118 P) (.node (ob182 P) .nil .nil) .nil))) (.node (ob30 P) (.node (ob46 P) (.node (ob78 P) (.node (ob142 P) .nil .nil) .nil) (.node (ob110 P) (.node (ob174 P) .nil .nil) .nil)) (.node (ob62 P) (.node (ob94 P) (.node (ob158 P) .nil .nil) .nil) (.node (ob126 P) (.node (ob190 P) .nil .nil) .nil)))))))
noncomputable def ob3_7 (P : Params) : Obj := ⟨(.type "dict"), none, (.dict [⟨PyData.keyHash P (Str.ofString "__name__"), (.str (Str.ofString "__name__") 165), (.str (Str.ofString "cpy313.token") 2348)⟩, ⟨PyData.keyHash P (Str.ofString "__doc__"), (.str (Str.ofString "__doc__") 166), .none⟩, ⟨PyData.keyHash P (Str.ofString "__package__"), (.str (Str.ofString "__package__") 167), .none⟩, ⟨PyData.keyHash P (Str.ofString "__loader__"), (.str (Str.ofString "__loader__") 168), (.builtin "__main__.__loader__#opaque")⟩, ⟨PyData.keyHash P (Str.ofString "__spec__"), (.str (Str.ofString "__spec__") 169), .none⟩, ⟨PyData.keyHash P (Str.ofString "__annotations__"), (.str (Str.ofString "__annotations__") 170), (.ref 6)⟩, ⟨PyData.keyHash P (Str.ofString "__builtins__"), (.str (Str.ofString "__builtins__") 171), (.ref 4)⟩, ⟨PyData.keyHash P (Str.ofString "__file__"), (.str (Str.ofString "__file__") 173), (.str (Str.ofString "/claim/cut.py") 172)⟩, ⟨PyData.keyHash P (Str.ofString "__cached__"), (.str (Str.ofString "__cached__") 174), .none⟩, ⟨PyData.keyHash P (Str.ofString "lt"), (.str (Str.ofString "lt") 196), (.ref 21)⟩, ⟨PyData.keyHash P (Str.ofString "le"), (.str (Str.ofString "le") 204), (.ref 28)⟩, ⟨PyData.keyHash P (Str.ofString "eq"), (.str (Str.ofString "eq") 212), (.ref 35)⟩, ⟨PyData.keyHash P (Str.ofString "ne"), (.str (Str.ofString "ne") 220), (.ref 42)⟩, ⟨PyData.keyHash P (Str.ofString "ge"), (.str (Str.ofString "ge") 228), (.ref 49)⟩, ⟨PyData.keyHash P (Str.ofString "gt"), (.str (Str.ofString "gt") 236), (.ref 56)⟩, ⟨PyData.keyHash P (Str.ofString "add"), (.str (Str.ofString "add") 244), (.ref 63)⟩, ⟨PyData.keyHash P (Str.ofString "and_"), (.str (Str.ofString "and_") 252), (.ref 70)⟩, ⟨PyData.keyHash P (Str.ofString "or_"), (.str (Str.ofString "or_") 260), (.ref 77)⟩, ⟨PyData.keyHash P (Str.ofString "sub"), (.str (Str.ofString "sub") 268), (.ref 84)⟩, ⟨PyData.keyHash P (Str.ofString "xor"), (.str (Str.ofString "xor") 276), (.ref 91)⟩, ⟨PyData.keyHash P (Str.ofString "contains"), (.str (Str.ofString "contains") 284), (.ref 98)⟩, ⟨PyData.keyHash P (Str.ofString "countOf"), (.str (Str.ofString "countOf") 294), (.ref 105)⟩, ⟨PyData.keyHash P (Str.ofString "getitem"), (.str (Str.ofString "getitem") 302), (.ref 112)⟩, ⟨PyData.keyHash P (Str.ofString "indexOf"), (.str (Str.ofString "indexOf") 312), (.ref 119)⟩, ⟨PyData.keyHash P (Str.ofString "b1_set"), (.str (Str.ofString "b1_set") 374), (.ref 127)⟩, ⟨PyData.keyHash P (Str.ofString "in_table_b1"), (.str (Str.ofString "in_table_b1") 381), (.ref 137)⟩, ⟨PyData.keyHash P (Str.ofString "b3_exceptions"), (.str (Str.ofString "b3_exceptions") 2332), (.ref 138)⟩, ⟨PyData.keyHash P (Str.ofString "map_table_b3"), (.str (Str.ofString "map_table_b3") 2340), (.ref 183)⟩, ⟨PyData.keyHash P (Str.ofString "in_table_c11"), (.str (Str.ofString "in_table_c11") 2347), (.ref 190)⟩, ⟨PyData.keyHash P (Str.ofString "LPAR"), (.str (Str.ofString "LPAR") 2351), (.int 7 2350)⟩, ⟨PyData.keyHash P (Str.ofString "RPAR"), (.str (Str.ofString "RPAR") 2353), (.int 8 2352)⟩, ⟨PyData.keyHash P (Str.ofString "LSQB"), (.str (Str.ofString "LSQB") 2355), (.int 9 2354)⟩, ⟨PyData.keyHash P (Str.ofString "RSQB"), (.str (Str.ofString "RSQB") 2357), (.int 10 2356)⟩, ⟨PyData.keyHash P (Str.ofString "COLON"), (.str (Str.ofString "COLON") 2359), (.int 11 2358)⟩, ⟨PyData.keyHash P (Str.ofString "COMMA"), (.str (Str.ofString "COMMA") 2361), (.int 12 2360)⟩, ⟨PyData.keyHash P (Str.ofString "SEMI"), (.str (Str.ofString "SEMI") 2363), (.int 13 2362)⟩, ⟨PyData.keyHash P (Str.ofString "PLUS"), (.str (Str.ofString "PLUS") 2365), (.int 14 2364)⟩, ⟨PyData.keyHash P (Str.ofString "MINUS"), (.str (Str.ofString "MINUS") 2367), (.int 15 2366)⟩, ⟨PyData.keyHash P (Str.ofString "STAR"), (.str (Str.ofString "STAR") 2369), (.int 16 2368)⟩, ⟨PyData.keyHash P (Str.ofString "SLASH"), (.str (Str.ofString "SLASH") 2371), (.int 17 2370)⟩, ⟨PyData.keyHash P (Str.ofString "VBAR"), (.str (Str.ofString "VBAR") 2373), (.int 18 2372)⟩, ⟨PyData.keyHash P (Str.ofString "AMPER"), (.str (Str.ofString "AMPER") 2375), (.int 19 2374)⟩, ⟨PyData.keyHash P (Str.ofString "LESS"), (.str (Str.ofString "LESS") 2377), (.int 20 2376)⟩, ⟨PyData.keyHash P (Str.ofString "GREATER"), (.str (Str.ofString "GREATER") 2379), (.int 21 2378)⟩, ⟨PyData.keyHash P (Str.ofString "EQUAL"), (.str (Str.ofString "EQUAL") 2381), (.int 22 2380)⟩, ⟨PyData.keyHash P (Str.ofString "DOT"), (.str (Str.ofString "DOT") 2383), (.int 23 2382)⟩, ⟨PyData.keyHash P (Str.ofString "PERCENT"), (.str (Str.ofString "PERCENT") 2385), (.int 24 2384)⟩, ⟨PyData.keyHash P (Str.ofString "LBRACE"), (.str (Str.ofString "LBRACE") 2387), (.int 25 2386)⟩, ⟨PyData.keyHash P (Str.ofString "RBRACE"), (.str (Str.ofString "RBRACE") 2389), (.int 26 2388)⟩, ⟨PyData.keyHash P (Str.ofString "EQEQUAL"), (.str (Str.ofString "EQEQUAL") 2391), (.int 27 2390)⟩, ⟨PyData.keyHash P (Str.ofString "NOTEQUAL"), (.str (Str.ofString "NOTEQUAL") 2393), (.int 28 2392)⟩, ⟨PyData.keyHash P (Str.ofString "LESSEQUAL"), (.str (Str.ofString "LESSEQUAL") 2395), (.int 29 2394)⟩, ⟨PyData.keyHash P (Str.ofString "GREATEREQUAL"), (.str (Str.ofString "GREATEREQUAL") 2397), (.int 30 2396)⟩, ⟨PyData.keyHash P (Str.ofString "TILDE"), (.str (Str.ofString "TILDE") 2399), (.int 31 2398)⟩, ⟨PyData.keyHash P (Str.ofString "CIRCUMFLEX"), (.str (Str.ofString "CIRCUMFLEX") 2401), (.int 32 2400)⟩, ⟨PyData.keyHash P (Str.ofString "LEFTSHIFT"), (.str (Str.ofString "LEFTSHIFT") 2403), (.int 33 2402)⟩, ⟨PyData.keyHash P (Str.ofString "RIGHTSHIFT"), (.str (Str.ofString "RIGHTSHIFT") 2405), (.int 34 2404)⟩, ⟨PyData.keyHash P (Str.ofString "DOUBLESTAR"), (.str (Str.ofString "DOUBLESTAR") 2407), (.int 35 2406)⟩, ⟨PyData.keyHash P (Str.ofString "PLUSEQUAL"), (.str (Str.ofString "PLUSEQUAL") 2409), (.int 36 2408)⟩, ⟨PyData.keyHash P (Str.ofString "MINEQUAL"), (.str (Str.ofString "MINEQUAL") 2411), (.int 37 2410)⟩, ⟨PyData.keyHash P (Str.ofString "STAREQUAL"), (.str (Str.ofString "STAREQUAL") 2413), (.int 38 2412)⟩, ⟨PyData.keyHash P (Str.ofString "SLASHEQUAL"), (.str (Str.ofString "SLASHEQUAL") 2415), (.int 39 2414)⟩, ⟨PyData.keyHash P (Str.ofString "PERCENTEQUAL"), (.str (Str.ofString "PERCENTEQUAL") 2417), (.int 40 2416)⟩, ⟨PyData.keyHash P (Str.ofString "AMPEREQUAL"), (.str (Str.ofString "AMPEREQUAL") 2419), (.int 41 2418)⟩, ⟨PyData.keyHash P (Str.ofString "VBAREQUAL"), (.str (Str.ofString "VBAREQUAL") 2421), (.int 42 2420)⟩, ⟨PyData.keyHash P (Str.ofString "CIRCUMFLEXEQUAL"), (.str (Str.ofString "CIRCUMFLEXEQUAL") 2423), (.int 43 2422)⟩, ⟨PyData.keyHash P (Str.ofString "LEFTSHIFTEQUAL"), (.str (Str.ofString "LEFTSHIFTEQUAL") 2425), (.int 44 2424)⟩, ⟨PyData.keyHash P (Str.ofString "RIGHTSHIFTEQUAL"), (.str (Str.ofString "RIGHTSHIFTEQUAL") 2427), (.int 45 2426)⟩, ⟨PyData.keyHash P (Str.ofString "DOUBLESTAREQUAL"), (.str (Str.ofString "DOUBLESTAREQUAL") 2429), (.int 46 2428)⟩, ⟨PyData.keyHash P (Str.ofString "DOUBLESLASH"), (.str (Str.ofString "DOUBLESLASH") 2431), (.int 47 2430)⟩, ⟨PyData.keyHash P (Str.ofString "DOUBLESLASHEQUAL"), (.str (Str.ofString "DOUBLESLASHEQUAL") 2433), (.int 48 2432)⟩, ⟨PyData.keyHash P (Str.ofString "AT"), (.str (Str.ofString "AT") 2435), (.int 49 2434)⟩, ⟨PyData.keyHash P (Str.ofString "ATEQUAL"), (.str (Str.ofString "ATEQUAL") 2437), (.int 50 2436)⟩, ⟨PyData.keyHash P (Str.ofString "RARROW"), (.str (Str.ofString "RARROW") 2439), (.int 51 2438)⟩, ⟨PyData.keyHash P (Str.ofString "ELLIPSIS"), (.str (Str.ofString "ELLIPSIS") 2441), (.int 52 2440)⟩, ⟨PyData.keyHash P (Str.ofString "COLONEQUAL"), (.str (Str.ofString "COLONEQUAL") 2443), (.int 53 2442)⟩, ⟨PyData.keyHash P (Str.ofString "EXCLAMATION"), (.str (Str.ofString "EXCLAMATION") 2445), (.int 54 2444)⟩, ⟨PyData.keyHash P (Str.ofString "NT_OFFSET"), (.str (Str.ofString "NT_OFFSET") 2447), (.int 256 2446)⟩, ⟨PyData.keyHash P (Str.ofString "EXACT_TOKEN_TYPES"), (.str (Str.ofString "EXACT_TOKEN_TYPES") 2544), (.ref 191)⟩].toArray 79), [].toArray⟩
noncomputable def ob191 (P : Params) : Obj := ⟨(.type "dict"), none, (.dict [⟨PyData.keyHash P (Str.ofString "!"), (.str (Str.ofString "!") 2448), (.int 54 2444)⟩, ⟨PyData.keyHash P (Str.ofString "!="), (.str (Str.ofString "!=") 2450), (.int 28 2392)⟩, ⟨PyData.keyHash P (Str.ofString "%"), (.str (Str.ofString "%") 2452), (.int 24 2384)⟩, ⟨PyData.keyHash P (Str.ofString "%="), (.str (Str.ofString "%=") 2454), (.int 40 2416)⟩, ⟨PyData.keyHash P (Str.ofString "&"), (.str (Str.ofString "&") 2456), (.int 19 2374)⟩, ⟨PyData.keyHash P (Str.ofString "&="), (.str (Str.ofString "&=") 2458), (.int 41 2418)⟩, ⟨PyData.keyHash P (Str.ofString "("), (.str (Str.ofString "(") 2460), (.int 7 2350)⟩, ⟨PyData.keyHash P (Str.ofString ")"), (.str (Str.ofString ")") 2462), (.int 8 2352)⟩, ⟨PyData.keyHash P (Str.ofString "*"), (.str (Str.ofString "*") 2464), (.int 16 2368)⟩, ⟨PyData.keyHash P (Str.ofString "**"), (.str (Str.ofString "**") 2466), (.int 35 2406)⟩, ⟨PyData.keyHash P (Str.ofString "**="), (.str (Str.ofString "**=") 2468), (.int 46 2428)⟩, ⟨PyData.keyHash P (Str.ofString "*="), (.str (Str.ofString "*=") 2470), (.int 38 2412)⟩, ⟨PyData.keyHash P (Str.ofString "+"), (.str (Str.ofString "+") 2472), (.int 14 2364)⟩, ⟨PyData.keyHash P (Str.ofString "+="), (.str (Str.ofString "+=") 2474), (.int 36 2408)⟩, ⟨PyData.keyHash P (Str.ofString ","), (.str (Str.ofString ",") 2476), (.int 12 2360)⟩, ⟨PyData.keyHash P (Str.ofString "-"), (.str (Str.ofString "-") 2478), (.int 15 2366)⟩, ⟨PyData.keyHash P (Str.ofString "-="), (.str (Str.ofString "-=") 2480), (.int 37 2410)⟩, ⟨PyData.keyHash P (Str.ofString "->"), (.str (Str.ofString "->") 2482), (.int 51 2438)⟩, ⟨PyData.keyHash P (Str.ofString "."), (.str (Str.ofString ".") 2484), (.int 23 2382)⟩, ⟨PyData.keyHash P (Str.ofString "..."), (.str (Str.ofString "...") 2486), (.int 52 2440)⟩, ⟨PyData.keyHash P (Str.ofString "/"), (.str (Str.ofString "/") 2488), (.int 17 2370)⟩, ⟨PyData.keyHash P (Str.ofString "//"), (.str (Str.ofString "//") 2490), (.int 47 2430)⟩, ⟨PyData.keyHash P (Str.ofString "//="), (.str (Str.ofString "//=") 2492), (.int 48 2432)⟩, ⟨PyData.keyHash P (Str.ofString "/="), (.str (Str.ofString "/=") 2494), (.int 39 2414)⟩, ⟨PyData.keyHash P (Str.ofString ":"), (.str (Str.ofString ":") 2496), (.int 11 2358)⟩, ⟨PyData.keyHash P (Str.ofString ":="), (.str (Str.ofString ":=") 2498), (.int 53 2442)⟩, ⟨PyData.keyHash P (Str.ofString ";"), (.str (Str.ofString ";") 2500), (.int 13 2362)⟩, ⟨PyData.keyHash P (Str.ofString "<"), (.str (Str.ofString "<") 2502), (.int 20 2376)⟩, ⟨PyData.keyHash P (Str.ofString "<<"), (.str (Str.ofString "<<") 2504), (.int 33 2402)⟩, ⟨PyData.keyHash P (Str.ofString "<<="), (.str (Str.ofString "<<=") 2506), (.int 44 2424)⟩, ⟨PyData.keyHash P (Str.ofString "<="), (.str (Str.ofString "<=") 2508), (.int 29 2394)⟩, ⟨PyData.keyHash P (Str.ofString "="), (.str (Str.ofString "=") 2510), (.int 22 2380)⟩, ⟨PyData.keyHash P (Str.ofString "=="), (.str (Str.ofString "==") 2512), (.int 27 2390)⟩, ⟨PyData.keyHash P (Str.ofString ">"), (.str (Str.ofString ">") 2514), (.int 21 2378)⟩, ⟨PyData.keyHash P (Str.ofString ">="), (.str (Str.ofString ">=") 2516), (.int 30 2396)⟩, ⟨PyData.keyHash P (Str.ofString ">>"), (.str (Str.ofString ">>") 2517), (.int 34 2404)⟩, ⟨PyData.keyHash P (Str.ofString ">>="), (.str (Str.ofString ">>=") 2518), (.int 45 2426)⟩, ⟨PyData.keyHash P (Str.ofString "@"), (.str (Str.ofString "@") 2519), (.int 49 2434)⟩, ⟨PyData.keyHash P (Str.ofString "@="), (.str (Str.ofString "@=") 2520), (.int 50 2436)⟩, ⟨PyData.keyHash P (Str.ofString "["), (.str (Str.ofString "[") 2521), (.int 9 2354)⟩, ⟨PyData.keyHash P (Str.ofString "]"), (.str (Str.ofString "]") 2522), (.int 10 2356)⟩, ⟨PyData.keyHash P (Str.ofString "^"), (.str (Str.ofString "^") 2523), (.int 32 2400)⟩, ⟨PyData.keyHash P (Str.ofString "^="), (.str (Str.ofString "^=") 2524), (.int 43 2422)⟩, ⟨PyData.keyHash P (Str.ofString "{"), (.str (Str.ofString "{") 2525), (.int 25 2386)⟩, ⟨PyData.keyHash P (Str.ofString "|"), (.str (Str.ofString "|") 2526), (.int 18 2372)⟩, ⟨PyData.keyHash P (Str.ofString "|="), (.str (Str.ofString "|=") 2527), (.int 42 2420)⟩, ⟨PyData.keyHash P (Str.ofString "}"), (.str (Str.ofString "}") 2528), (.int 26 2388)⟩, ⟨PyData.keyHash P (Str.ofString "~"), (.str (Str.ofString "~") 2529), (.int 31 2398)⟩].toArray 48), [].toArray⟩
noncomputable def ob192 (P : Params) : Obj := ⟨(.type "dict"), none, (.dict [⟨PyData.keyHash P (Str.ofString "->"), (.str (Str.ofString "->") 2482), (.int 51 2438)⟩, ⟨PyData.keyHash P (Str.ofString "."), (.str (Str.ofString ".") 2484), (.int 23 2382)⟩, ⟨PyData.keyHash P (Str.ofString "..."), (.str (Str.ofString "...") 2486), (.int 52 2440)⟩, ⟨PyData.keyHash P (Str.ofString "/"), (.str (Str.ofString "/") 2488), (.int 17 2370)⟩, ⟨PyData.keyHash P (Str.ofString "//"), (.str (Str.ofString "//") 2490), (.int 47 2430)⟩, ⟨PyData.keyHash P (Str.ofString "//="), (.str (Str.ofString "//=") 2492), (.int 48 2432)⟩, ⟨PyData.keyHash P (Str.ofString "/="), (.str (Str.ofString "/=") 2494), (.int 39 2414)⟩, ⟨PyData.keyHash P (Str.ofString ":"), (.str (Str.ofString ":") 2496), (.int 11 2358)⟩, ⟨PyData.keyHash P (Str.ofString ":="), (.str (Str.ofString ":=") 2498), (.int 53 2442)⟩, ⟨PyData.keyHash P (Str.ofString ";"), (.str (Str.ofString ";") 2500), (.int 13 2362)⟩, ⟨PyData.keyHash P (Str.ofString "<"), (.str (Str.ofString "<") 2502), (.int 20 2376)⟩, ⟨PyData.keyHash P (Str.ofString "<<"), (.str (Str.ofString "<<") 2504), (.int 33 2402)⟩, ⟨PyData.keyHash P (Str.ofString "<<="), (.str (Str.ofString "<<=") 2506), (.int 44 2424)⟩, ⟨PyData.keyHash P (Str.ofString "<="), (.str (Str.ofString "<=") 2508), (.int 29 2394)⟩, ⟨PyData.keyHash P (Str.ofString "="), (.str (Str.ofString "=") 2510), (.int 22 2380)⟩, ⟨PyData.keyHash P (Str.ofString "=="), (.str (Str.ofString "==") 2512), (.int 27 2390)⟩, ⟨PyData.keyHash P (Str.ofString ">"), (.str (Str.ofString ">") 2514), (.int 21 2378)⟩].toArray 17), [].toArray⟩
noncomputable def ob193 (P : Params) : Obj := ⟨(.type "dict"), none, (.dict [⟨PyData.keyHash P (Str.ofString ">="), (.str (Str.ofString ">=") 2516), (.int 30 2396)⟩, ⟨PyData.keyHash P (Str.ofString ">>"), (.str (Str.ofString ">>") 2517), (.int 34 2404)⟩, ⟨PyData.keyHash P (Str.ofString ">>="), (.str (Str.ofString ">>=") 2518), (.int 45 2426)⟩, ⟨PyData.keyHash P (Str.ofString "@"), (.str (Str.ofString "@") 2519), (.int 49 2434)⟩, ⟨PyData.keyHash P (Str.ofString "@="), (.str (Str.ofString "@=") 2520), (.int 50 2436)⟩, ⟨PyData.keyHash P (Str.ofString "["), (.str (Str.ofString "[") 2521), (.int 9 2354)⟩, ⟨PyData.keyHash P (Str.ofString "]"), (.str (Str.ofString "]") 2522), (.int 10 2356)⟩, ⟨PyData.keyHash P (Str.ofString "^"), (.str (Str.ofString "^") 2523), (.int 32 2400)⟩, ⟨PyData.keyHash P (Str.ofString "^="), (.str (Str.ofString "^=") 2524), (.int 43 2422)⟩, ⟨PyData.keyHash P (Str.ofString "{"), (.str (Str.ofString "{") 2525), (.int 25 2386)⟩, ⟨PyData.keyHash P (Str.ofString "|"), (.str (Str.ofString "|") 2526), (.int 18 2372)⟩, ⟨PyData.keyHash P (Str.ofString "|="), (.str (Str.ofString "|=") 2527), (.int 42 2420)⟩, ⟨PyData.keyHash P (Str.ofString "}"), (.str (Str.ofString "}") 2528), (.int 26 2388)⟩, ⟨PyData.keyHash P (Str.ofString "~"), (.str (Str.ofString "~") 2529), (.int 31 2398)⟩].toArray 14), [].toArray⟩
noncomputable def tr_7 (P : Params) : BT := (.node (boot_o_0 P) (.node (boot_o_1 P) (.node (ob3_7 P) (.node (boot_o_7 P) (.node (ob15 P) (.node (ob31 P) (.node (ob63 P) (.node (ob127 P) .nil .nil) (.node (ob191 P) .nil .nil)) (.node (ob95 P) (.node (ob159 P) .nil .nil) .nil)) (.node (ob47 P) (.node (ob79 P) (.node (ob143 P) .nil .nil) .nil) (.node (ob111 P) (.node (ob175 P) .nil .nil) .nil))) (.node (ob23 P) (.node (ob39 P) (.node (ob71 P) (.node (ob135 P) .nil .nil) .nil) (.node (ob103 P) (.node (ob167 P) .nil .nil) .nil)) (.node (ob55 P) (.node (ob87 P) (.node (ob151 P) .nil .nil) .nil) (.node (ob119 P) (.node (ob183 P) .nil .nil) .nil)))) (.node (ob11 P) (.node (ob19 P) (.node (ob35 P) (.node (ob67 P) (.node (ob131 P) .nil .nil) .nil) (.node (ob99 P) (.node (ob163 P) .nil .nil) .nil)) (.node (ob51 P) (.node (ob83 P) (.node (ob147 P) .nil .nil) .nil) (.node (ob115 P) (.node (ob179 P) .nil .nil) .nil))) (.node (ob27 P) (.node (ob43 P) (.node (ob75 P) (.node (ob139 P) .nil .nil) .nil) (.node (ob107 P) (.node (ob171 P) .nil .nil) .nil)) (.node (ob59 P) (.node (ob91 P) (.node (ob155 P) .nil .nil) .nil) (.node (ob123 P) (.node (ob187 P) .nil .nil) .nil))))) (.node (boot_o_5 P) (.node (boot_o_9 P) (.node (ob17 P) (.node (ob33 P) (.node (ob65 P) (.node (ob129 P) .nil .nil) (.node (ob193 P) .nil .nil)) (.node (ob97 P) (.node (ob161 P) .nil .nil) .nil)) (.node (ob49 P) (.node (ob81 P) (.node (ob145 P) .nil .nil) .nil) (.node (ob113 P) (.node (ob177 P) .nil .nil) .nil))) (.node (ob25 P) (.node (ob41 P) (.node (ob73 P) (.node (ob137 P) .nil .nil) .nil) (.node (ob105 P) (.node (ob169 P) .nil .nil) .nil)) (.node (ob57 P) (.node (ob89 P) (.node (ob153 P) .nil .nil) .nil) (.node (ob121 P) (.node (ob185 P) .nil .nil) .nil)))) (.node (ob13 P) (.node (ob21 P) (.node (ob37 P) (.node (ob69 P) (.node (ob133 P) .nil .nil) .nil) (.node (ob101 P) (.node (ob165 P) .nil .nil) .nil)) (.node (ob53 P) (.node (ob85 P) (.node (ob149 P) .nil .nil) .nil) (.node (ob117 P) (.node (ob181 P) .nil .nil) .nil))) (.node (ob29 P) (.node (ob45 P) (.node (ob77 P) (.node (ob141 P) .nil .nil) .nil) (.node (ob109 P) (.node (ob173 P) .nil .nil) .nil)) (.node (ob61 P) (.node (ob93 P) (.node (ob157 P) .nil .nil) .nil) (.node (ob125 P) (.node (ob189 P) .nil .nil) .nil)))))) (.node (boot_o_2 P) (.node (boot_o_4 P) (.node (boot_o_8 P) (.node (ob16 P) (.node (ob32 P) (.node (ob64 P) (.node (ob128 P) .nil .nil) (.node (ob192 P) .nil .nil)) (.node (ob96 P) (.node (ob160 P) .nil .nil) .nil)) (.node (ob48 P) (.node (ob80 P) (.node (ob144 P) .nil .nil) .nil) (.node (ob112 P) (.node (ob176 P) .nil .nil) .nil))) (.node (ob24 P) (.node (ob40 P) (.node (ob72 P) (.node (ob136 P) .nil .nil) .nil) (.node (ob104 P) (.node (ob168 P) .nil .nil) .nil)) (.node (ob56 P) (.node (ob88 P) (.node (ob152 P) .nil .nil) .nil) (.node (ob120 P) (.node (ob184 P) .nil .nil) .nil)))) (.node (ob12_5 P) (.node (ob20 P) (.node (ob36 P) (.node (ob68 P) (.node (ob132 P) .nil .nil) .nil) (.node (ob100 P) (.node (ob164 P) .nil .nil) .nil)) (.node (ob52 P) (.node (ob84 P) (.node (ob148 P) .nil .nil) .nil) (.node (ob116 P) (.node (ob180 P) .nil .nil) .nil))) (.node (ob28 P) (.node (ob44 P) (.node (ob76 P) (.node (ob140 P) .nil .nil) .nil) (.node (ob108 P) (.node (ob172 P) .nil .nil) .nil)) (.node (ob60 P) (.node (ob92 P) (.node (ob156 P) .nil .nil) .nil) (.node (ob124 P) (.node (ob188 P) .nil .nil) .nil))))) (.node (boot_o_6 P) (.node (boot_o_10 P) (.node (ob18 P) (.node (ob34 P) (.node (ob66 P) (.node (ob130 P) .nil .nil) .nil) (.node (ob98 P) (.node (ob162 P) .nil .nil) .nil)) (.node (ob50 P) (.node (ob82 P) (.node (ob146 P) .nil .nil) .nil) (.node (ob114 P) (.node (ob178 P) .nil .nil) .nil))) (.node (ob26 P) (.node (ob42 P) (.node (ob74 P) (.node (ob138 P) .nil .nil) .nil) (.node (ob106 P) (.node (ob170 P) .nil .nil) .nil)) (.node (ob58 P) (.node (ob90 P) (.node (ob154 P) .nil .nil) .nil) (.node (ob122 P) (.node (ob186 P) .nil .nil) .nil)))) (.node (ob14 P) (.node (ob22 P) (.node (ob38 P) (.node (ob70 P) (.node (ob134 P) .nil .nil) .nil) (.node (ob102 P) (.node (ob166 P) .nil .nil) .nil)) (.node (ob54 P) (.node (ob86 P) (.node (ob150 P) .nil .nil) .nil) (.node (ob118 P) (.node (ob182 P) .nil .nil) .nil))) (.node (ob30 P) (.node (ob46 P) (.node (ob78 P) (.node (ob142 P) .nil .nil) .nil) (.node (ob110 P) (.node (ob174 P) .nil .nil) .nil)) (.node (ob62 P) (.node (ob94 P) (.node (ob158 P) .nil .nil) .nil) (.node (ob126 P) (.node (ob190 P) .nil .nil) .nil)))))))
noncomputable def ob3_8 (P : Params) : Obj := ⟨(.type "dict"), none, (.dict [⟨PyData.keyHash P (Str.ofString "__name__"), (.str (Str.ofString "__name__") 165), (.str (Str.ofString "law_wf0091_01") 2559)⟩, ⟨PyData.keyHash P (Str.ofString "__doc__"), (.str (Str.ofString "__doc__") 166), .none⟩, ⟨PyData.keyHash P (Str.ofString "__package__"), (.str (Str.ofString "__package__") 167), .none⟩, ⟨PyData.keyHash P (Str.ofString "__loader__"), (.str (Str.ofString "__loader__") 168), (.builtin "__main__.__loader__#opaque")⟩, ⟨PyData.keyHash P (Str.ofString "__spec__"), (.str (Str.ofString "__spec__") 169), .none⟩, ⟨PyData.keyHash P (Str.ofString "__annotations__"), (.str (Str.ofString "__annotations__") 170), (.ref 6)⟩, ⟨PyData.keyHash P (Str.ofString "__builtins__"), (.str (Str.ofString "__builtins__") 171), (.ref 4)⟩, ⟨PyData.keyHash P (Str.ofString "__file__"), (.str (Str.ofString "__file__") 173), (.str (Str.ofString "/claim/cut.py") 172)⟩, ⟨PyData.keyHash P (Str.ofString "__cached__"), (.str (Str.ofString "__cached__") 174), .none⟩, ⟨PyData.keyHash P (Str.ofString "lt"), (.str (Str.ofString "lt") 196), (.ref 21)⟩, ⟨PyData.keyHash P (Str.ofString "le"), (.str (Str.ofString "le") 204), (.ref 28)⟩, ⟨PyData.keyHash P (Str.ofString "eq"), (.str (Str.ofString "eq") 212), (.ref 35)⟩, ⟨PyData.keyHash P (Str.ofString "ne"), (.str (Str.ofString "ne") 220), (.ref 42)⟩, ⟨PyData.keyHash P (Str.ofString "ge"), (.str (Str.ofString "ge") 228), (.ref 49)⟩, ⟨PyData.keyHash P (Str.ofString "gt"), (.str (Str.ofString "gt") 236), (.ref 56)⟩, ⟨PyData.keyHash P (Str.ofString "add"), (.str (Str.ofString "add") 244), (.ref 63)⟩, ⟨PyData.keyHash P (Str.ofString "and_"), (.str (Str.ofString "and_") 252), (.ref 70)⟩, ⟨PyData.keyHash P (Str.ofString "or_"), (.str (Str.ofString "or_") 260), (.ref 77)⟩, ⟨PyData.keyHash P (Str.ofString "sub"), (.str (Str.ofString "sub") 268), (.ref 84)⟩, ⟨PyData.keyHash P (Str.ofString "xor"), (.str (Str.ofString "xor") 276), (.ref 91)⟩, ⟨PyData.keyHash P (Str.ofString "contains"), (.str (Str.ofString "contains") 284), (.ref 98)⟩, ⟨PyData.keyHash P (Str.ofString "countOf"), (.str (Str.ofString "countOf") 294), (.ref 105)⟩, ⟨PyData.keyHash P (Str.ofString "getitem"), (.str (Str.ofString "getitem") 302), (.ref 112)⟩, ⟨PyData.keyHash P (Str.ofString "indexOf"), (.str (Str.ofString "indexOf") 312), (.ref 119)⟩, ⟨PyData.keyHash P (Str.ofString "b1_set"), (.str (Str.ofString "b1_set") 374), (.ref 127)⟩, ⟨PyData.keyHash P (Str.ofString "in_table_b1"), (.str (Str.ofString "in_table_b1") 381), (.ref 137)⟩, ⟨PyData.keyHash P (Str.ofString "b3_exceptions"), (.str (Str.ofString "b3_exceptions") 2332), (.ref 138)⟩, ⟨PyData.keyHash P (Str.ofString "map_table_b3"), (.str (Str.ofString "map_table_b3") 2340), (.ref 183)⟩, ⟨PyData.keyHash P (Str.ofString "in_table_c11"), (.str (Str.ofString "in_table_c11") 2347), (.ref 190)⟩, ⟨PyData.keyHash P (Str.ofString "LPAR"), (.str (Str.ofString "LPAR") 2351), (.int 7 2350)⟩, ⟨PyData.keyHash P (Str.ofString "RPAR"), (.str (Str.ofString "RPAR") 2353), (.int 8 2352)⟩, ⟨PyData.keyHash P (Str.ofString "LSQB"), (.str (Str.ofString "LSQB") 2355), (.int 9 2354)⟩, ⟨PyData.keyHash P (Str.ofString "RSQB"), (.str (Str.ofString "RSQB") 2357), (.int 10 2356)⟩, ⟨PyData.keyHash P (Str.ofString "COLON"), (.str (Str.ofString "COLON") 2359), (.int 11 2358)⟩, ⟨PyData.keyHash P (Str.ofString "COMMA"), (.str (Str.ofString "COMMA") 2361), (.int 12 2360)⟩, ⟨PyData.keyHash P (Str.ofString "SEMI"), (.str (Str.ofString "SEMI") 2363), (.int 13 2362)⟩, ⟨PyData.keyHash P (Str.ofString "PLUS"), (.str (Str.ofString "PLUS") 2365), (.int 14 2364)⟩, ⟨PyData.keyHash P (Str.ofString "MINUS"), (.str (Str.ofString "MINUS") 2367), (.int 15 2366)⟩, ⟨PyData.keyHash P (Str.ofString "STAR"), (.str (Str.ofString "STAR") 2369), (.int 16 2368)⟩, ⟨PyData.keyHash P (Str.ofString "SLASH"), (.str (Str.ofString "SLASH") 2371), (.int 17 2370)⟩, ⟨PyData.keyHash P (Str.ofString "VBAR"), (.str (Str.ofString "VBAR") 2373), (.int 18 2372)⟩, ⟨PyData.keyHash P (Str.ofString "AMPER"), (.str (Str.ofString "AMPER") 2375), (.int 19 2374)⟩, ⟨PyData.keyHash P (Str.ofString "LESS"), (.str (Str.ofString "LESS") 2377), (.int 20 2376)⟩, ⟨PyData.keyHash P (Str.ofString "GREATER"), (.str (Str.ofString "GREATER") 2379), (.int 21 2378)⟩, ⟨PyData.keyHash P (Str.ofString "EQUAL"), (.str (Str.ofString "EQUAL") 2381), (.int 22 2380)⟩, ⟨PyData.keyHash P (Str.ofString "DOT"), (.str (Str.ofString "DOT") 2383), (.int 23 2382)⟩, ⟨PyData.keyHash P (Str.ofString "PERCENT"), (.str (Str.ofString "PERCENT") 2385), (.int 24 2384)⟩, ⟨PyData.keyHash P (Str.ofString "LBRACE"), (.str (Str.ofString "LBRACE") 2387), (.int 25 2386)⟩, ⟨PyData.keyHash P (Str.ofString "RBRACE"), (.str (Str.ofString "RBRACE") 2389), (.int 26 2388)⟩, ⟨PyData.keyHash P (Str.ofString "EQEQUAL"), (.str (Str.ofString "EQEQUAL") 2391), (.int 27 2390)⟩, ⟨PyData.keyHash P (Str.ofString "NOTEQUAL"), (.str (Str.ofString "NOTEQUAL") 2393), (.int 28 2392)⟩, ⟨PyData.keyHash P (Str.ofString "LESSEQUAL"), (.str (Str.ofString "LESSEQUAL") 2395), (.int 29 2394)⟩, ⟨PyData.keyHash P (Str.ofString "GREATEREQUAL"), (.str (Str.ofString "GREATEREQUAL") 2397), (.int 30 2396)⟩, ⟨PyData.keyHash P (Str.ofString "TILDE"), (.str (Str.ofString "TILDE") 2399), (.int 31 2398)⟩, ⟨PyData.keyHash P (Str.ofString "CIRCUMFLEX"), (.str (Str.ofString "CIRCUMFLEX") 2401), (.int 32 2400)⟩, ⟨PyData.keyHash P (Str.ofString "LEFTSHIFT"), (.str (Str.ofString "LEFTSHIFT") 2403), (.int 33 2402)⟩, ⟨PyData.keyHash P (Str.ofString "RIGHTSHIFT"), (.str (Str.ofString "RIGHTSHIFT") 2405), (.int 34 2404)⟩, ⟨PyData.keyHash P (Str.ofString "DOUBLESTAR"), (.str (Str.ofString "DOUBLESTAR") 2407), (.int 35 2406)⟩, ⟨PyData.keyHash P (Str.ofString "PLUSEQUAL"), (.str (Str.ofString "PLUSEQUAL") 2409), (.int 36 2408)⟩, ⟨PyData.keyHash P (Str.ofString "MINEQUAL"), (.str (Str.ofString "MINEQUAL") 2411), (.int 37 2410)⟩, ⟨PyData.keyHash P (Str.ofString "STAREQUAL"), (.str (Str.ofString "STAREQUAL") 2413), (.int 38 2412)⟩, ⟨PyData.keyHash P (Str.ofString "SLASHEQUAL"), (.str (Str.ofString "SLASHEQUAL") 2415), (.int 39 2414)⟩, ⟨PyData.keyHash P (Str.ofString "PERCENTEQUAL"), (.str (Str.ofString "PERCENTEQUAL") 2417), (.int 40 2416)⟩, ⟨PyData.keyHash P (Str.ofString "AMPEREQUAL"), (.str (Str.ofString "AMPEREQUAL") 2419), (.int 41 2418)⟩, ⟨PyData.keyHash P (Str.ofString "VBAREQUAL"), (.str (Str.ofString "VBAREQUAL") 2421), (.int 42 2420)⟩, ⟨PyData.keyHash P (Str.ofString "CIRCUMFLEXEQUAL"), (.str (Str.ofString "CIRCUMFLEXEQUAL") 2423), (.int 43 2422)⟩, ⟨PyData.keyHash P (Str.ofString "LEFTSHIFTEQUAL"), (.str (Str.ofString "LEFTSHIFTEQUAL") 2425), (.int 44 2424)⟩, ⟨PyData.keyHash P (Str.ofString "RIGHTSHIFTEQUAL"), (.str (Str.ofString "RIGHTSHIFTEQUAL") 2427), (.int 45 2426)⟩, ⟨PyData.keyHash P (Str.ofString "DOUBLESTAREQUAL"), (.str (Str.ofString "DOUBLESTAREQUAL") 2429), (.int 46 2428)⟩, ⟨PyData.keyHash P (Str.ofString "DOUBLESLASH"), (.str (Str.ofString "DOUBLESLASH") 2431), (.int 47 2430)⟩, ⟨PyData.keyHash P (Str.ofString "DOUBLESLASHEQUAL"), (.str (Str.ofString "DOUBLESLASHEQUAL") 2433), (.int 48 2432)⟩, ⟨PyData.keyHash P (Str.ofString "AT"), (.str (Str.ofString "AT") 2435), (.int 49 2434)⟩, ⟨PyData.keyHash P (Str.ofString "ATEQUAL"), (.str (Str.ofString "ATEQUAL") 2437), (.int 50 2436)⟩, ⟨PyData.keyHash P (Str.ofString "RARROW"), (.str (Str.ofString "RARROW") 2439), (.int 51 2438)⟩, ⟨PyData.keyHash P (Str.ofString "ELLIPSIS"), (.str (Str.ofString "ELLIPSIS") 2441), (.int 52 2440)⟩, ⟨PyData.keyHash P (Str.ofString "COLONEQUAL"), (.str (Str.ofString "COLONEQUAL") 2443), (.int 53 2442)⟩, ⟨PyData.keyHash P (Str.ofString "EXCLAMATION"), (.str (Str.ofString "EXCLAMATION") 2445), (.int 54 2444)⟩, ⟨PyData.keyHash P (Str.ofString "NT_OFFSET"), (.str (Str.ofString "NT_OFFSET") 2447), (.int 256 2446)⟩, ⟨PyData.keyHash P (Str.ofString "EXACT_TOKEN_TYPES"), (.str (Str.ofString "EXACT_TOKEN_TYPES") 2544), (.ref 191)⟩, ⟨PyData.keyHash P (Str.ofString "ISTERMINAL"), (.str (Str.ofString "ISTERMINAL") 2551), (.ref 200)⟩, ⟨PyData.keyHash P (Str.ofString "ISNONTERMINAL"), (.str (Str.ofString "ISNONTERMINAL") 2558), (.ref 207)⟩, ⟨PyData.keyHash P (Str.ofString "_law_unseen"), (.str (Str.ofString "_law_unseen") 2568), (.ref 214)⟩, ⟨PyData.keyHash P (Str.ofString "_law_spelled"), (.str (Str.ofString "_law_spelled") 2577), (.ref 221)⟩, ⟨PyData.keyHash P (Str.ofString "_law_drawn"), (.str (Str.ofString "_law_drawn") 2583), (.ref 226)⟩, ⟨PyData.keyHash P (Str.ofString "_law_read"), (.str (Str.ofString "_law_read") 2596), (.ref 233)⟩, ⟨PyData.keyHash P (Str.ofString "_law_node"), (.str (Str.ofString "_law_node") 2607), (.ref 240)⟩, ⟨PyData.keyHash P (Str.ofString "_law_join"), (.str (Str.ofString "_law_join") 2622), (.ref 247)⟩, ⟨PyData.keyHash P (Str.ofString "_law_run"), (.str (Str.ofString "_law_run") 2637), (.ref 254)⟩, ⟨PyData.keyHash P (Str.ofString "law"), (.str (Str.ofString "law") 2643), (.ref 259)⟩].toArray 89), [].toArray⟩
noncomputable def ob12_8 (P : Params) : Obj := ⟨.none, none, (.fields [(.int 2 0), (.int 0 0), (.ref 20), (.int 4 0), (.int 0 0), (.ref 27), (.int 6 0), (.int 0 0), (.ref 34), (.int 8 0), (.int 0 0), (.ref 41), (.int 10 0), (.int 0 0), (.ref 48), (.int 12 0), (.int 0 0), (.ref 55), (.int 14 0), (.int 0 0), (.ref 62), (.int 16 0), (.int 0 0), (.ref 69), (.int 18 0), (.int 0 0), (.ref 76), (.int 20 0), (.int 0 0), (.ref 83), (.int 22 0), (.int 0 0), (.ref 90), (.int 24 0), (.int 0 0), (.ref 97), (.int 26 0), (.int 0 0), (.ref 104), (.int 32 0), (.int 0 0), (.ref 111), (.int 34 0), (.int 0 0), (.ref 118), (.int 42 0), (.int 0 0), (.ref 136), (.int 45 0), (.int 0 0), (.ref 182), (.int 50 0), (.int 0 0), (.ref 189), (.int 103 0), (.int 0 0), (.ref 199), (.int 105 0), (.int 0 0), (.ref 206), (.int 108 0), (.int 0 0), (.ref 213), (.int 113 0), (.int 0 0), (.ref 220), (.int 120 0), (.int 0 0), (.ref 225), (.int 152 0), (.int 0 0), (.ref 232), (.int 170 0), (.int 0 0), (.ref 239), (.int 177 0), (.int 0 0), (.ref 246), (.int 190 0), (.int 0 0), (.ref 253), (.int 206 0), (.int 0 0), (.ref 258)].toArray), [].toArray⟩
noncomputable def ob194 (P : Params) : Obj := ⟨(.type "tuple"), none, (.seq [].toArray 0), [].toArray⟩
noncomputable def ob195 (P : Params) : Obj := ⟨.none, none, (.fields [].toArray), [].toArray⟩
noncomputable def ob196 (P : Params) : Obj := ⟨(.type "tuple"), none, (.seq [(.str (Str.ofString "x") 2548)].toArray 0), [].toArray⟩
noncomputable def ob197 (P : Params) : Obj := ⟨(.type "tuple"), none, (.seq [].toArray 0), [].toArray⟩
noncomputable def ob198 (P : Params) : Obj := ⟨.none, none, (.func { name := (Str.ofString "ISTERMINAL"), qualname := (Str.ofString "ISTERMINAL"), params := (fnOfStm 73).1, body := .stmts (fnOfStm 73).2.1, scope := (fnOfStm 73).2.2, globals := 0, closure := [], defaults := .none, kwdefaults := .none, doc := .none, pyModule := .none, annotations := none, code := .none, closureTuple := .none, builtins := 0 }), [].toArray⟩
noncomputable def ob199 (P : Params) : Obj := ⟨(.type "code"), none, (.fields [(.str (Str.ofString "ISTERMINAL") 2545), (.str (Str.ofString "ISTERMINAL") 2546), (.str (Str.ofString "/claim/cut.py") 2547), (.int 103 0), (.int 1 0), (.int 0 0), (.int 0 0), (.int 3 0), (.ref 194), (.bool true), (.int 181 0), (.ref 195), .none, (.ref 196), (.ref 197), (.ref 198), (.int 2549 0), (.int 103 0), (.str (Str.ofString "/claim/cut.py") 2550)].toArray), [].toArray⟩
noncomputable def ob200 (P : Params) : Obj := ⟨(.type "function"), none, (.func { name := (Str.ofString "ISTERMINAL"), qualname := (Str.ofString "ISTERMINAL"), params := (fnOfStm 73).1, body := .stmts (fnOfStm 73).2.1, scope := (fnOfStm 73).2.2, globals := 3, closure := [], defaults := .none, kwdefaults := .none, doc := .none, pyModule := (.str (Str.ofString "cpy313.token") 2348), annotations := none, code := (.ref 199), closureTuple := .none, builtins := 0 }), [].toArray⟩
noncomputable def ob201 (P : Params) : Obj := ⟨(.type "tuple"), none, (.seq [].toArray 0), [].toArray⟩
noncomputable def ob202 (P : Params) : Obj := ⟨.none, none, (.fields [].toArray), [].toArray⟩
noncomputable def ob203 (P : Params) : Obj := ⟨(.type "tuple"), none, (.seq [(.str (Str.ofString "x") 2555)].toArray 0), [].toArray⟩
noncomputable def ob204 (P : Params) : Obj := ⟨(.type "tuple"), none, (.seq [].toArray 0), [].toArray⟩
noncomputable def ob205 (P : Params) : Obj := ⟨.none, none, (.func { name := (Str.ofString "ISNONTERMINAL"), qualname := (Str.ofString "ISNONTERMINAL"), params := (fnOfStm 74).1, body := .stmts (fnOfStm 74).2.1, scope := (fnOfStm 74).2.2, globals := 0, closure := [], defaults := .none, kwdefaults := .none, doc := .none, pyModule := .none, annotations := none, code := .none, closureTuple := .none, builtins := 0 }), [].toArray⟩
noncomputable def ob206 (P : Params) : Obj := ⟨(.type "code"), none, (.fields [(.str (Str.ofString "ISNONTERMINAL") 2552), (.str (Str.ofString "ISNONTERMINAL") 2553), (.str (Str.ofString "/claim/cut.py") 2554), (.int 105 0), (.int 1 0), (.int 0 0), (.int 0 0), (.int 3 0), (.ref 201), (.bool true), (.int 181 0), (.ref 202), .none, (.ref 203), (.ref 204), (.ref 205), (.int 2556 0), (.int 105 0), (.str (Str.ofString "/claim/cut.py") 2557)].toArray), [].toArray⟩
noncomputable def ob207 (P : Params) : Obj := ⟨(.type "function"), none, (.func { name := (Str.ofString "ISNONTERMINAL"), qualname := (Str.ofString "ISNONTERMINAL"), params := (fnOfStm 74).1, body := .stmts (fnOfStm 74).2.1, scope := (fnOfStm 74).2.2, globals := 3, closure := [], defaults := .none, kwdefaults := .none, doc := .none, pyModule := (.str (Str.ofString "cpy313.token") 2348), annotations := none, code := (.ref 206), closureTuple := .none, builtins := 0 }), [].toArray⟩
noncomputable def ob208 (P : Params) : Obj := ⟨(.type "tuple"), none, (.seq [].toArray 0), [].toArray⟩
noncomputable def ob209 (P : Params) : Obj := ⟨.none, none, (.fields [].toArray), [].toArray⟩
noncomputable def ob210 (P : Params) : Obj := ⟨(.type "tuple"), none, (.seq [(.str (Str.ofString "which") 2564), (.str (Str.ofString "signs") 2565)].toArray 0), [].toArray⟩
noncomputable def ob211 (P : Params) : Obj := ⟨(.type "tuple"), none, (.seq [].toArray 0), [].toArray⟩
noncomputable def ob212 (P : Params) : Obj := ⟨.none, none, (.func { name := (Str.ofString "_law_unseen"), qualname := (Str.ofString "_law_unseen"), params := (fnOfStm 76).1, body := .stmts (fnOfStm 76).2.1, scope := (fnOfStm 76).2.2, globals := 0, closure := [], defaults := .none, kwdefaults := .none, doc := .none, pyModule := .none, annotations := none, code := .none, closureTuple := .none, builtins := 0 }), [].toArray⟩
noncomputable def ob213 (P : Params) : Obj := ⟨(.type "code"), none, (.fields [(.str (Str.ofString "_law_unseen") 2561), (.str (Str.ofString "_law_unseen") 2562), (.str (Str.ofString "/claim/cut.py") 2563), (.int 108 0), (.int 1 0), (.int 0 0), (.int 0 0), (.int 3 0), (.ref 208), (.bool true), (.int 181 0), (.ref 209), .none, (.ref 210), (.ref 211), (.ref 212), (.int 2566 0), (.int 108 0), (.str (Str.ofString "/claim/cut.py") 2567)].toArray), [].toArray⟩
noncomputable def ob214 (P : Params) : Obj := ⟨(.type "function"), none, (.func { name := (Str.ofString "_law_unseen"), qualname := (Str.ofString "_law_unseen"), params := (fnOfStm 76).1, body := .stmts (fnOfStm 76).2.1, scope := (fnOfStm 76).2.2, globals := 3, closure := [], defaults := .none, kwdefaults := .none, doc := .none, pyModule := (.str (Str.ofString "law_wf0091_01") 2559), annotations := none, code := (.ref 213), closureTuple := .none, builtins := 0 }), [].toArray⟩
noncomputable def ob215 (P : Params) : Obj := ⟨(.type "tuple"), none, (.seq [].toArray 0), [].toArray⟩
noncomputable def ob216 (P : Params) : Obj := ⟨.none, none, (.fields [].toArray), [].toArray⟩
noncomputable def ob217 (P : Params) : Obj := ⟨(.type "tuple"), none, (.seq [(.str (Str.ofString "letter") 2572), (.str (Str.ofString "which") 2573), (.str (Str.ofString "starts") 2574)].toArray 0), [].toArray⟩
noncomputable def ob218 (P : Params) : Obj := ⟨(.type "tuple"), none, (.seq [].toArray 0), [].toArray⟩
noncomputable def ob219 (P : Params) : Obj := ⟨.none, none, (.func { name := (Str.ofString "_law_spelled"), qualname := (Str.ofString "_law_spelled"), params := (fnOfStm 77).1, body := .stmts (fnOfStm 77).2.1, scope := (fnOfStm 77).2.2, globals := 0, closure := [], defaults := .none, kwdefaults := .none, doc := .none, pyModule := .none, annotations := none, code := .none, closureTuple := .none, builtins := 0 }), [].toArray⟩
noncomputable def ob220 (P : Params) : Obj := ⟨(.type "code"), none, (.fields [(.str (Str.ofString "_law_spelled") 2569), (.str (Str.ofString "_law_spelled") 2570), (.str (Str.ofString "/claim/cut.py") 2571), (.int 113 0), (.int 2 0), (.int 0 0), (.int 0 0), (.int 3 0), (.ref 215), (.bool true), (.int 181 0), (.ref 216), .none, (.ref 217), (.ref 218), (.ref 219), (.int 2575 0), (.int 113 0), (.str (Str.ofString "/claim/cut.py") 2576)].toArray), [].toArray⟩
noncomputable def ob221 (P : Params) : Obj := ⟨(.type "function"), none, (.func { name := (Str.ofString "_law_spelled"), qualname := (Str.ofString "_law_spelled"), params := (fnOfStm 77).1, body := .stmts (fnOfStm 77).2.1, scope := (fnOfStm 77).2.2, globals := 3, closure := [], defaults := .none, kwdefaults := .none, doc := .none, pyModule := (.str (Str.ofString "law_wf0091_01") 2559), annotations := none, code := (.ref 220), closureTuple := .none, builtins := 0 }), [].toArray⟩
noncomputable def ob222 (P : Params) : Obj := ⟨(.type "tuple"), none, (.seq [].toArray 0), [].toArray⟩
noncomputable def ob223 (P : Params) : Obj := ⟨.none, none, (.fields [].toArray), [].toArray⟩
noncomputable def ob224 (P : Params) : Obj := ⟨.none, none, (.func { name := (Str.ofString "_law_drawn"), qualname := (Str.ofString "_law_drawn"), params := (fnOfStm 78).1, body := .stmts (fnOfStm 78).2.1, scope := (fnOfStm 78).2.2, globals := 0, closure := [], defaults := .none, kwdefaults := .none, doc := .none, pyModule := .none, annotations := none, code := .none, closureTuple := .none, builtins := 0 }), [].toArray⟩
noncomputable def ob225 (P : Params) : Obj := ⟨(.type "code"), none, (.fields [(.str (Str.ofString "_law_drawn") 2578), (.str (Str.ofString "_law_drawn") 2579), (.str (Str.ofString "/claim/cut.py") 2580), (.int 120 0), (.int 1 0), (.int 0 0), (.int 0 0), (.int 3 0), (.ref 222), (.bool true), (.int 181 0), (.ref 223), .none, .none, .none, (.ref 224), (.int 2581 0), (.int 120 0), (.str (Str.ofString "/claim/cut.py") 2582)].toArray), [].toArray⟩
noncomputable def ob226 (P : Params) : Obj := ⟨(.type "function"), none, (.func { name := (Str.ofString "_law_drawn"), qualname := (Str.ofString "_law_drawn"), params := (fnOfStm 78).1, body := .stmts (fnOfStm 78).2.1, scope := (fnOfStm 78).2.2, globals := 3, closure := [], defaults := .none, kwdefaults := .none, doc := .none, pyModule := (.str (Str.ofString "law_wf0091_01") 2559), annotations := none, code := (.ref 225), closureTuple := .none, builtins := 0 }), [].toArray⟩
noncomputable def ob227 (P : Params) : Obj := ⟨(.type "tuple"), none, (.seq [].toArray 0), [].toArray⟩
noncomputable def ob228 (P : Params) : Obj := ⟨.none, none, (.fields [].toArray), [].toArray⟩
noncomputable def ob229 (P : Params) : Obj := ⟨(.type "tuple"), none, (.seq [(.str (Str.ofString "text") 2587), (.str (Str.ofString "words") 2588), (.str (Str.ofString "sign") 2589), (.str (Str.ofString "symbols") 2590), (.str (Str.ofString "word") 2591), (.str (Str.ofString "left") 2592), (.str (Str.ofString "piece") 2593)].toArray 0), [].toArray⟩
noncomputable def ob230 (P : Params) : Obj := ⟨(.type "tuple"), none, (.seq [].toArray 0), [].toArray⟩
noncomputable def ob231 (P : Params) : Obj := ⟨.none, none, (.func { name := (Str.ofString "_law_read"), qualname := (Str.ofString "_law_read"), params := (fnOfStm 79).1, body := .stmts (fnOfStm 79).2.1, scope := (fnOfStm 79).2.2, globals := 0, closure := [], defaults := .none, kwdefaults := .none, doc := .none, pyModule := .none, annotations := none, code := .none, closureTuple := .none, builtins := 0 }), [].toArray⟩
noncomputable def ob232 (P : Params) : Obj := ⟨(.type "code"), none, (.fields [(.str (Str.ofString "_law_read") 2584), (.str (Str.ofString "_law_read") 2585), (.str (Str.ofString "/claim/cut.py") 2586), (.int 152 0), (.int 1 0), (.int 0 0), (.int 0 0), (.int 3 0), (.ref 227), (.bool true), (.int 181 0), (.ref 228), .none, (.ref 229), (.ref 230), (.ref 231), (.int 2594 0), (.int 152 0), (.str (Str.ofString "/claim/cut.py") 2595)].toArray), [].toArray⟩
noncomputable def ob233 (P : Params) : Obj := ⟨(.type "function"), none, (.func { name := (Str.ofString "_law_read"), qualname := (Str.ofString "_law_read"), params := (fnOfStm 79).1, body := .stmts (fnOfStm 79).2.1, scope := (fnOfStm 79).2.2, globals := 3, closure := [], defaults := .none, kwdefaults := .none, doc := .none, pyModule := (.str (Str.ofString "law_wf0091_01") 2559), annotations := none, code := (.ref 232), closureTuple := .none, builtins := 0 }), [].toArray⟩
noncomputable def ob234 (P : Params) : Obj := ⟨(.type "tuple"), none, (.seq [].toArray 0), [].toArray⟩
noncomputable def ob235 (P : Params) : Obj := ⟨.none, none, (.fields [].toArray), [].toArray⟩
noncomputable def ob236 (P : Params) : Obj := ⟨(.type "tuple"), none, (.seq [(.str (Str.ofString "pool") 2600), (.str (Str.ofString "letter") 2601), (.str (Str.ofString "low") 2602), (.str (Str.ofString "high") 2603), (.str (Str.ofString "row") 2604)].toArray 0), [].toArray⟩
noncomputable def ob237 (P : Params) : Obj := ⟨(.type "tuple"), none, (.seq [].toArray 0), [].toArray⟩
noncomputable def ob238 (P : Params) : Obj := ⟨.none, none, (.func { name := (Str.ofString "_law_node"), qualname := (Str.ofString "_law_node"), params := (fnOfStm 80).1, body := .stmts (fnOfStm 80).2.1, scope := (fnOfStm 80).2.2, globals := 0, closure := [], defaults := .none, kwdefaults := .none, doc := .none, pyModule := .none, annotations := none, code := .none, closureTuple := .none, builtins := 0 }), [].toArray⟩
noncomputable def ob239 (P : Params) : Obj := ⟨(.type "code"), none, (.fields [(.str (Str.ofString "_law_node") 2597), (.str (Str.ofString "_law_node") 2598), (.str (Str.ofString "/claim/cut.py") 2599), (.int 170 0), (.int 4 0), (.int 0 0), (.int 0 0), (.int 3 0), (.ref 234), (.bool true), (.int 181 0), (.ref 235), .none, (.ref 236), (.ref 237), (.ref 238), (.int 2605 0), (.int 170 0), (.str (Str.ofString "/claim/cut.py") 2606)].toArray), [].toArray⟩
noncomputable def ob240 (P : Params) : Obj := ⟨(.type "function"), none, (.func { name := (Str.ofString "_law_node"), qualname := (Str.ofString "_law_node"), params := (fnOfStm 80).1, body := .stmts (fnOfStm 80).2.1, scope := (fnOfStm 80).2.2, globals := 3, closure := [], defaults := .none, kwdefaults := .none, doc := .none, pyModule := (.str (Str.ofString "law_wf0091_01") 2559), annotations := none, code := (.ref 239), closureTuple := .none, builtins := 0 }), [].toArray⟩
noncomputable def ob241 (P : Params) : Obj := ⟨(.type "tuple"), none, (.seq [].toArray 0), [].toArray⟩
noncomputable def ob242 (P : Params) : Obj := ⟨.none, none, (.fields [].toArray), [].toArray⟩
noncomputable def ob243 (P : Params) : Obj := ⟨(.type "tuple"), none, (.seq [(.str (Str.ofString "pool") 2611), (.str (Str.ofString "deed") 2612), (.str (Str.ofString "one") 2613), (.str (Str.ofString "two") 2614), (.str (Str.ofString "left") 2615), (.str (Str.ofString "right") 2616), (.str (Str.ofString "letter") 2617), (.str (Str.ofString "low") 2618), (.str (Str.ofString "high") 2619)].toArray 0), [].toArray⟩
noncomputable def ob244 (P : Params) : Obj := ⟨(.type "tuple"), none, (.seq [].toArray 0), [].toArray⟩
noncomputable def ob245 (P : Params) : Obj := ⟨.none, none, (.func { name := (Str.ofString "_law_join"), qualname := (Str.ofString "_law_join"), params := (fnOfStm 81).1, body := .stmts (fnOfStm 81).2.1, scope := (fnOfStm 81).2.2, globals := 0, closure := [], defaults := .none, kwdefaults := .none, doc := .none, pyModule := .none, annotations := none, code := .none, closureTuple := .none, builtins := 0 }), [].toArray⟩
noncomputable def ob246 (P : Params) : Obj := ⟨(.type "code"), none, (.fields [(.str (Str.ofString "_law_join") 2608), (.str (Str.ofString "_law_join") 2609), (.str (Str.ofString "/claim/cut.py") 2610), (.int 177 0), (.int 4 0), (.int 0 0), (.int 0 0), (.int 3 0), (.ref 241), (.bool true), (.int 181 0), (.ref 242), .none, (.ref 243), (.ref 244), (.ref 245), (.int 2620 0), (.int 177 0), (.str (Str.ofString "/claim/cut.py") 2621)].toArray), [].toArray⟩
noncomputable def ob247 (P : Params) : Obj := ⟨(.type "function"), none, (.func { name := (Str.ofString "_law_join"), qualname := (Str.ofString "_law_join"), params := (fnOfStm 81).1, body := .stmts (fnOfStm 81).2.1, scope := (fnOfStm 81).2.2, globals := 3, closure := [], defaults := .none, kwdefaults := .none, doc := .none, pyModule := (.str (Str.ofString "law_wf0091_01") 2559), annotations := none, code := (.ref 246), closureTuple := .none, builtins := 0 }), [].toArray⟩
noncomputable def ob248 (P : Params) : Obj := ⟨(.type "tuple"), none, (.seq [].toArray 0), [].toArray⟩
noncomputable def ob249 (P : Params) : Obj := ⟨.none, none, (.fields [].toArray), [].toArray⟩
noncomputable def ob250 (P : Params) : Obj := ⟨(.type "tuple"), none, (.seq [(.str (Str.ofString "symbols") 2626), (.str (Str.ofString "pool") 2627), (.str (Str.ofString "deeds") 2628), (.str (Str.ofString "pile") 2629), (.str (Str.ofString "seen") 2630), (.str (Str.ofString "symbol") 2631), (.str (Str.ofString "node") 2632), (.str (Str.ofString "two") 2633), (.str (Str.ofString "one") 2634)].toArray 0), [].toArray⟩
noncomputable def ob251 (P : Params) : Obj := ⟨(.type "tuple"), none, (.seq [].toArray 0), [].toArray⟩
noncomputable def ob252 (P : Params) : Obj := ⟨.none, none, (.func { name := (Str.ofString "_law_run"), qualname := (Str.ofString "_law_run"), params := (fnOfStm 82).1, body := .stmts (fnOfStm 82).2.1, scope := (fnOfStm 82).2.2, globals := 0, closure := [], defaults := .none, kwdefaults := .none, doc := .none, pyModule := .none, annotations := none, code := .none, closureTuple := .none, builtins := 0 }), [].toArray⟩
noncomputable def ob253 (P : Params) : Obj := ⟨(.type "code"), none, (.fields [(.str (Str.ofString "_law_run") 2623), (.str (Str.ofString "_law_run") 2624), (.str (Str.ofString "/claim/cut.py") 2625), (.int 190 0), (.int 2 0), (.int 0 0), (.int 0 0), (.int 3 0), (.ref 248), (.bool true), (.int 181 0), (.ref 249), .none, (.ref 250), (.ref 251), (.ref 252), (.int 2635 0), (.int 190 0), (.str (Str.ofString "/claim/cut.py") 2636)].toArray), [].toArray⟩
noncomputable def ob254 (P : Params) : Obj := ⟨(.type "function"), none, (.func { name := (Str.ofString "_law_run"), qualname := (Str.ofString "_law_run"), params := (fnOfStm 82).1, body := .stmts (fnOfStm 82).2.1, scope := (fnOfStm 82).2.2, globals := 3, closure := [], defaults := .none, kwdefaults := .none, doc := .none, pyModule := (.str (Str.ofString "law_wf0091_01") 2559), annotations := none, code := (.ref 253), closureTuple := .none, builtins := 0 }), [].toArray⟩
noncomputable def ob255 (P : Params) : Obj := ⟨(.type "tuple"), none, (.seq [].toArray 0), [].toArray⟩
noncomputable def ob256 (P : Params) : Obj := ⟨.none, none, (.fields [].toArray), [].toArray⟩
noncomputable def ob257 (P : Params) : Obj := ⟨.none, none, (.func { name := (Str.ofString "law"), qualname := (Str.ofString "law"), params := (fnOfStm 83).1, body := .stmts (fnOfStm 83).2.1, scope := (fnOfStm 83).2.2, globals := 0, closure := [], defaults := .none, kwdefaults := .none, doc := .none, pyModule := .none, annotations := none, code := .none, closureTuple := .none, builtins := 0 }), [].toArray⟩
noncomputable def ob258 (P : Params) : Obj := ⟨(.type "code"), none, (.fields [(.str (Str.ofString "law") 2638), (.str (Str.ofString "law") 2639), (.str (Str.ofString "/claim/cut.py") 2640), (.int 206 0), (.int 1 0), (.int 0 0), (.int 0 0), (.int 3 0), (.ref 255), (.bool true), (.int 181 0), (.ref 256), .none, .none, .none, (.ref 257), (.int 2641 0), (.int 206 0), (.str (Str.ofString "/claim/cut.py") 2642)].toArray), [].toArray⟩
noncomputable def ob259 (P : Params) : Obj := ⟨(.type "function"), none, (.func { name := (Str.ofString "law"), qualname := (Str.ofString "law"), params := (fnOfStm 83).1, body := .stmts (fnOfStm 83).2.1, scope := (fnOfStm 83).2.2, globals := 3, closure := [], defaults := .none, kwdefaults := .none, doc := .none, pyModule := (.str (Str.ofString "law_wf0091_01") 2559), annotations := none, code := (.ref 258), closureTuple := .none, builtins := 0 }), [].toArray⟩
noncomputable def tr_8 (P : Params) : BT := (.node (boot_o_0 P) (.node (boot_o_1 P) (.node (ob3_8 P) (.node (boot_o_7 P) (.node (ob15 P) (.node (ob31 P) (.node (ob63 P) (.node (ob127 P) (.node (ob255 P) .nil .nil) .nil) (.node (ob191 P) .nil .nil)) (.node (ob95 P) (.node (ob159 P) .nil .nil) (.node (ob223 P) .nil .nil))) (.node (ob47 P) (.node (ob79 P) (.node (ob143 P) .nil .nil) (.node (ob207 P) .nil .nil)) (.node (ob111 P) (.node (ob175 P) .nil .nil) (.node (ob239 P) .nil .nil)))) (.node (ob23 P) (.node (ob39 P) (.node (ob71 P) (.node (ob135 P) .nil .nil) (.node (ob199 P) .nil .nil)) (.node (ob103 P) (.node (ob167 P) .nil .nil) (.node (ob231 P) .nil .nil))) (.node (ob55 P) (.node (ob87 P) (.node (ob151 P) .nil .nil) (.node (ob215 P) .nil .nil)) (.node (ob119 P) (.node (ob183 P) .nil .nil) (.node (ob247 P) .nil .nil))))) (.node (ob11 P) (.node (ob19 P) (.node (ob35 P) (.node (ob67 P) (.node (ob131 P) (.node (ob259 P) .nil .nil) .nil) (.node (ob195 P) .nil .nil)) (.node (ob99 P) (.node (ob163 P) .nil .nil) (.node (ob227 P) .nil .nil))) (.node (ob51 P) (.node (ob83 P) (.node (ob147 P) .nil .nil) (.node (ob211 P) .nil .nil)) (.node (ob115 P) (.node (ob179 P) .nil .nil) (.node (ob243 P) .nil .nil)))) (.node (ob27 P) (.node (ob43 P) (.node (ob75 P) (.node (ob139 P) .nil .nil) (.node (ob203 P) .nil .nil)) (.node (ob107 P) (.node (ob171 P) .nil .nil) (.node (ob235 P) .nil .nil))) (.node (ob59 P) (.node (ob91 P) (.node (ob155 P) .nil .nil) (.node (ob219 P) .nil .nil)) (.node (ob123 P) (.node (ob187 P) .nil .nil) (.node (ob251 P) .nil .nil)))))) (.node (boot_o_5 P) (.node (boot_o_9 P) (.node (ob17 P) (.node (ob33 P) (.node (ob65 P) (.node (ob129 P) (.node (ob257 P) .nil .nil) .nil) (.node (ob193 P) .nil .nil)) (.node (ob97 P) (.node (ob161 P) .nil .nil) (.node (ob225 P) .nil .nil))) (.node (ob49 P) (.node (ob81 P) (.node (ob145 P) .nil .nil) (.node (ob209 P) .nil .nil)) (.node (ob113 P) (.node (ob177 P) .nil .nil) (.node (ob241 P) .nil .nil)))) (.node (ob25 P) (.node (ob41 P) (.node (ob73 P) (.node (ob137 P) .nil .nil) (.node (ob201 P) .nil .nil)) (.node (ob105 P) (.node (ob169 P) .nil .nil) (.node (ob233 P) .nil .nil))) (.node (ob57 P) (.node (ob89 P) (.node (ob153 P) .nil .nil) (.node (ob217 P) .nil .nil)) (.node (ob121 P) (.node (ob185 P) .nil .nil) (.node (ob249 P) .nil .nil))))) (.node (ob13 P) (.node (ob21 P) (.node (ob37 P) (.node (ob69 P) (.node (ob133 P) .nil .nil) (.node (ob197 P) .nil .nil)) (.node (ob101 P) (.node (ob165 P) .nil .nil) (.node (ob229 P) .nil .nil))) (.node (ob53 P) (.node (ob85 P) (.node (ob149 P) .nil .nil) (.node (ob213 P) .nil .nil)) (.node (ob117 P) (.node (ob181 P) .nil .nil) (.node (ob245 P) .nil .nil)))) (.node (ob29 P) (.node (ob45 P) (.node (ob77 P) (.node (ob141 P) .nil .nil) (.node (ob205 P) .nil .nil)) (.node (ob109 P) (.node (ob173 P) .nil .nil) (.node (ob237 P) .nil .nil))) (.node (ob61 P) (.node (ob93 P) (.node (ob157 P) .nil .nil) (.node (ob221 P) .nil .nil)) (.node (ob125 P) (.node (ob189 P) .nil .nil) (.node (ob253 P) .nil .nil))))))) (.node (boot_o_2 P) (.node (boot_o_4 P) (.node (boot_o_8 P) (.node (ob16 P) (.node (ob32 P) (.node (ob64 P) (.node (ob128 P) (.node (ob256 P) .nil .nil) .nil) (.node (ob192 P) .nil .nil)) (.node (ob96 P) (.node (ob160 P) .nil .nil) (.node (ob224 P) .nil .nil))) (.node (ob48 P) (.node (ob80 P) (.node (ob144 P) .nil .nil) (.node (ob208 P) .nil .nil)) (.node (ob112 P) (.node (ob176 P) .nil .nil) (.node (ob240 P) .nil .nil)))) (.node (ob24 P) (.node (ob40 P) (.node (ob72 P) (.node (ob136 P) .nil .nil) (.node (ob200 P) .nil .nil)) (.node (ob104 P) (.node (ob168 P) .nil .nil) (.node (ob232 P) .nil .nil))) (.node (ob56 P) (.node (ob88 P) (.node (ob152 P) .nil .nil) (.node (ob216 P) .nil .nil)) (.node (ob120 P) (.node (ob184 P) .nil .nil) (.node (ob248 P) .nil .nil))))) (.node (ob12_8 P) (.node (ob20 P) (.node (ob36 P) (.node (ob68 P) (.node (ob132 P) .nil .nil) (.node (ob196 P) .nil .nil)) (.node (ob100 P) (.node (ob164 P) .nil .nil) (.node (ob228 P) .nil .nil))) (.node (ob52 P) (.node (ob84 P) (.node (ob148 P) .nil .nil) (.node (ob212 P) .nil .nil)) (.node (ob116 P) (.node (ob180 P) .nil .nil) (.node (ob244 P) .nil .nil)))) (.node (ob28 P) (.node (ob44 P) (.node (ob76 P) (.node (ob140 P) .nil .nil) (.node (ob204 P) .nil .nil)) (.node (ob108 P) (.node (ob172 P) .nil .nil) (.node (ob236 P) .nil .nil))) (.node (ob60 P) (.node (ob92 P) (.node (ob156 P) .nil .nil) (.node (ob220 P) .nil .nil)) (.node (ob124 P) (.node (ob188 P) .nil .nil) (.node (ob252 P) .nil .nil)))))) (.node (boot_o_6 P) (.node (boot_o_10 P) (.node (ob18 P) (.node (ob34 P) (.node (ob66 P) (.node (ob130 P) (.node (ob258 P) .nil .nil) .nil) (.node (ob194 P) .nil .nil)) (.node (ob98 P) (.node (ob162 P) .nil .nil) (.node (ob226 P) .nil .nil))) (.node (ob50 P) (.node (ob82 P) (.node (ob146 P) .nil .nil) (.node (ob210 P) .nil .nil)) (.node (ob114 P) (.node (ob178 P) .nil .nil) (.node (ob242 P) .nil .nil)))) (.node (ob26 P) (.node (ob42 P) (.node (ob74 P) (.node (ob138 P) .nil .nil) (.node (ob202 P) .nil .nil)) (.node (ob106 P) (.node (ob170 P) .nil .nil) (.node (ob234 P) .nil .nil))) (.node (ob58 P) (.node (ob90 P) (.node (ob154 P) .nil .nil) (.node (ob218 P) .nil .nil)) (.node (ob122 P) (.node (ob186 P) .nil .nil) (.node (ob250 P) .nil .nil))))) (.node (ob14 P) (.node (ob22 P) (.node (ob38 P) (.node (ob70 P) (.node (ob134 P) .nil .nil) (.node (ob198 P) .nil .nil)) (.node (ob102 P) (.node (ob166 P) .nil .nil) (.node (ob230 P) .nil .nil))) (.node (ob54 P) (.node (ob86 P) (.node (ob150 P) .nil .nil) (.node (ob214 P) .nil .nil)) (.node (ob118 P) (.node (ob182 P) .nil .nil) (.node (ob246 P) .nil .nil)))) (.node (ob30 P) (.node (ob46 P) (.node (ob78 P) (.node (ob142 P) .nil .nil) (.node (ob206 P) .nil .nil)) (.node (ob110 P) (.node (ob174 P) .nil .nil) (.node (ob238 P) .nil .nil))) (.node (ob62 P) (.node (ob94 P) (.node (ob158 P) .nil .nil) (.node (ob222 P) .nil .nil)) (.node (ob126 P) (.node (ob190 P) .nil .nil) (.node (ob254 P) .nil .nil))))))))
noncomputable def tr_f (P : Params) : BT := (.node (boot_o_0 P) (.node (boot_o_1 P) (.node (ob3_8 P) (.node (boot_o_7 P) (.node (ob15 P) (.node (ob31 P) (.node (ob63 P) (.node (ob127 P) (.node (ob255 P) .nil .nil) .nil) (.node (ob191 P) .nil .nil)) (.node (ob95 P) (.node (ob159 P) .nil .nil) (.node (ob223 P) .nil .nil))) (.node (ob47 P) (.node (ob79 P) (.node (ob143 P) .nil .nil) (.node (ob207 P) .nil .nil)) (.node (ob111 P) (.node (ob175 P) .nil .nil) (.node (ob239 P) .nil .nil)))) (.node (ob23 P) (.node (ob39 P) (.node (ob71 P) (.node (ob135 P) .nil .nil) (.node (ob199 P) .nil .nil)) (.node (ob103 P) (.node (ob167 P) .nil .nil) (.node (ob231 P) .nil .nil))) (.node (ob55 P) (.node (ob87 P) (.node (ob151 P) .nil .nil) (.node (ob215 P) .nil .nil)) (.node (ob119 P) (.node (ob183 P) .nil .nil) (.node (ob247 P) .nil .nil))))) (.node (ob11 P) (.node (ob19 P) (.node (ob35 P) (.node (ob67 P) (.node (ob131 P) (.node (ob259 P) .nil .nil) .nil) (.node (ob195 P) .nil .nil)) (.node (ob99 P) (.node (ob163 P) .nil .nil) (.node (ob227 P) .nil .nil))) (.node (ob51 P) (.node (ob83 P) (.node (ob147 P) .nil .nil) (.node (ob211 P) .nil .nil)) (.node (ob115 P) (.node (ob179 P) .nil .nil) (.node (ob243 P) .nil .nil)))) (.node (ob27 P) (.node (ob43 P) (.node (ob75 P) (.node (ob139 P) .nil .nil) (.node (ob203 P) .nil .nil)) (.node (ob107 P) (.node (ob171 P) .nil .nil) (.node (ob235 P) .nil .nil))) (.node (ob59 P) (.node (ob91 P) (.node (ob155 P) .nil .nil) (.node (ob219 P) .nil .nil)) (.node (ob123 P) (.node (ob187 P) .nil .nil) (.node (ob251 P) .nil .nil)))))) (.node (boot_o_5 P) (.node (boot_o_9 P) (.node (ob17 P) (.node (ob33 P) (.node (ob65 P) (.node (ob129 P) (.node (ob257 P) .nil .nil) .nil) (.node (ob193 P) .nil .nil)) (.node (ob97 P) (.node (ob161 P) .nil .nil) (.node (ob225 P) .nil .nil))) (.node (ob49 P) (.node (ob81 P) (.node (ob145 P) .nil .nil) (.node (ob209 P) .nil .nil)) (.node (ob113 P) (.node (ob177 P) .nil .nil) (.node (ob241 P) .nil .nil)))) (.node (ob25 P) (.node (ob41 P) (.node (ob73 P) (.node (ob137 P) .nil .nil) (.node (ob201 P) .nil .nil)) (.node (ob105 P) (.node (ob169 P) .nil .nil) (.node (ob233 P) .nil .nil))) (.node (ob57 P) (.node (ob89 P) (.node (ob153 P) .nil .nil) (.node (ob217 P) .nil .nil)) (.node (ob121 P) (.node (ob185 P) .nil .nil) (.node (ob249 P) .nil .nil))))) (.node (ob13 P) (.node (ob21 P) (.node (ob37 P) (.node (ob69 P) (.node (ob133 P) .nil .nil) (.node (ob197 P) .nil .nil)) (.node (ob101 P) (.node (ob165 P) .nil .nil) (.node (ob229 P) .nil .nil))) (.node (ob53 P) (.node (ob85 P) (.node (ob149 P) .nil .nil) (.node (ob213 P) .nil .nil)) (.node (ob117 P) (.node (ob181 P) .nil .nil) (.node (ob245 P) .nil .nil)))) (.node (ob29 P) (.node (ob45 P) (.node (ob77 P) (.node (ob141 P) .nil .nil) (.node (ob205 P) .nil .nil)) (.node (ob109 P) (.node (ob173 P) .nil .nil) (.node (ob237 P) .nil .nil))) (.node (ob61 P) (.node (ob93 P) (.node (ob157 P) .nil .nil) (.node (ob221 P) .nil .nil)) (.node (ob125 P) (.node (ob189 P) .nil .nil) (.node (ob253 P) .nil .nil))))))) (.node (boot_o_2 P) (.node (boot_o_4 P) (.node (boot_o_8 P) (.node (ob16 P) (.node (ob32 P) (.node (ob64 P) (.node (ob128 P) (.node (ob256 P) .nil .nil) .nil) (.node (ob192 P) .nil .nil)) (.node (ob96 P) (.node (ob160 P) .nil .nil) (.node (ob224 P) .nil .nil))) (.node (ob48 P) (.node (ob80 P) (.node (ob144 P) .nil .nil) (.node (ob208 P) .nil .nil)) (.node (ob112 P) (.node (ob176 P) .nil .nil) (.node (ob240 P) .nil .nil)))) (.node (ob24 P) (.node (ob40 P) (.node (ob72 P) (.node (ob136 P) .nil .nil) (.node (ob200 P) .nil .nil)) (.node (ob104 P) (.node (ob168 P) .nil .nil) (.node (ob232 P) .nil .nil))) (.node (ob56 P) (.node (ob88 P) (.node (ob152 P) .nil .nil) (.node (ob216 P) .nil .nil)) (.node (ob120 P) (.node (ob184 P) .nil .nil) (.node (ob248 P) .nil .nil))))) (.node (ob12_8 P) (.node (ob20 P) (.node (ob36 P) (.node (ob68 P) (.node (ob132 P) .nil .nil) (.node (ob196 P) .nil .nil)) (.node (ob100 P) (.node (ob164 P) .nil .nil) (.node (ob228 P) .nil .nil))) (.node (ob52 P) (.node (ob84 P) (.node (ob148 P) .nil .nil) (.node (ob212 P) .nil .nil)) (.node (ob116 P) (.node (ob180 P) .nil .nil) (.node (ob244 P) .nil .nil)))) (.node (ob28 P) (.node (ob44 P) (.node (ob76 P) (.node (ob140 P) .nil .nil) (.node (ob204 P) .nil .nil)) (.node (ob108 P) (.node (ob172 P) .nil .nil) (.node (ob236 P) .nil .nil))) (.node (ob60 P) (.node (ob92 P) (.node (ob156 P) .nil .nil) (.node (ob220 P) .nil .nil)) (.node (ob124 P) (.node (ob188 P) .nil .nil) (.node (ob252 P) .nil .nil)))))) (.node (boot_o_6 P) (.node (boot_o_10 P) (.node (ob18 P) (.node (ob34 P) (.node (ob66 P) (.node (ob130 P) (.node (ob258 P) .nil .nil) .nil) (.node (ob194 P) .nil .nil)) (.node (ob98 P) (.node (ob162 P) .nil .nil) (.node (ob226 P) .nil .nil))) (.node (ob50 P) (.node (ob82 P) (.node (ob146 P) .nil .nil) (.node (ob210 P) .nil .nil)) (.node (ob114 P) (.node (ob178 P) .nil .nil) (.node (ob242 P) .nil .nil)))) (.node (ob26 P) (.node (ob42 P) (.node (ob74 P) (.node (ob138 P) .nil .nil) (.node (ob202 P) .nil .nil)) (.node (ob106 P) (.node (ob170 P) .nil .nil) (.node (ob234 P) .nil .nil))) (.node (ob58 P) (.node (ob90 P) (.node (ob154 P) .nil .nil) (.node (ob218 P) .nil .nil)) (.node (ob122 P) (.node (ob186 P) .nil .nil) (.node (ob250 P) .nil .nil))))) (.node (ob14 P) (.node (ob22 P) (.node (ob38 P) (.node (ob70 P) (.node (ob134 P) .nil .nil) (.node (ob198 P) .nil .nil)) (.node (ob102 P) (.node (ob166 P) .nil .nil) (.node (ob230 P) .nil .nil))) (.node (ob54 P) (.node (ob86 P) (.node (ob150 P) .nil .nil) (.node (ob214 P) .nil .nil)) (.node (ob118 P) (.node (ob182 P) .nil .nil) (.node (ob246 P) .nil .nil)))) (.node (ob30 P) (.node (ob46 P) (.node (ob78 P) (.node (ob142 P) .nil .nil) (.node (ob206 P) .nil .nil)) (.node (ob110 P) (.node (ob174 P) .nil .nil) (.node (ob238 P) .nil .nil))) (.node (ob62 P) (.node (ob94 P) (.node (ob158 P) .nil .nil) (.node (ob222 P) .nil .nil)) (.node (ob126 P) (.node (ob190 P) .nil .nil) (.node (ob254 P) .nil .nil))))))))
noncomputable def KK (P : Params) : Frag := (nat_lit 2, boot_o_2 P) :: (nat_lit 3, ob3_8 P) :: (nat_lit 11, ob11 P) :: (nat_lit 13, ob13 P) :: (nat_lit 14, ob14 P) :: (nat_lit 15, ob15 P) :: (nat_lit 17, ob17 P) :: (nat_lit 18, ob18 P) :: (nat_lit 20, ob20 P) :: (nat_lit 21, ob21 P) :: (nat_lit 22, ob22 P) :: (nat_lit 24, ob24 P) :: (nat_lit 25, ob25 P) :: (nat_lit 27, ob27 P) :: (nat_lit 28, ob28 P) :: (nat_lit 29, ob29 P) :: (nat_lit 31, ob31 P) :: (nat_lit 32, ob32 P) :: (nat_lit 34, ob34 P) :: (nat_lit 35, ob35 P) :: (nat_lit 36, ob36 P) :: (nat_lit 38, ob38 P) :: (nat_lit 39, ob39 P) :: (nat_lit 41, ob41 P) :: (nat_lit 42, ob42 P) :: (nat_lit 43, ob43 P) :: (nat_lit 45, ob45 P) :: (nat_lit 46, ob46 P) :: (nat_lit 48, ob48 P) :: (nat_lit 49, ob49 P) :: (nat_lit 50, ob50 P) :: (nat_lit 52, ob52 P) :: (nat_lit 53, ob53 P) :: (nat_lit 55, ob55 P) :: (nat_lit 56, ob56 P) :: (nat_lit 57, ob57 P) :: (nat_lit 59, ob59 P) :: (nat_lit 60, ob60 P) :: (nat_lit 62, ob62 P) :: (nat_lit 63, ob63 P) :: (nat_lit 64, ob64 P) :: (nat_lit 66, ob66 P) :: (nat_lit 67, ob67 P) :: (nat_lit 69, ob69 P) :: (nat_lit 70, ob70 P) :: (nat_lit 71, ob71 P) :: (nat_lit 73, ob73 P) :: (nat_lit 74, ob74 P) :: (nat_lit 76, ob76 P) :: (nat_lit 77, ob77 P) :: (nat_lit 78, ob78 P) :: (nat_lit 80, ob80 P) :: (nat_lit 81, ob81 P) :: (nat_lit 83, ob83 P) :: (nat_lit 84, ob84 P) :: (nat_lit 85, ob85 P) :: (nat_lit 87, ob87 P) :: (nat_lit 88, ob88 P) :: (nat_lit 90, ob90 P) :: (nat_lit 91, ob91 P) :: (nat_lit 92, ob92 P) :: (nat_lit 94, ob94 P) :: (nat_lit 95, ob95 P) :: (nat_lit 97, ob97 P) :: (nat_lit 98, ob98 P) :: (nat_lit 99, ob99 P) :: (nat_lit 101, ob101 P) :: (nat_lit 102, ob102 P) :: (nat_lit 104, ob104 P) :: (nat_lit 105, ob105 P) :: (nat_lit 106, ob106 P) :: (nat_lit 108, ob108 P) :: (nat_lit 109, ob109 P) :: (nat_lit 111, ob111 P) :: (nat_lit 112, ob112 P) :: (nat_lit 113, ob113 P) :: (nat_lit 115, ob115 P) :: (nat_lit 116, ob116 P) :: (nat_lit 118, ob118 P) :: (nat_lit 119, ob119 P) :: (nat_lit 127, ob127 P) :: (nat_lit 131, ob131 P) :: (nat_lit 133, ob133 P) :: (nat_lit 134, ob134 P) :: (nat_lit 136, ob136 P) :: (nat_lit 137, ob137 P) :: (nat_lit 138, ob138 P) :: (nat_lit 177, ob177 P) :: (nat_lit 179, ob179 P) :: (nat_lit 180, ob180 P) :: (nat_lit 182, ob182 P) :: (nat_lit 183, ob183 P) :: (nat_lit 184, ob184 P) :: (nat_lit 186, ob186 P) :: (nat_lit 187, ob187 P) :: (nat_lit 189, ob189 P) :: (nat_lit 190, ob190 P) :: (nat_lit 191, ob191 P) :: (nat_lit 194, ob194 P) :: (nat_lit 196, ob196 P) :: (nat_lit 197, ob197 P) :: (nat_lit 199, ob199 P) :: (nat_lit 200, ob200 P) :: (nat_lit 201, ob201 P) :: (nat_lit 203, ob203 P) :: (nat_lit 204, ob204 P) :: (nat_lit 206, ob206 P) :: (nat_lit 207, ob207 P) :: (nat_lit 208, ob208 P) :: (nat_lit 210, ob210 P) :: (nat_lit 211, ob211 P) :: (nat_lit 213, ob213 P) :: (nat_lit 214, ob214 P) :: (nat_lit 215, ob215 P) :: (nat_lit 217, ob217 P) :: (nat_lit 218, ob218 P) :: (nat_lit 220, ob220 P) :: (nat_lit 221, ob221 P) :: (nat_lit 222, ob222 P) :: (nat_lit 225, ob225 P) :: (nat_lit 226, ob226 P) :: (nat_lit 227, ob227 P) :: (nat_lit 229, ob229 P) :: (nat_lit 230, ob230 P) :: (nat_lit 232, ob232 P) :: (nat_lit 233, ob233 P) :: (nat_lit 234, ob234 P) :: (nat_lit 236, ob236 P) :: (nat_lit 237, ob237 P) :: (nat_lit 239, ob239 P) :: (nat_lit 240, ob240 P) :: (nat_lit 241, ob241 P) :: (nat_lit 243, ob243 P) :: (nat_lit 244, ob244 P) :: (nat_lit 246, ob246 P) :: (nat_lit 247, ob247 P) :: (nat_lit 248, ob248 P) :: (nat_lit 250, ob250 P) :: (nat_lit 251, ob251 P) :: (nat_lit 253, ob253 P) :: (nat_lit 254, ob254 P) :: (nat_lit 255, ob255 P) :: (nat_lit 258, ob258 P) :: (nat_lit 259, ob259 P) :: []
noncomputable def KA : List Addr := [2, 3, 11, 13, 14, 15, 17, 18, 20, 21, 22, 24, 25, 27, 28, 29, 31, 32, 34, 35, 36, 38, 39, 41, 42, 43, 45, 46, 48, 49, 50, 52, 53, 55, 56, 57, 59, 60, 62, 63, 64, 66, 67, 69, 70, 71, 73, 74, 76, 77, 78, 80, 81, 83, 84, 85, 87, 88, 90, 91, 92, 94, 95, 97, 98, 99, 101, 102, 104, 105, 106, 108, 109, 111, 112, 113, 115, 116, 118, 119, 127, 131, 133, 134, 136, 137, 138, 177, 179, 180, 182, 183, 184, 186, 187, 189, 190, 191, 194, 196, 197, 199, 200, 201, 203, 204, 206, 207, 208, 210, 211, 213, 214, 215, 217, 218, 220, 221, 222, 225, 226, 227, 229, 230, 232, 233, 234, 236, 237, 239, 240, 241, 243, 244, 246, 247, 248, 250, 251, 253, 254, 255, 258, 259]
end
section
noncomputable abbrev PG : Program := Challenge.rw_wf0091_01.prog
noncomputable def qv : Program := { pw with main := { pw.main with body := pw.main.body.drop 83 } }
noncomputable def looseL : List Str := pw.main.body.flatMap fun s => match s with
  | .FunctionDef (name := n) .. => if n == (Str.ofString "law") then [] else [n]
  | .Assign [.Name n _] _ _ => if startupNames.contains n then [] else [n]
  | _ => []
noncomputable def stP : Stmt → PySem.Expr × List Stmt
  | .Assign _ v _ => (v, [])
  | .If t b _ _ => (t, b)
  | .While t b _ _ => (t, b)
  | .For _ t b _ _ => (t, b)
  | _ => (.Constant .none 0 default, [])
noncomputable def exP : PySem.Expr → List PySem.Expr
  | .List es _ => es
  | .Compare l _ rs _ => l :: rs
  | .Call _ es _ _ => es
  | _ => []
noncomputable def stAt (ss : List Stmt) (k : Nat) : PySem.Expr × List Stmt := stP (ss.getD k (.Pass default))
noncomputable def exAt (e : PySem.Expr) (k : Nat) : PySem.Expr := (exP e).getD k (.Constant .none 0 default)
noncomputable def Off (tl l : List (Addr × Obj)) : Prop := ∀ p ∈ tl, ∀ q ∈ l, p.1 ≠ q.1
theorem News.sub {h₀ h : Heap} {L : Addr} {l l' : List (Addr × Obj)} (N : News h₀ L h l) (hs : ∀ p ∈ l', p ∈ l) : News h₀ L h l' := fun p hp => N p (hs p hp)
noncomputable def Con (w : World) (f : Addr) (vs : List Value) (dn un0 tk0 : Nat) (news : List (Addr × Obj)) (post : Value → List (Addr × Obj) → Nat → Prop) : Prop :=
  ∀ (mean : ExcName → Option Value) (mg mb : Str → Option Value) (dp un : Nat) (gd : Option (List Code)) (cn : Str) (cs : Scope) (a : Addr) (ccd : Value) (cl : List (Str × Addr)) (outer : List Env) (A₀ : Around) (base h₀ : Heap) (L : Addr) (m : Str → Option Value) (s : Shared) (Q E : Value → Shared → Prop),
    Below A₀ base outer h₀ → Fr h₀ L s.heap m → (KK w.params).In h₀ → News h₀ L s.heap news → Top qv looseL mean mg mb h₀ → cs.kind = .function → dp + dn < recursionLimit → un + un0 < cLine → tk0 ≤ s.toks →
    (∀ r news' h' tk', Fr h₀ L h' m → News h₀ L h' news' → s.toks ≤ tk' → post r news' tk' → Q r { s with heap := h', toks := tk' }) →
    wpAny (model Challenge.rw_wf0091_01.prog w) (ktrTop dp un gd cn cs L a ccd cl outer) (call (.ref f) vs) Q E s
theorem con_use {w : World} {f : Addr} {vs : List Value} {dn un0 tk0 : Nat} {news : List (Addr × Obj)} {post : Value → List (Addr × Obj) → Nat → Prop} {mean : ExcName → Option Value} {mg mb : Str → Option Value} {dp un : Nat} {gd : Option (List Code)} {cn : Str} {cs : Scope} {a : Addr} {ccd : Value} {cl : List (Str × Addr)} {outer : List Env} {A₀ : Around} {base h₀ : Heap} {L : Addr} {m : Str → Option Value} {s : Shared} {Q E : Value → Shared → Prop}
    (B : Below A₀ base outer h₀) (F : Fr h₀ L s.heap m) (X : (KK w.params).In h₀) (T : Top qv looseL mean mg mb h₀) (hk : cs.kind = .function) (C : Con w f vs dn un0 tk0 news post) (N : News h₀ L s.heap news) (hd : dp + dn < recursionLimit) (hu : un + un0 < cLine) (htk : tk0 ≤ s.toks)
    (ret : ∀ r news' h' tk', Fr h₀ L h' m → News h₀ L h' news' → s.toks ≤ tk' → post r news' tk' → Q r { s with heap := h', toks := tk' }) :
    wpAny (model Challenge.rw_wf0091_01.prog w) (ktrTop dp un gd cn cs L a ccd cl outer) (call (.ref f) vs) Q E s := C _ _ _ _ _ _ _ _ _ _ _ _ _ _ _ _ _ _ _ _ B F X N T hk hd hu htk ret
structure InlineOk (f : Addr) : Prop where
  mk :: (one : True)
theorem inlineOk (f : Addr) : InlineOk f := ⟨trivial⟩
theorem inl_guard {M : Model} {A : Around} {f : Addr} {vs : List Value} {Q E : Value → Shared → Prop} {s : Shared} (_ : InlineOk f) (h : wpAny M A (call (.ref f) vs) Q E s) : wpAny M A (call (.ref f) vs) Q E s := h
structure TkLow (n : Nat) : Prop where
  mk :: (one : True)
theorem tkLow (n : Nat) : TkLow n := ⟨trivial⟩
section
variable {M : Model} {A : Around} {env : Env} {E : Value → Shared → Prop} {Q : Flow → Shared → Prop} {h : Heap} {g : Array GenState} {d : Drawn} {X n : Nat} {o : OsState} {st : Stmt} {rest : List Stmt}
theorem gen_cons (_ : TkLow n) (hX : n ≤ X) (k : ∀ tk, n ≤ tk → wpAny M A (exec st env) (fun f s' => match f with | .next => wpAny M A (execs rest env) Q E s' | f => Q f s') E ⟨h, g, d, tk, o⟩) : wpAny M A (execs (st :: rest) env) Q E ⟨h, g, d, X, o⟩ := wpAny_execs_cons (k X hX)
theorem gen_nil (_ : TkLow n) (hX : n ≤ X) (k : ∀ tk, n ≤ tk → Q .next ⟨h, g, d, tk, o⟩) : wpAny M A (execs [] env) Q E ⟨h, g, d, X, o⟩ := wpAny_execs_nil (k X hX)
end
structure ItemAt (vs : List Value) (k : Int) (v : Value) : Prop where
  lo : 0 ≤ k
  hi : k < 2 ^ 63
  at' : vs[k.toNat]? = some v
section
variable {prog : Program} {w : World} {A : Around} {E : Value → Shared → Prop} {s : Shared} {h₀ : Heap} {L l : Addr}
theorem item_at {value slice : PySem.Expr} {news : List (Addr × Obj)} {us : List Value} {n : Nat} {k : Int} {u : Tok} {v : Value} {Q : Value → Shared → Prop} (N : News h₀ L s.heap news) (hm : (l, listOf us.toArray n) ∈ news) (hd : ItemAt us k v) (h : Q v s)
    (hs : subscripted slice false (.ref l) (.int k u) = operate [.ref l, .int k u] (getItem (.ref l) (.int k u)) := by with_unfolding_all rfl) :
    wpAny (model prog w) A (subscriptTail value slice (.ref l) (.int k u)) Q E s := by
  have hl : s.heap.IsList l us.toArray := ⟨_, (N _ hm).1, rfl, n, rfl⟩
  exact tail_any hl.typeIs slot_list_getitem.lookup (wpAny_getItem_list hl hd.lo hd.hi (by simpa using hd.at') h) hs
theorem item_atT {value slice : PySem.Expr} {news : List (Addr × Obj)} {us : List Value} {n : Nat} {k : Int} {u : Tok} {v : Value} {Q : Value → Shared → Prop} (N : News h₀ L s.heap news) (hm : (l, ({ cls := .type "tuple", data := .seq us.toArray n } : Obj)) ∈ news) (hd : ItemAt us k v) (h : Q v s)
    (hs : subscripted slice false (.ref l) (.int k u) = operate [.ref l, .int k u] (getItem (.ref l) (.int k u)) := by with_unfolding_all rfl) :
    wpAny (model prog w) A (subscriptTail value slice (.ref l) (.int k u)) Q E s := by
  have ht : IsTup s.heap l us.toArray := ⟨_, (N _ hm).1, rfl, n, rfl⟩
  have hj : k.toNat < us.length := (List.getElem?_eq_some_iff.mp hd.at').1
  refine item_tupleT ht (Int.le_trans (by decide) hd.lo) hd.hi (j := k.toNat) ?_ hd.at' h hs
  have h0 := hd.lo
  have h1 : k < us.length := by omega
  have h2 : ¬ k < 0 := by omega
  simp [seqIndex?, h2, h0, h1]
end
theorem lmem {α : Type} {a : α} {l : List α} (h : a ∈ l) : List.Mem a l := h
section
variable {prog : Program} {w : World} {A : Around} {E : Value → Shared → Prop} {s : Shared} {h₀ : Heap} {L : Addr} {m : Str → Option Value} {news : List (Addr × Obj)}
theorem min_two_T {a b : Int} {t u : Tok} {Q : Value → Shared → Prop} (hh : A.handled = none) (F : Fr h₀ L s.heap m) (N : News h₀ L s.heap news)
    (h : ∀ h' tk, Fr h₀ L h' m → News h₀ L h' news → s.toks ≤ tk → Q (.int (if b < a then b else a) (if b < a then u else t)) { s with heap := h', toks := tk }) :
    wpAny (model prog w) A (call (.builtin "min") [.int a t, .int b u]) Q E s :=
  wpAny_with_toks (Nat.le_refl _) (min_two_N hh F N fun h' tk F' N' hk => h h' tk F' N' hk) |> fun x => wpAny_mono x (fun _ _ q => q) (fun _ _ e => e)
end
structure Stop (p : Prop) : Prop where
  out : p
theorem execs_app (env : Env) (ys : List Stmt) : ∀ xs : List Stmt, execs (xs ++ ys) env = (execs xs env >>= fun f => match f with | .next => execs ys env | f => pure f)
  | [] => by
    show execs ys env = (pure Flow.next >>= _)
    rw [pure_bind]
  | x :: xs => by
    rw [List.cons_append, execs_cons, execs_cons, bind_assoc]
    congr 1
    funext f
    cases f with
    | next => exact execs_app env ys xs
    | _ => rw [pure_bind]
theorem execs_split {M : Model} {A : Around} {E : Value → Shared → Prop} {Q : Flow → Shared → Prop} {s : Shared} {env : Env} {body xs ys : List Stmt} (e : body = xs ++ ys)
    (h : wpAny M A (execs xs env) (fun f s' => match f with | .next => Stop (wpAny M A (execs ys env) Q E s') | f => Q f s') E s) : wpAny M A (execs body env) Q E s := by
  rw [e, execs_app]
  refine wpAny_bind (wpAny_mono h (fun f s' h' => ?_) fun _ _ e => e)
  cases f with
  | next => exact h'.out
  | _ => exact wpAny_pure h'
theorem le1 {a b k : Nat} (h : a ≤ b) : a ≤ b + k := Nat.le_add_right_of_le h
theorem dlt {a j k n : Nat} (h : a + k < n) (e : Nat.ble j k = true) : a + j < n := Nat.lt_of_le_of_lt (Nat.add_le_add_left (Nat.le_of_ble_eq_true e) a) h
theorem dlt2 {a i j k n : Nat} (h : a + k < n) (e : Nat.ble (i + j) k = true) : a + i + j < n := Nat.add_assoc a i j ▸ dlt h e
theorem dlt0 {a k n : Nat} (h : a + k < n) : a < n := Nat.lt_of_le_of_lt (Nat.le_add_right a k) h
theorem le_hop {a b c : Nat} (h : b ≤ c) (r : a ≤ b) : a ≤ c := Nat.le_trans r h
theorem sub_dn {k i : Nat} (h : i ≤ k) (n : i ≠ k) : k - (i + 1) < k - i := Nat.sub_succ_lt_self k i (Nat.lt_of_le_of_ne h n)
theorem sub_dn1 {n i : Nat} (h : i < n) : n + 1 - (i + 1) < n + 1 - i := Nat.sub_succ_lt_self (n + 1) i (Nat.lt_succ_of_lt h)
theorem tn_lt {x : Int} {n : Nat} (h : 0 ≤ x ∧ x < n) : x.toNat < n := (Int.toNat_lt h.1).2 h.2
theorem min_l {a b l : Int} (h : min a b = l) : l ≤ a ∧ l ≤ b := h ▸ ⟨Int.min_le_left .., Int.min_le_right ..⟩
theorem pq_lt {p q : Int} (hp : p = 0 ∨ p = 1) (hq : q = 0 ∨ q = 1) : 0 ≤ 2 * p + q ∧ 2 * p + q < (4 : Nat) := by rcases hp with rfl | rfl <;> rcases hq with rfl | rfl <;> decide
theorem p_lt {p : Int} (hp : p = 0 ∨ p = 1) : 0 ≤ p ∧ p < (2 : Nat) := by rcases hp with rfl | rfl <;> decide
theorem fuel {a b l c : Int} {k : Nat} (h1 : 4 ≤ a + ((k + 1 : Nat) : Int)) (h2 : 4 ≤ b + ((k + 1 : Nat) : Int)) (hm : min a b = l) (hc : l < c) : 4 ≤ c + k := by omega
theorem lt_lev {l a b a' b' x y : Int} (h1 : l < a) (h2 : l < b) (e1 : a' = a) (e2 : b' = b) (h : min a' b' ≤ x) (e : y = x) : l < y := by subst e1 e2 e; exact Int.lt_of_lt_of_le (Int.lt_min.2 ⟨h1, h2⟩) h
theorem fall {a b : Int} (h : a < b) (h4 : a < 4) : (4 - b).toNat < (4 - a).toNat := by omega
end
local macro_rules | `(tactic| walk_at "call ref") => `(tactic| (k_here; (with_reducible refine inl_guard (by assumption) ?_); refine wpAny_call ?_; k_dflt (refine' code_def ?a ?a1 ?a2 ?a3 ?a4 ?b ?b1 ?c ?d ?d1 ?e ?f ?g ?_ ?h ?h1 ?h2 ?i; (case b | b1 => exact rfl); (case c => first | assumption | rfl); (case a | a1 | a2 | a3 | a4 => k_asm); (case d | d1 => k_is); (case e => ktr_room); (case f => exact BindsTo.of_eq rfl); (case i => decide); (case g => exact locs rfl); (case h | h1 | h2 => exact rfl); k_whole; intros; (try dsimp only); (try k_fold); (conv => (arg 3; arg 1; whnf)))))
local macro_rules | `(tactic| k_upd) => `(tactic| exact Upd.head (by assumption))
local macro_rules | `(tactic| walk_at "execs cons") => `(tactic| (k_here; with_reducible refine gen_cons (by assumption) ?_ ?_; (focus ((try dsimp only); omega)); intro tk9 htk9))
local macro_rules | `(tactic| walk_at "execs nil") => `(tactic| (k_here; with_reducible refine gen_nil (by assumption) ?_ ?_; (focus ((try dsimp only); omega)); intro tk9 htk9))
local macro_rules | `(tactic| walk_at "callWith ref") => `(tactic| (k_here; k_dflt (refine' callWith_K (by k_asm) (by assumption) ?_; k_whole)))
local macro_rules | `(tactic| walk_at "sh ri") => `(tactic| (k_here; with_reducible show wpAny _ _ (subscriptTail _ _ (Value.ref _) (Value.int _ _)) _ _ _))
local macro_rules | `(tactic| walk_at "subscriptTail") => `(tactic| (walk_at "sh ri"; k_dflt (refine' item_at (by k_asm) (by k_mem) (by with_reducible assumption) ?_ (by with_unfolding_all rfl); k_whole)))
local macro_rules | `(tactic| walk_at "subscriptTail Name Constant ref int") => `(tactic| walk_at "subscriptTail")
local macro_rules | `(tactic| walk_at "subscriptTail Name Name ref int") => `(tactic| walk_at "subscriptTail")
local macro_rules | `(tactic| walk_at "subscriptTail Name BinOp ref int") => `(tactic| walk_at "subscriptTail")
local macro_rules | `(tactic| walk_at "subscriptTail") => `(tactic| (walk_at "sh ri"; k_dflt (refine' item_atT (by k_asm) (by k_mem) (by refine' ItemAt.mk (by decide) (by decide) (by exact rfl)) ?_ (by with_unfolding_all rfl); k_whole)))
local macro_rules | `(tactic| k_mem) => `(tactic| first | with_reducible assumption | ((with_reducible refine lmem ?_); with_reducible assumption))
local macro_rules | `(tactic| walk_at "eval Name") => `(tactic| (k_here; name_kind "local"; k_dflt (refine' ld ?k1 ?k2 ?_; (case k1 => k_asm); (case k2 => with_unfolding_all assumption); k_whole)))
local macro_rules | `(tactic| walk_at "call builtin:min") => `(tactic| ((with_reducible rename News _ _ _ _ => N'); (with_unfolding_all apply min_two_T); (case hh => with_unfolding_all rfl); (case N => exact N'); (case F => assumption); clear N'; intro _ _ _ _ htkm; (try dsimp only at htkm)))
local macro_rules | `(tactic| k_all) => `(tactic| with_reducible assumption)
local macro_rules | `(tactic| walk_at "subscriptTail") => `(tactic| (walk_at "sh ri"; k_dflt (refine' kda_item (knd := PySem.intKind _ _) (by k_asm) (by k_mem) (by with_reducible assumption) (by exact intKind_is _ _ _ _) (by with_reducible assumption) ?_ (by with_unfolding_all rfl) (by intro _; with_unfolding_all rfl); k_whole)))
local macro_rules | `(tactic| omega) => `(tactic| first | with_reducible assumption | with_reducible exact Nat.le_refl _ | ((repeat with_reducible first | assumption | exact Nat.le_refl _ | refine le1 ?_ | refine le_hop (by assumption) ?_); done) | decide +kernel | with_reducible exact dlt (by assumption) rfl | with_reducible exact dlt2 (by assumption) rfl | with_reducible exact dlt0 (by assumption) | with_reducible exact Nat.ne_of_lt (by assumption) | with_reducible exact Nat.ne_of_gt (by assumption) | with_reducible exact sub_dn (by assumption) (by assumption) | with_reducible exact sub_dn1 (by assumption) | ((with_reducible refine tn_lt ?_); assumption) | lia | omega +splitDisjunctions)
local macro_rules | `(tactic| wrow_steps) => `(tactic| ((try ((with_reducible show PySem.wpAny _ _ _ _ _ _); k_fold)); k_steps))
section
section
variable {tb : String → Option Builtin} {p : Program} {w : World} {n₀ : Nat} {ann : Option Value} {b : Nat}
theorem segGo_add : ∀ {n m : Nat} {s s₁ : Shared} {t t₁ : Thread}, segGo tb p w n₀ ann b n s t = some (s₁, t₁) → segGo tb p w n₀ ann b (m + n) s t = segGo tb p w n₀ ann b m s₁ t₁
  | 0, m, s, s₁, t, t₁, h => by
    obtain ⟨rfl, rfl⟩ : s = s₁ ∧ t = t₁ := by simpa [segGo] using h
    rfl
  | n + 1, m, s, s₁, t, t₁, h => by
    show segGo tb p w n₀ ann b ((m + n) + 1) s t = _
    unfold segGo at h
    conv => lhs; unfold segGo
    cases he : endAt b t with
    | some f => rw [he] at h; cases h
    | none =>
      rw [he] at h
      cases hk : stepOk n₀ ann t with
      | false => rw [hk] at h; cases h
      | true =>
        rw [hk] at h
        cases hs : step (denote tb) p w s t with
        | halt o s₂ => rw [hs] at h; cases h
        | go s₂ t₂ => rw [hs] at h; exact segGo_add h
theorem segGo_step {n : Nat} {s s₂ : Shared} {t t₂ : Thread} (he : endAt b t = none) (hk : stepOk n₀ ann t = true) (hs : step (denote tb) p w s t = .go s₂ t₂) : segGo tb p w n₀ ann b (n + 1) s t = segGo tb p w n₀ ann b n s₂ t₂ := by
  conv => lhs; unfold segGo
  rw [he, hk, hs]
end
noncomputable def Det (w : World) {α : Type} (n : Nat) (m : Sem α) (s : Shared) (p : Pos) (a : α) (s' : Shared) (p' : Pos) : Prop :=
  ∀ (K : α → Sem Fin) (H : Value → Sem Fin) (gd : Bool → Bool) (lv : List Value → List Value),
    segGo treeTable pw w 11 (some (.ref 6)) 1 n s ⟨m.wrap K H gd lv, cB, p, fB⟩ = some (s', ⟨K a, cB, p', fB⟩)
section
variable {w : World} {α β : Type} {n n' : Nat} {s s₁ s' : Shared} {p p₁ p' : Pos} {a : α}
theorem Det.pure : Det w 0 (.pure a) s p a s p := fun _ _ _ _ => rfl
theorem Det.wrap {m : Sem α} (h : Det w n m s p a s₁ p₁) {K : α → Sem β} {b : β} (H : Value → Sem β) (gd lv) (k : Det w n' (K a) s₁ p₁ b s' p') : Det w (n' + n) (m.wrap K H gd lv) s p b s' p' := by
  intro K' H' gd' lv'
  rw [Sem.wrap_wrap, segGo_add (h _ _ _ _)]
  exact k _ _ _ _
theorem Det.bind {m : Sem α} {f : α → Sem β} {b : β} (h : Det w n m s p a s₁ p₁) (k : Det w n' (f a) s₁ p₁ b s' p') : Det w (n' + n) (m >>= f) s p b s' p' := by
  rw [Sem.bind_eq_wrap']
  exact h.wrap _ _ _ k
theorem Det.keep {m : Sem α} (vs : List Value) (h : Det w n m s p a s' p') : Det w n (m.keep vs) s p a s' p' := by
  rw [Sem.keep_eq_wrap]
  have := h.wrap (K := Sem.pure) Sem.raise id (vs ++ ·) (Det.pure (a := a))
  rwa [Nat.zero_add] at this
theorem Det.holding {m : Sem α} (vs : List Value) (h : Det w n m s p a s' p') : Det w n (PySem.holding vs m) s p a s' p' := by
  unfold PySem.holding
  split
  · exact h
  · exact h.keep _
theorem Det.onRaise {m : Sem α} (f : Value → Sem Unit) (h : Det w n m s p a s' p') : Det w n (m.onRaise f) s p a s' p' := by
  rw [Sem.onRaise_eq_wrap]
  have := h.wrap (K := Sem.pure) (fun e => (f e).bind fun _ => .raise e) id id (Det.pure (a := a))
  rwa [Nat.zero_add] at this
end
section
variable {w : World} {α : Type} {n : Nat} {p p' q : Pos} {a : α} {s' : Shared} {H : Heap} {gs : Array GenState} {d : Drawn} {tk : Nat} {os : OsState}
theorem Det.rule {t : String} {k : Unit → Sem α} (h : Det w n (k ()) ⟨H, gs, d, tk, os⟩ p a s' p') : Det w (n + 1) (.rule t k) ⟨H, gs, d, tk, os⟩ p a s' p' := fun K E gd lv => h K E gd lv
theorem Det.at {k : Unit → Sem α} (h : Det w n (k ()) ⟨H, gs, d, tk, os⟩ q a s' p') : Det w (n + 1) (.at q k) ⟨H, gs, d, tk, os⟩ p a s' p' := fun K E gd lv => h K E gd lv
theorem Det.load {b : Addr} {part : Option Value} {k : Obj → Sem α} {o : Obj} (hb : H.get? b = some o) (h : Det w n (k o) ⟨H, gs, d, tk, os⟩ p a s' p') : Det w (n + 1) (.load b part k) ⟨H, gs, d, tk, os⟩ p a s' p' := by
  intro K E gd lv
  exact (segGo_step (t := ⟨.load b part fun x => (k x).wrap K E gd lv, cB, p, fB⟩) rfl rfl (by simp only [step, hb])).trans (h K E gd lv)
theorem Det.update {b : Addr} {part : Option Value} {f : Obj → Obj} {k : Unit → Sem α} {o : Obj} (hb : H.get? b = some o) (h11 : 11 ≤ b) (h : Det w n (k ()) ⟨H.update b f, gs, d, tk, os⟩ p a s' p') : Det w (n + 1) (.update b part f k) ⟨H, gs, d, tk, os⟩ p a s' p' := by
  intro K E gd lv
  have e1 : stepOk 11 (some (.ref 6)) ⟨.update b part f fun x => (k x).wrap K E gd lv, cB, p, fB⟩ = true := by
    have : Nat.ble 11 b = true := Nat.ble_eq.mpr h11
    show (_ && (Nat.ble 11 b || _ || _ || _)) = true
    rw [this]; rfl
  have e2 : (H.get? b).isSome = true := by rw [hb]; rfl
  exact (segGo_step (t := ⟨.update b part f fun x => (k x).wrap K E gd lv, cB, p, fB⟩) rfl e1 (by simp only [step, e2, if_true])).trans (h K E gd lv)
theorem Det.alloc {o : Obj} {k : Addr → Sem α} (h : Det w n (k H.objs.size) ⟨H.push o, gs, d, tk, os⟩ p a s' p') : Det w (n + 1) (.alloc o k) ⟨H, gs, d, tk, os⟩ p a s' p' := fun K E gd lv => h K E gd lv
theorem Det.fresh {k : Tok → Sem α} (h : Det w n (k tk) ⟨H, gs, d, tk + 1, os⟩ p a s' p') : Det w (n + 1) (.fresh k) ⟨H, gs, d, tk, os⟩ p a s' p' := fun K E gd lv => h K E gd lv
end
end
section
noncomputable def hv (i : Int) : Int := if ((if i < 0 then -((i.natAbs : Int) % ((2 ^ 61 - 1 : Nat) : Int)) else (i.natAbs : Int) % ((2 ^ 61 - 1 : Nat) : Int)) == -1) = true then -2 else if i < 0 then -((i.natAbs : Int) % ((2 ^ 61 - 1 : Nat) : Int)) else (i.natAbs : Int) % ((2 ^ 61 - 1 : Nat) : Int)
theorem hv_eq {i : Int} (h0 : 0 ≤ i) (h1 : i < 1000000) : hv i = i := by
  have e : ((2 ^ 61 - 1 : Nat) : Int) = 2305843009213693951 := by decide
  have h2 : ¬ i < 0 := by omega
  have h3 : (i.natAbs : Int) % 2305843009213693951 = i := by omega
  unfold hv
  rw [e, if_neg h2, h3]
  have h4 : (i == -1) = false := by rw [beq_eq_false_iff_ne]; omega
  rw [h4]; simp
theorem int_hash_F (w : World) (i : Int) (t : Tok) (refuse : Sem Value) (H : Heap) (gs : Array GenState) (d : Drawn) (tk : Nat) (os : OsState) (p : Pos) : Det (w.withFollow "special-get-raises" false) 5 (callSpecialIfBoundUnlessNone? (.int i t) (Str.ofString "__hash__") refuse) ⟨H, gs, d, tk, os⟩ p (some (.int (hv i) tk)) ⟨H, gs, d, tk + 1, os⟩ p := by
  intro K E gd lv
  kernel_rfl
theorem int_hash_T (w : World) (i : Int) (t : Tok) (refuse : Sem Value) (H : Heap) (gs : Array GenState) (d : Drawn) (tk : Nat) (os : OsState) (p : Pos) : Det (w.withFollow "special-get-raises" true) 5 (callSpecialIfBoundUnlessNone? (.int i t) (Str.ofString "__hash__") refuse) ⟨H, gs, d, tk, os⟩ p (some (.int (hv i) tk)) ⟨H, gs, d, tk + 1, os⟩ p := by
  intro K E gd lv
  kernel_rfl
theorem int_hash (w : World) (i : Int) (t : Tok) (refuse : Sem Value) (H : Heap) (gs : Array GenState) (d : Drawn) (tk : Nat) (os : OsState) (p : Pos) : Det w 5 (callSpecialIfBoundUnlessNone? (.int i t) (Str.ofString "__hash__") refuse) ⟨H, gs, d, tk, os⟩ p (some (.int (hv i) tk)) ⟨H, gs, d, tk + 1, os⟩ p :=
  byRow2 "special-get-raises" (P := fun w => Det w 5 (callSpecialIfBoundUnlessNone? (.int i t) (Str.ofString "__hash__") refuse) ⟨H, gs, d, tk, os⟩ p (some (.int (hv i) tk)) ⟨H, gs, d, tk + 1, os⟩ p) (fun w => int_hash_F w i t refuse H gs d tk os p) (fun w => int_hash_T w i t refuse H gs d tk os p) w
end
section
theorem Det.bind0 {w : World} {α β : Type} {n : Nat} {s s₁ s' : Shared} {p p₁ p' : Pos} {a : α} {m : Sem α} {f : α → Sem β} {b : β} (h : Det w n m s p a s₁ p₁) (k : Det w 0 (f a) s₁ p₁ b s' p') : Det w n (m >>= f) s p b s' p' := by
  have := h.bind k
  rwa [Nat.zero_add] at this
theorem Det.bindU {w : World} {β : Type} {n n' : Nat} {s s₁ s' : Shared} {p p₁ p' : Pos} {m : Sem Unit} {f : Unit → Sem β} {b : β} (h : Det w n m s p () s₁ p₁) (k : Det w n' (f ()) s₁ p₁ b s' p') : Det w (n' + n) (m >>= f) s p b s' p' := h.bind k
noncomputable def hp (l : List Obj) : Heap := ⟨l.toArray, {}⟩
theorem hp_size (l : List Obj) : (hp l).objs.size = l.length := by simp [hp]
theorem hp_push (l : List Obj) (o : Obj) : (hp l).push o = hp (l ++ [o]) := by
  unfold hp Heap.push; simp
theorem hp_get (l r : List Obj) (es : List DictEntry) : (hp (l ++ dO es :: r)).get? l.length = some (dO es) := by
  unfold Heap.get? hp
  have : (l ++ dO es :: r).toArray[l.length]? = some (dO es) := by simp
  simp only [this]; rfl
theorem hp_upd (l r : List Obj) (o : Obj) (f : Obj → Obj) : (hp (l ++ o :: r)).update l.length f = hp (l ++ f o :: r) := by
  unfold hp Heap.update
  show Heap.mk _ _ = Heap.mk _ _
  refine congrArg (Heap.mk · {}) ?_
  apply Array.ext_getElem?
  intro i
  rw [Array.getElem?_modify]
  by_cases h : i = l.length
  · subst h; simp
  · rw [if_neg (fun e => h e.symm)]
    simp only [List.getElem?_toArray]
    by_cases h2 : i < l.length
    · rw [List.getElem?_append_left h2, List.getElem?_append_left h2]
    · rw [List.getElem?_append_right (by omega), List.getElem?_append_right (by omega)]
      obtain ⟨k, hk⟩ : ∃ k, i - l.length = k + 1 := ⟨i - l.length - 1, by omega⟩
      rw [hk]; rfl
theorem push_dO (es : List DictEntry) (e : DictEntry) : Obj.mapDictKeys (·.push e) (dO es) = dO (es ++ [e]) := by
  unfold dO Obj.mapDictKeys; simp
theorem places_nil (es : List DictEntry) (h : Int) (hf : ∀ e ∈ es, e.hash ≠ h) : placesWithHash es.toArray.size (fun i => es.toArray[i]?.map (·.hash)) h = [] := by
  unfold placesWithHash
  rw [List.filter_eq_nil_iff]
  intro i _
  show ¬ (((es.toArray[i]?).map (·.hash) == some h) = true)
  rw [List.getElem?_toArray]
  cases e : es[i]? with
  | none => simp
  | some x =>
    have := hf x (List.mem_of_getElem? e)
    simp [this]
section
variable {w : World} {gs : Array GenState} {d : Drawn} {tk : Nat} {os : OsState} {p : Pos}
theorem pyHash_int {i : Int} {t : Tok} {H : Heap} (h0 : 0 ≤ i) (h1 : i < 1000000) : Det w 5 (pyHash (.int i t)) ⟨H, gs, d, tk, os⟩ p i ⟨H, gs, d, tk + 1, os⟩ p := by
  have e1 : specialOf (.int i t) (Str.ofString "__hash__") = .pure (some (.builtin "int.__hash__")) := by kernel_rfl
  show Det w 5 (pyHashByItsType (.int i t)) _ _ _ _ _
  unfold pyHashByItsType
  refine Det.bind (n := 0) (n' := 5) (a := ()) Det.pure ?_
  refine Det.bind (n := 0) (n' := 5) (a := some (.builtin "int.__hash__")) (show Det w 0 (specialOf (.int i t) (Str.ofString "__hash__")) _ _ _ _ _ from e1 ▸ Det.pure) ?_
  refine Det.bind (n := 0) (n' := 5) (a := some (.builtin "int.__hash__")) (show Det w 0 (specialOf (.int i t) (Str.ofString "__hash__")) _ _ _ _ _ from e1 ▸ Det.pure) ?_
  refine Det.bind (n := 5) (n' := 0) (int_hash w i t _ H gs d tk os p) ?_
  show Det w 0 (pyHashByItsType.reduced (hv i)) _ p i _ p
  rw [hv_eq h0 h1]
  unfold pyHashByItsType.reduced
  have c1 : (decide (-(2 ^ 63 : Int) ≤ i) && decide (i < 2 ^ 63)) = true := by
    simp only [Bool.and_eq_true, decide_eq_true_eq]; constructor <;> omega
  have c2 : (i == -1) = false := by rw [beq_eq_false_iff_ne]; omega
  rw [c1, c2]
  exact Det.pure
theorem find_none {D : Addr} {es : List DictEntry} {i : Int} {t : Tok} {H : Heap} (hD : H.get? D = some (dO es)) (hf : ∀ e ∈ es, e.hash ≠ i) : Det w 1 (dictFind D (.int i t) i) ⟨H, gs, d, tk, os⟩ p none ⟨H, gs, d, tk, os⟩ p := by
  unfold dictFind
  refine Det.holding _ ?_
  refine (Det.bind (n := 1) (n' := 0) (Det.load (n := 0) (k := fun o => (match o.data with | .dict es _ => pure es | _ => PySem.unsupported "internal:not-a-dict" : Sem (Array DictEntry))) hD (Det.pure (a := es.toArray))) ?_)
  show Det w 0 (if _ then _ else _) _ _ _ _ _
  rw [places_nil es i hf]
  exact Det.pure
theorem updKeys {D : Addr} {l r : List Obj} {es : List DictEntry} {e : DictEntry} {part : Option Value} (hl : l.length = D) (h11 : 11 ≤ D) (hz : es.length ≤ 1000) : Det w 3 (updateDictKeys D (·.push e) part) ⟨hp (l ++ dO es :: r), gs, d, tk, os⟩ p () ⟨hp (l ++ dO (es ++ [e]) :: r), gs, d, tk, os⟩ p := by
  subst hl
  unfold updateDictKeys
  refine Det.load (n := 2) (hp_get l r es) ?_
  refine Det.update (n := 1) (hp_get l r es) h11 ?_
  rw [hp_upd, push_dO]
  refine Det.bind (n := 0) (n' := 1) Det.pure ?_
  unfold lookBehind
  refine Det.bind (n := 1) (n' := 0) (Det.load (n := 0) (hp_get l r _) Det.pure) ?_
  have : ¬ ((es ++ [e]).toArray.size > sizeLine + 1) := by
    have : sizeLine = 16777216 := by decide
    simp; omega
  have q : (dO (es ++ [e])).data.pastItsLine = none := by
    show (if (es ++ [e]).toArray.size > sizeLine + 1 then _ else _) = _
    rw [if_neg this]
  rw [q]
  exact Det.pure
theorem set_new {D : Addr} {l r : List Obj} {es : List DictEntry} {i : Int} {t : Tok} {v : Value} (hl : l.length = D) (h11 : 11 ≤ D) (hz : es.length ≤ 1000) (h0 : 0 ≤ i) (h1 : i < 1000000) (hf : ∀ e ∈ es, e.hash ≠ i) :
    Det w 10 (dictSet D (.int i t) v) ⟨hp (l ++ dO es :: r), gs, d, tk, os⟩ p () ⟨hp (l ++ dO (es ++ [⟨i, .int i t, v⟩]) :: r), gs, d, tk + 1, os⟩ p := by
  unfold dictSet
  refine Det.holding _ ?_
  refine Det.bind (n := 5) (n' := 5) (pyHash_int h0 h1) ?_
  unfold dictSetHashed
  refine Det.holding _ ?_
  refine Det.bind (n := 1) (n' := 4) (find_none (hl ▸ hp_get l r es) hf) ?_
  exact Det.rule (n := 3) (updKeys hl h11 hz)
theorem put_new {D : Addr} {l r : List Obj} {es : List DictEntry} {i : Int} {t : Tok} {v : Value} (hl : l.length = D) (h11 : 11 ≤ D) (hz : es.length ≤ 1000) (hf : ∀ e ∈ es, e.hash ≠ i) :
    Det w 4 (dictPut D i (.int i t) v) ⟨hp (l ++ dO es :: r), gs, d, tk, os⟩ p () ⟨hp (l ++ dO (es ++ [⟨i, .int i t, v⟩]) :: r), gs, d, tk, os⟩ p := by
  unfold dictPut
  refine Det.bind (n := 1) (n' := 3) (find_none (hl ▸ hp_get l r es) hf) ?_
  exact updKeys hl h11 hz
end
end
section
theorem entsB_len (st : Nat) : ∀ (t : Nat) (l : List (Int × Str)), (entsB st t l).length = l.length
  | _, [] => rfl
  | t, (i, s) :: l => by simp [entsB, entsB_len st (t + st) l]
noncomputable def ascB : Int → List (Int × Str) → Bool
  | _, [] => true
  | lo, (i, s) :: l => decide (lo < i) && decide (i < 1000000) && ascB i l
noncomputable def endB : Int → List (Int × Str) → Int
  | lo, [] => lo
  | _, (i, s) :: l => endB i l
theorem asc_end : ∀ {lo : Int} {l : List (Int × Str)}, ascB lo l = true → lo ≤ endB lo l
  | lo, [], _ => Int.le_refl _
  | lo, (i, s) :: l, h => by
    simp only [ascB, Bool.and_eq_true, decide_eq_true_eq] at h
    have := asc_end h.2
    show lo ≤ endB i l
    omega
theorem asc_ents {st : Nat} : ∀ {t : Nat} {lo : Int} {l : List (Int × Str)}, ascB lo l = true → ∀ e ∈ entsB st t l, e.hash ≤ endB lo l
  | _, _, [], _, e, he => by cases he
  | t, lo, (i, s) :: l, h, e, he => by
    simp only [ascB, Bool.and_eq_true, decide_eq_true_eq] at h
    rcases List.mem_cons.mp he with rfl | he
    · exact asc_end h.2
    · exact asc_ents h.2 e he
theorem asc_app : ∀ {lo : Int} {l r : List (Int × Str)}, ascB lo (l ++ r) = true → ascB lo l = true ∧ ascB (endB lo l) r = true
  | lo, [], r, h => ⟨rfl, h⟩
  | lo, (i, s) :: l, r, h => by
    simp only [List.cons_append, ascB, Bool.and_eq_true, decide_eq_true_eq] at h ⊢
    have := asc_app h.2
    exact ⟨⟨h.1, this.1⟩, this.2⟩
noncomputable abbrev prS (q : Pos) (x : Int × Str) : Sem Value × Sem Value := (mkInt x.1, do let x ← mkText x.2; standAt q; pure x)
section
variable {w : World} {gs : Array GenState} {d : Drawn} {tk : Nat} {os : OsState} {q p : Pos}
theorem ev_key {i : Int} {H : Heap} : Det w 1 (mkInt i) ⟨H, gs, d, tk, os⟩ q (.int i tk) ⟨H, gs, d, tk + 1, os⟩ q := Det.fresh (n := 0) Det.pure
theorem ev_val {s : Str} {H : Heap} : Det w 2 (do let x ← mkText s; standAt q; pure x : Sem Value) ⟨H, gs, d, tk, os⟩ p (.str s tk) ⟨H, gs, d, tk + 1, os⟩ q :=
  Det.bind (n := 1) (n' := 1) (Det.fresh (n := 0) Det.pure) (Det.bind (n := 1) (n' := 0) (Det.at (n := 0) Det.pure) Det.pure)
theorem long_loop {l : List Obj} (h11 : 11 ≤ l.length) : ∀ {L : List (Int × Str)} {tk : Nat} {lo : Int} {es : List DictEntry}, 0 ≤ lo → ascB lo L = true → (∀ e ∈ es, e.hash ≤ lo) → es.length + L.length ≤ 1000 →
    Det w (13 * L.length) (forIn (L.map (prS q)) PUnit.unit fun x r => do
      let kv ← x.1
      let vv ← PySem.holding [kv] x.2
      PySem.holding [kv, vv] (dictSet l.length kv vv)
      pure (ForInStep.yield PUnit.unit)) ⟨hp (l ++ [dO es]), gs, d, tk, os⟩ q PUnit.unit ⟨hp (l ++ [dO (es ++ entsB 3 tk L)]), gs, d, tk + 3 * L.length, os⟩ q
  | [], tk, lo, es, h0, ha, he, hz => by
    rw [List.map_nil, List.forIn_nil, entsB, List.append_nil]
    exact Det.pure
  | (i, s) :: L, tk, lo, es, h0, ha, he, hz => by
    simp only [ascB, Bool.and_eq_true, decide_eq_true_eq] at ha
    rw [List.length_cons] at hz
    rw [List.map_cons, List.forIn_cons, List.length_cons, show 13 * (L.length + 1) = 13 * L.length + 13 by omega]
    have step : Det w 13 (do
        let kv ← mkInt i
        let vv ← PySem.holding [kv] (do let x ← mkText s; standAt q; pure x)
        PySem.holding [kv, vv] (dictSet l.length kv vv)
        pure (ForInStep.yield PUnit.unit)) ⟨hp (l ++ [dO es]), gs, d, tk, os⟩ q (ForInStep.yield PUnit.unit) ⟨hp (l ++ [dO (es ++ [⟨i, .int i tk, .str s (tk + 1)⟩])]), gs, d, tk + 1 + 1 + 1, os⟩ q := by
      refine Det.bind (n := 1) (n' := 12) ev_key (Det.bind (n := 2) (n' := 10) (Det.holding _ ev_val) (Det.bindU (n := 10) (n' := 0) (Det.holding _ ?_) Det.pure))
      exact set_new (r := []) rfl h11 (by omega) (by omega) ha.1.2 fun e hm => by have := he e hm; omega
    refine Det.bind (n := 13) step ?_
    have := long_loop h11 (L := L) (tk := tk + 3) (lo := i) (es := es ++ [⟨i, .int i tk, .str s (tk + 1)⟩]) (by omega) ha.2 (fun e hm => ?_) (by simp; omega)
    · rw [List.append_assoc] at this
      have e2 : tk + 3 * (L.length + 1) = tk + 3 + 3 * L.length := by omega
      rw [e2]
      exact this
    · rcases List.mem_append.mp hm with hm | hm
      · have := he e hm; omega
      · rw [List.mem_singleton.mp hm]; exact Int.le_refl _
theorem sub_long {l : List Obj} {L : List (Int × Str)} {tk : Nat} {lo : Int} (h11 : 11 ≤ l.length) (h15 : 15 < L.length) (h0 : 0 ≤ lo) (ha : ascB lo L = true) (hz : L.length ≤ 1000) :
    Det w (13 * L.length + 2) (subDict (L.map (prS q))) ⟨hp l, gs, d, tk, os⟩ q l.length ⟨hp (l ++ [dO (entsB 3 tk L)]), gs, d, tk + 3 * L.length, os⟩ q := by
  unfold subDict
  refine Det.bind (n := 1) (n' := 13 * L.length + 1) (Det.alloc (n := 0) Det.pure) ?_
  rw [hp_push, hp_size]
  refine Det.bind0 (a := ()) (Det.holding _ ?_) Det.pure
  rw [if_neg (by rw [List.length_map]; omega)]
  refine Det.bind (n := 1) (n' := 13 * L.length) (Det.rule (n := 0) Det.pure) ?_
  have := long_loop (w := w) (gs := gs) (d := d) (os := os) (q := q) h11 (L := L) (tk := tk) (es := []) h0 ha (fun e he => nomatch he) (by simpa using hz)
  exact Det.bind0 this Det.pure
noncomputable def valsB : Nat → List (Int × Str) → List (Value × Value)
  | _, [] => []
  | t, (i, s) :: l => (.int i t, .str s (t + 1)) :: valsB (t + 2) l
theorem ev_pairs {H : Heap} : ∀ {L : List (Int × Str)} {tk : Nat}, Det w (3 * L.length) (evalPairs (L.map (prS q))) ⟨H, gs, d, tk, os⟩ q (valsB tk L) ⟨H, gs, d, tk + 2 * L.length, os⟩ q
  | [], tk => Det.pure
  | (i, s) :: L, tk => by
    rw [List.map_cons, List.length_cons, show 3 * (L.length + 1) = 3 * L.length + 2 + 1 by omega]
    unfold evalPairs
    refine Det.bind (n := 1) (n' := 3 * L.length + 2) ev_key (Det.bind (n := 2) (n' := 3 * L.length) (Det.holding _ ev_val) ?_)
    have : Det w (3 * L.length) (evalPairs (L.map (prS q))) ⟨H, gs, d, tk + 1 + 1, os⟩ q (valsB (tk + 1 + 1) L) ⟨H, gs, d, tk + 1 + 1 + 2 * L.length, os⟩ q := ev_pairs
    rw [show tk + 2 * (L.length + 1) = tk + 1 + 1 + 2 * L.length by omega]
    exact Det.bind0 (Det.holding _ this) Det.pure
theorem short_loop {l : List Obj} (h11 : 11 ≤ l.length) : ∀ {L : List (Int × Str)} {t tk : Nat} {lo : Int} {es : List DictEntry}, 0 ≤ lo → ascB lo L = true → (∀ e ∈ es, e.hash ≤ lo) → es.length + L.length ≤ 1000 →
    Det w (10 * L.length) (forIn (valsB t L) PUnit.unit fun x r => do
      dictSet l.length x.1 x.2
      pure (ForInStep.yield PUnit.unit)) ⟨hp (l ++ [dO es]), gs, d, tk, os⟩ q PUnit.unit ⟨hp (l ++ [dO (es ++ entsB 2 t L)]), gs, d, tk + L.length, os⟩ q
  | [], t, tk, lo, es, h0, ha, he, hz => by
    rw [valsB, List.forIn_nil, entsB, List.append_nil]
    exact Det.pure
  | (i, s) :: L, t, tk, lo, es, h0, ha, he, hz => by
    simp only [ascB, Bool.and_eq_true, decide_eq_true_eq] at ha
    rw [List.length_cons] at hz
    rw [valsB, List.forIn_cons, List.length_cons, show 10 * (L.length + 1) = 10 * L.length + 10 by omega]
    have step : Det w 10 (do
        dictSet l.length (.int i t) (.str s (t + 1))
        pure (ForInStep.yield PUnit.unit)) ⟨hp (l ++ [dO es]), gs, d, tk, os⟩ q (ForInStep.yield PUnit.unit) ⟨hp (l ++ [dO (es ++ [⟨i, .int i t, .str s (t + 1)⟩])]), gs, d, tk + 1, os⟩ q :=
      Det.bind (n := 10) (n' := 0) (set_new (r := []) rfl h11 (by omega) (by omega) ha.1.2 fun e hm => by have := he e hm; omega) Det.pure
    refine Det.bind (n := 10) step ?_
    have := short_loop h11 (L := L) (t := t + 2) (tk := tk + 1) (lo := i) (es := es ++ [⟨i, .int i t, .str s (t + 1)⟩]) (by omega) ha.2 (fun e hm => ?_) (by simp; omega)
    · rw [List.append_assoc] at this
      have e2 : tk + (L.length + 1) = tk + 1 + L.length := by omega
      rw [e2]
      exact this
    · rcases List.mem_append.mp hm with hm | hm
      · have := he e hm; omega
      · rw [List.mem_singleton.mp hm]; exact Int.le_refl _
theorem sub_short {l : List Obj} {L : List (Int × Str)} {tk : Nat} {lo : Int} (h11 : 11 ≤ l.length) (h15 : L.length ≤ 15) (h0 : 0 ≤ lo) (ha : ascB lo L = true) :
    Det w (13 * L.length + 1) (subDict (L.map (prS q))) ⟨hp l, gs, d, tk, os⟩ q l.length ⟨hp (l ++ [dO (entsB 2 tk L)]), gs, d, tk + 3 * L.length, os⟩ q := by
  unfold subDict
  refine Det.bind (n := 1) (n' := 13 * L.length) (Det.alloc (n := 0) Det.pure) ?_
  rw [hp_push, hp_size]
  refine Det.bind0 (a := ()) (Det.holding _ ?_) Det.pure
  rw [if_pos (by rw [List.length_map]; omega)]
  rw [show 13 * L.length = 10 * L.length + 3 * L.length by omega]
  refine Det.bind (n := 3 * L.length) (n' := 10 * L.length) ev_pairs ?_
  refine Det.holding _ ?_
  have := short_loop (w := w) (gs := gs) (d := d) (os := os) (q := q) h11 (L := L) (t := tk) (tk := tk + 2 * L.length) (es := []) h0 ha (fun e he => nomatch he) (by simp; omega)
  rw [show tk + 3 * L.length = tk + 2 * L.length + L.length by omega]
  exact Det.bind0 this Det.pure
end
end
section
theorem iter_of_dict : typeLookup (.type "dict") (Str.ofString "__iter__") = .pure (some (.builtin "dict.__iter__")) := by kernel_rfl
theorem dict_sub : isSubtype (.type "dict") (.type "dict") = .pure true := by kernel_rfl
section
variable {w : World} {gs : Array GenState} {d : Drawn} {tk : Nat} {os : OsState} {q p : Pos}
theorem entsD {D : Addr} {es : List DictEntry} {H : Heap} (h : H.get? D = some (dO es)) : Det w 1 (dictEntries D) ⟨H, gs, d, tk, os⟩ p es.toArray ⟨H, gs, d, tk, os⟩ p := Det.load (n := 0) h Det.pure
theorem epochD {D : Addr} {es : List DictEntry} {H : Heap} (h : H.get? D = some (dO es)) : Det w 1 (dictEpoch D) ⟨H, gs, d, tk, os⟩ p es.length ⟨H, gs, d, tk, os⟩ p := Det.load (n := 0) h Det.pure
theorem get_last (l r : List Obj) (o : Obj) (es : List DictEntry) : (hp (l ++ o :: (r ++ [dO es]))).get? (l ++ o :: r).length = some (dO es) := by
  have := hp_get (l ++ o :: r) [] es
  rwa [List.append_assoc, List.cons_append] at this
theorem merge_loop {l r : List Obj} {st : Nat} {D : Addr} (hD : l.length = D) (h11 : 11 ≤ D) {S : Addr} {all : List DictEntry} (hS : (∀ o, (hp (l ++ o :: (r ++ [dO all]))).get? S = some (dO all))) : ∀ {L : List (Int × Str)} {t : Nat} {lo : Int} {es pre : List DictEntry}, ascB lo L = true → (∀ e ∈ es, e.hash ≤ lo) → es.length + L.length ≤ 1000 → all = pre ++ entsB st t L →
    Det w (6 * L.length) (forIn (List.range' pre.length L.length) PUnit.unit fun i __s => do
      let __x ← dictEntries S
      match __x[i]? with
        | some e => do
          PySem.holding [e.key, e.val] (do
            if false = true then do
              if (← dictFind D e.key e.hash).isSome = true then do
                rule "dict.merge.duplicate-key"
                raiseNew (← newExc (.type "KeyError") [e.key])
            dictPut D e.hash e.key e.val)
          if (← dictEpoch S) != all.length then do unsupported "dict.changed-during-merge"
          pure (ForInStep.yield PUnit.unit)
        | _ => do
          let __r ← unsupported "dict.changed-during-merge"
          pure __r) ⟨hp (l ++ dO es :: (r ++ [dO all])), gs, d, tk, os⟩ q PUnit.unit ⟨hp (l ++ dO (es ++ entsB st t L) :: (r ++ [dO all])), gs, d, tk, os⟩ q
  | [], t, lo, es, pre, ha, he, hz, hall => by
    rw [List.length_nil, List.range'_zero, List.forIn_nil, entsB, List.append_nil]
    exact Det.pure
  | (i, s) :: L, t, lo, es, pre, ha, he, hz, hall => by
    simp only [ascB, Bool.and_eq_true, decide_eq_true_eq] at ha
    rw [List.length_cons] at hz
    rw [List.length_cons, List.range'_succ, List.forIn_cons, show 6 * (L.length + 1) = 6 * L.length + 6 by omega]
    have hat : all.toArray[pre.length]? = some ⟨i, .int i t, .str s (t + 1)⟩ := by
      rw [List.getElem?_toArray, hall, entsB, List.getElem?_append_right (Nat.le_refl _), Nat.sub_self]; rfl
    refine Det.bind (n := 6) (a := ForInStep.yield PUnit.unit) (s₁ := ⟨hp (l ++ dO (es ++ [⟨i, .int i t, .str s (t + 1)⟩]) :: (r ++ [dO all])), gs, d, tk, os⟩) (p₁ := q) ?_ ?_
    · refine Det.bind (n := 1) (n' := 5) (entsD (hS _)) ?_
      rw [hat]
      refine Det.bindU (n := 4) (n' := 1) (s₁ := ⟨hp (l ++ dO (es ++ [⟨i, .int i t, .str s (t + 1)⟩]) :: (r ++ [dO all])), gs, d, tk, os⟩) (p₁ := q) (Det.holding _ ?_) ?_
      · exact put_new hD h11 (by omega) fun e hm => by have := he e hm; omega
      · refine Det.bind (n := 1) (n' := 0) (epochD (hS _)) ?_
        rw [show (all.length != all.length) = false from bne_self_eq_false all.length]
        exact Det.pure
    · have := merge_loop hD h11 hS (L := L) (t := t + st) (lo := i) (es := es ++ [⟨i, .int i t, .str s (t + 1)⟩]) (pre := pre ++ [⟨i, .int i t, .str s (t + 1)⟩]) ha.2 (fun e hm => ?_) (by simp; omega) (by rw [hall, entsB, List.append_assoc]; rfl)
      · rw [List.append_assoc, List.length_append, List.length_singleton] at this
        exact this
      · rcases List.mem_append.mp hm with hm | hm
        · have := he e hm; omega
        · rw [List.mem_singleton.mp hm]; exact Int.le_refl _
theorem merge_det {l r : List Obj} {st t : Nat} {D S : Addr} {lo : Int} {L : List (Int × Str)} {es : List DictEntry} (hD : l.length = D) (h11 : 11 ≤ D) (hS : (l ++ dO es :: r).length = S) (hs : (S == sysModules) = false) (hne : es ≠ []) (ha : ascB lo L = true) (he : ∀ e ∈ es, e.hash ≤ lo) (hz : es.length + L.length ≤ 1000) :
    Det w (6 * L.length + 5) (mergeMapping D (.ref S) false) ⟨hp (l ++ dO es :: (r ++ [dO (entsB st t L)])), gs, d, tk, os⟩ q () ⟨hp (l ++ dO (es ++ entsB st t L) :: (r ++ [dO (entsB st t L)])), gs, d, tk, os⟩ q := by
  have hget : ∀ o, (hp (l ++ o :: (r ++ [dO (entsB st t L)]))).get? S = some (dO (entsB st t L)) := fun o => by
    have := get_last l r o (entsB st t L)
    have e : (l ++ o :: r).length = S := by rw [← hS]; simp
    rwa [e] at this
  unfold mergeMapping
  refine Det.bind (n := 1) (n' := 6 * L.length + 4) (a := true) (s₁ := ⟨hp (l ++ dO es :: (r ++ [dO (entsB st t L)])), gs, d, tk, os⟩) (p₁ := q) ?_ ?_
  · unfold isInstance
    refine Det.bind (n := 1) (n' := 0) (a := .type "dict") (Det.load (n := 0) (hget _) Det.pure) ?_
    rw [dict_sub]; exact Det.pure
  · rw [if_pos rfl]
    refine Det.bind (n := 1) (n' := 6 * L.length + 3) (a := some (.builtin "dict.__iter__")) (s₁ := ⟨hp (l ++ dO es :: (r ++ [dO (entsB st t L)])), gs, d, tk, os⟩) (p₁ := q) ?_ ?_
    · unfold specialOf
      refine Det.bind (n := 1) (n' := 0) (a := .type "dict") (Det.load (n := 0) (hget _) Det.pure) ?_
      rw [iter_of_dict]; exact Det.pure
    refine Det.bind (n := 0) (n' := 6 * L.length + 3) (a := true) Det.pure ?_
    dsimp only
    rw [hs, if_neg Bool.false_ne_true]
    refine Det.bind (n := 1) (n' := 6 * L.length + 2) (entsD (hD ▸ hp_get l _ es)) ?_
    rw [show es.toArray.isEmpty = false by simp [hne], if_neg Bool.false_ne_true]
    refine Det.bind (n := 1) (n' := 6 * L.length + 1) (entsD (hget _)) ?_
    refine Det.bind (n := 1) (n' := 6 * L.length) (epochD (hget _)) ?_
    have := merge_loop (w := w) (gs := gs) (d := d) (tk := tk) (os := os) (q := q) (l := l) (r := r) (st := st) hD h11 hget (pre := []) ha he hz rfl
    rw [List.range_eq_range', show (entsB st t L).toArray.size = L.length by rw [List.size_toArray, entsB_len]]
    exact Det.bind0 this Det.pure
end
end
section
theorem entsB_app (st : Nat) : ∀ (t : Nat) (l r : List (Int × Str)), entsB st t (l ++ r) = entsB st t l ++ entsB st (t + st * l.length) r
  | t, [], r => rfl
  | t, (i, s) :: l, r => by
    rw [List.cons_append, entsB, entsB, entsB_app st (t + st) l r, List.length_cons, show t + st * (l.length + 1) = t + st + st * l.length by rw [Nat.mul_succ]; omega]
    rfl
noncomputable def subsOf : Nat → Nat → List (Int × Str) → List Obj
  | 0, _, _ => []
  | k + 1, t, L => dO (entsB 3 t (L.take 17)) :: subsOf k (t + 51) (L.drop 17)
theorem subsOf_len : ∀ (k t : Nat) (L : List (Int × Str)), (subsOf k t L).length = k
  | 0, _, _ => rfl
  | k + 1, t, L => by simp [subsOf, subsOf_len k]
noncomputable def flushD (run : List (Sem Value × Sem Value)) (main : Option Addr) : Sem (Option Addr) :=
  if run.isEmpty = true then pure main
  else
    match main with
    | none => do
      let d ← subDict run
      pure (some d)
    | some d => do
      let sub ← PySem.holding [Value.ref d] (subDict run)
      (PySem.holding [Value.ref d, Value.ref sub] (mergeMapping d (Value.ref sub) false)).onRaise fun x => do
          let _ ← PySem.holding [Value.ref d, x] (runValue (Code.builtin "proto.let_go" { }))
          pure ()
      pure (some d)
noncomputable abbrev itS (q : Pos) (x : Int × Str) : Option (Sem Value) × Sem Value := (some (prS q x).1, (prS q x).2)
noncomputable abbrev StD := Option Addr × List (Sem Value × Sem Value)
section
variable {w : World} {gs : Array GenState} {d : Drawn} {tk : Nat} {os : OsState} {q p : Pos} {f : Option (Sem Value) × Sem Value → StD → Sem (ForInStep StD)}
noncomputable def BodyD (f : Option (Sem Value) × Sem Value → StD → Sem (ForInStep StD)) : Prop := ∀ (k v : Sem Value) (m : Option Addr) (run : List (Sem Value × Sem Value)),
  f (some k, v) (m, run) = if ((run ++ [(k, v)]).length == 17) = true then (do let m ← flushD (run ++ [(k, v)]) m; pure (ForInStep.yield (m, []))) else pure (ForInStep.yield (m, run ++ [(k, v)]))
theorem feed (hf : BodyD f) {rest : List (Option (Sem Value) × Sem Value)} {m : Option Addr} : ∀ (C R : List (Int × Str)), R.length + C.length < 17 → forIn (C.map (itS q) ++ rest) ((m, R.map (prS q)) : StD) f = forIn rest ((m, (R ++ C).map (prS q)) : StD) f
  | [], R, h => by rw [List.map_nil, List.nil_append, List.append_nil]
  | x :: C, R, h => by
    rw [List.length_cons] at h
    rw [List.map_cons, List.cons_append, List.forIn_cons, hf]
    rw [if_neg (by rw [beq_iff_eq]; simp; omega)]
    have := feed hf (m := m) (rest := rest) C (R ++ [x]) (by simp; omega)
    rw [List.map_append, List.append_assoc] at this
    exact this
theorem chunk_det (hf : BodyD f) {n n' : Nat} {C : List (Int × Str)} (hC : C.length = 17) {rest : List (Option (Sem Value) × Sem Value)} {m m' : Option Addr} {s s₁ s' : Shared} {b : StD}
    (h : Det w n (flushD (C.map (prS q)) m) s q m' s₁ q) (k : Det w n' (forIn rest ((m', []) : StD) f) s₁ q b s' q) : Det w (n' + n) (forIn (C.map (itS q) ++ rest) ((m, []) : StD) f) s q b s' q := by
  obtain ⟨C', x, rfl⟩ : ∃ C' x, C = C' ++ [x] := ⟨C.dropLast, C.getLast (by rintro rfl; simp at hC), (List.dropLast_concat_getLast _).symm⟩
  have hl : C'.length = 16 := by simpa using hC
  have e := feed hf (q := q) (m := m) (rest := itS q x :: rest) C' [] (by simp; omega)
  rw [List.map_append, List.append_assoc, show ([] : List (Sem Value × Sem Value)) = ([] : List (Int × Str)).map (prS q) from rfl]
  show Det w (n' + n) (forIn (C'.map (itS q) ++ itS q x :: rest) _ f) s q b s' q
  rw [e, List.forIn_cons, hf, if_pos (by rw [beq_iff_eq]; simp; omega), List.nil_append]
  rw [List.map_append] at h
  exact Det.bind (Det.bind0 h Det.pure) k
theorem flush_none {base : List Obj} {C : List (Int × Str)} {lo : Int} (h11 : 11 ≤ base.length) (h15 : 15 < C.length) (h0 : 0 ≤ lo) (ha : ascB lo C = true) (hz : C.length ≤ 1000) :
    Det w (13 * C.length + 2) (flushD (C.map (prS q)) none) ⟨hp base, gs, d, tk, os⟩ q (some base.length) ⟨hp (base ++ [dO (entsB 3 tk C)]), gs, d, tk + 3 * C.length, os⟩ q := by
  unfold flushD
  rw [if_neg (by rw [List.isEmpty_iff]; rintro e; rw [List.map_eq_nil_iff] at e; rw [e] at h15; simp at h15)]
  exact Det.bind0 (sub_long h11 h15 h0 ha hz) Det.pure
theorem flush_some {base subs : List Obj} {D : Nat} {es : List DictEntry} {C : List (Int × Str)} {st n : Nat} {lo : Int} (hD : base.length = D) (h11 : @LE.le Nat _ 11 D) (hs : ((base ++ dO es :: subs).length == sysModules) = false) (hC : C ≠ []) (hne : es ≠ []) (ha : ascB lo C = true) (he : ∀ e ∈ es, e.hash ≤ lo) (hz : es.length + C.length ≤ 1000)
    (sub : Det w n (subDict (C.map (prS q))) ⟨hp (base ++ dO es :: subs), gs, d, tk, os⟩ q (base ++ dO es :: subs).length ⟨hp ((base ++ dO es :: subs) ++ [dO (entsB st tk C)]), gs, d, tk + 3 * C.length, os⟩ q) :
    Det w (6 * C.length + 5 + n) (flushD (C.map (prS q)) (some D)) ⟨hp (base ++ dO es :: subs), gs, d, tk, os⟩ q (some D) ⟨hp (base ++ dO (es ++ entsB st tk C) :: (subs ++ [dO (entsB st tk C)])), gs, d, tk + 3 * C.length, os⟩ q := by
  unfold flushD
  rw [if_neg (by rw [List.isEmpty_iff, List.map_eq_nil_iff]; exact hC)]
  refine Det.bind (n := n) (Det.holding _ sub) ?_
  refine Det.bind0 (a := ()) (Det.onRaise _ (Det.holding _ ?_)) Det.pure
  rw [List.append_assoc, List.cons_append]
  exact merge_det hD h11 rfl hs hne ha he hz
theorem all_det (hf : BodyD f) {base : List Obj} {D : Nat} (hD : base.length = D) (h11 : @LE.le Nat _ 11 D) (hsys : @LT.lt Nat _ sysModules D) {T : List (Int × Str)} (hT : T.length < 17) : ∀ (k : Nat) (L : List (Int × Str)) {es : List DictEntry} {subs : List Obj} {tk : Nat} {lo : Int}, L.length = 17 * k → 0 ≤ lo → ascB lo L = true → (∀ e ∈ es, e.hash ≤ lo) → es ≠ [] → es.length + L.length ≤ 1000 →
    Det w (330 * k) (forIn ((L ++ T).map (itS q)) ((some D, []) : StD) f) ⟨hp (base ++ dO es :: subs), gs, d, tk, os⟩ q (some D, T.map (prS q)) ⟨hp (base ++ dO (es ++ entsB 3 tk L) :: (subs ++ subsOf k tk L)), gs, d, tk + 3 * L.length, os⟩ q
  | 0, L, es, subs, tk, lo, hL, h0, ha, he, hne, hz => by
    obtain rfl := List.eq_nil_of_length_eq_zero (show L.length = 0 by omega)
    have e := feed hf (q := q) (m := some D) (rest := []) T [] (by simp; omega)
    rw [List.append_nil] at e
    rw [List.nil_append, show ([] : List (Sem Value × Sem Value)) = ([] : List (Int × Str)).map (prS q) from rfl, e, List.nil_append, List.forIn_nil, entsB, subsOf, List.append_nil, List.append_nil]
    exact Det.pure
  | k + 1, L, es, subs, tk, lo, hL, h0, ha, he, hne, hz => by
    have hd : L = L.take 17 ++ L.drop 17 := (List.take_append_drop 17 L).symm
    have hc : (L.take 17).length = 17 := by rw [List.length_take]; omega
    have hr : (L.drop 17).length = 17 * k := by rw [List.length_drop]; omega
    have e2 : entsB 3 tk L = entsB 3 tk (L.take 17) ++ entsB 3 (tk + 51) (L.drop 17) := by
      conv => lhs; rw [hd]
      rw [entsB_app, hc]
    have hl2 : L.length = 17 + (L.drop 17).length := by omega
    rw [e2, subsOf, hl2]
    conv => enter [3]; rw [hd]
    generalize L.take 17 = C at *
    generalize L.drop 17 = R at *
    subst hd
    have ha2 := asc_app ha
    rw [List.append_assoc, List.map_append, show 330 * (k + 1) = 330 * k + 330 by omega]
    have fl := flush_some (w := w) (gs := gs) (d := d) (tk := tk) (os := os) (q := q) (base := base) (subs := subs) (es := es) (C := C) (st := 3) (n := 13 * C.length + 2) (lo := lo) hD h11 (by rw [beq_eq_false_iff_ne]; rw [List.length_append, hD, List.length_cons]; omega) (by rintro rfl; simp at hc) hne ha2.1 he (by omega) (sub_long (by rw [List.length_append, hD]; omega) (by omega) h0 ha2.1 (by omega))
    rw [hc] at fl
    refine chunk_det hf hc fl ?_
    have := all_det hf hD h11 hsys hT k R (es := es ++ entsB 3 tk C) (subs := subs ++ [dO (entsB 3 tk C)]) (tk := tk + 3 * 17) (lo := endB lo C) hr (Int.le_trans h0 (asc_end ha2.1)) ha2.2 (fun e hm => ?_) (by simp [hne]) (by rw [List.length_append, entsB_len]; omega)
    · rw [List.append_assoc, List.append_assoc] at this
      have e3 : tk + 3 * (17 + R.length) = tk + 3 * 17 + 3 * R.length := by omega
      rw [e3]
      exact this
    · rcases List.mem_append.mp hm with hm | hm
      · exact Int.le_trans (he e hm) (asc_end ha2.1)
      · exact asc_ents ha2.1 e hm
theorem display_det {base : List Obj} {D : Nat} (hD : base.length = D) (h11 : @LE.le Nat _ 11 D) (hsys : @LT.lt Nat _ sysModules D) {k : Nat} {C L T : List (Int × Str)} (hC : C.length = 17) (hL : L.length = 17 * k) (hT0 : T ≠ []) (hT : T.length ≤ 15) (ha : ascB 0 (C ++ (L ++ T)) = true) (hz : C.length + (L.length + T.length) ≤ 1000) :
    Det w (13 * T.length + 1 + (6 * T.length + 5) + 330 * k + 223) (dictDisplay ((C ++ (L ++ T)).map (itS q))) ⟨hp base, gs, d, tk, os⟩ q (.ref D) ⟨hp (base ++ dO (entsB 3 tk (C ++ L) ++ entsB 2 (tk + 3 * (C ++ L).length) T) :: (subsOf k (tk + 51) L ++ [dO (entsB 2 (tk + 3 * (C ++ L).length) T)])), gs, d, tk + 3 * (C ++ (L ++ T)).length, os⟩ q := by
  have ha1 := asc_app ha
  have ha2 := asc_app ha1.2
  have h0 : (0 : Int) ≤ endB 0 C := asc_end ha1.1
  have h02 : endB 0 C ≤ endB (endB 0 C) L := asc_end ha2.1
  have hCne : C ≠ [] := by rintro rfl; simp at hC
  unfold dictDisplay
  rw [List.map_append]
  have hne : entsB 3 tk C ≠ [] := fun e => by have := entsB_len 3 tk C; rw [e, hC] at this; simp at this
  have fl := flush_none (w := w) (gs := gs) (d := d) (tk := tk) (os := os) (q := q) (base := base) (C := C) (lo := 0) (by omega) (by omega) (Int.le_refl _) ha1.1 (by omega)
  rw [hC] at fl
  have step : ∀ f, BodyD f → Det w (330 * k + 223) (forIn (C.map (itS q) ++ (L ++ T).map (itS q)) ((none, []) : StD) f) ⟨hp base, gs, d, tk, os⟩ q (some D, T.map (prS q)) ⟨hp (base ++ dO (entsB 3 tk C ++ entsB 3 (tk + 3 * 17) L) :: ([] ++ subsOf k (tk + 3 * 17) L)), gs, d, tk + 3 * 17 + 3 * L.length, os⟩ q := fun f hf =>
    chunk_det hf hC fl (by
      rw [hD]
      exact all_det hf hD h11 hsys (by omega) k L hL h0 ha2.1 (fun e hm => asc_ents ha1.1 e hm) hne (by rw [entsB_len]; omega))
  rw [show 13 * T.length + 1 + (6 * T.length + 5) + 330 * k + 223 = (13 * T.length + 1 + (6 * T.length + 5)) + (330 * k + 223) by omega]
  refine Det.bind (step _ ?_) ?_
  · intro kk v m run
    rfl
  · have e1 : entsB 3 tk C ++ entsB 3 (tk + 3 * 17) L = entsB 3 tk (C ++ L) := by rw [entsB_app, hC]
    have e2 : tk + 3 * 17 + 3 * L.length = tk + 3 * (C ++ L).length := by rw [List.length_append, hC]; omega
    rw [e1, e2, List.nil_append]
    have hne2 : entsB 3 tk (C ++ L) ≠ [] := by rw [← e1]; simp [hne]
    have hlen : (base ++ dO (entsB 3 tk (C ++ L)) :: subsOf k (tk + 51) L).length = D + 1 + k := by
      rw [List.length_append, List.length_cons, subsOf_len, hD]; omega
    have fl2 := flush_some (w := w) (gs := gs) (d := d) (tk := tk + 3 * (C ++ L).length) (os := os) (q := q) (base := base) (subs := subsOf k (tk + 51) L) (es := entsB 3 tk (C ++ L)) (C := T) (st := 2) (n := 13 * T.length + 1) (lo := endB (endB 0 C) L) hD h11 (by rw [hlen, beq_eq_false_iff_ne]; omega) hT0 hne2 ha2.2 (fun e hm => by
        rw [← e1] at hm
        rcases List.mem_append.mp hm with hm | hm
        · exact Int.le_trans (asc_ents ha1.1 e hm) h02
        · exact asc_ents ha2.1 e hm) (by rw [entsB_len, List.length_append]; omega) (sub_short (lo := endB (endB 0 C) L) (by rw [hlen]; omega) hT (by omega) ha2.2)
    have e4 : tk + 3 * (C ++ (L ++ T)).length = tk + 3 * (C ++ L).length + 3 * T.length := by simp only [List.length_append]; omega
    rw [e4, show 13 * T.length + 1 + (6 * T.length + 5) = 6 * T.length + 5 + (13 * T.length + 1) by omega]
    exact Det.bind0 (a := some D) fl2 Det.pure
end
end
section
theorem rawHash_id {i : Int} (h0 : 0 ≤ i) (h1 : i < 1000000) : rawHash i = i := by
  have e : ((2 ^ 61 - 1 : Nat) : Int) = 2305843009213693951 := by decide
  have h2 : ¬ i < 0 := by omega
  have h3 : (i.natAbs : Int) % 2305843009213693951 = i := by omega
  have h4 : (i == -1) = false := by rw [beq_eq_false_iff_ne]; omega
  unfold rawHash
  simp only [e, if_neg h2, h3, h4, Bool.false_eq_true, if_false]
theorem hashInt_id {i : Int} (h0 : 0 ≤ i) (h1 : i < 1000000) : hashInt i = i := by
  have h4 : (i == -1) = false := by rw [beq_eq_false_iff_ne]; omega
  unfold hashInt
  rw [rawHash_id h0 h1, h4]; rfl
theorem ents_eq (st : Nat) : ∀ (t : Nat) (lo : Int) (l : List (Int × Str)), 0 ≤ lo → ascB lo l = true → entsBy st t l = entsB st t l
  | _, _, [], _, _ => rfl
  | t, lo, (i, s) :: l, h0, h => by
    simp only [ascB, Bool.and_eq_true, decide_eq_true_eq] at h
    rw [entsBy, entsB, ents_eq st (t + st) i l (by omega) h.2, hashInt_id (by omega) h.1.2]
theorem b3_asc : ascB 0 b3P = true := by kernel_rfl
theorem b3_len : b3P.length = 650 := by kernel_rfl
noncomputable def dp : Pos := ⟨44, 16, 44, 8704⟩
noncomputable def dq : Pos := ⟨44, 0, 44, 8704⟩
noncomputable def asgParts : Stmt → List Expr × Expr
  | .Assign ts v _ => (ts, v)
  | _ => default
noncomputable def asgTail (ts : List Expr) (v : Expr) (x : Value) : Sem Flow := do
  assignStores env x (← swappedStores ts v env) ((assignEach ts env).map (·.2))
noncomputable def stm19 : Stmt := (pw.main.body[19]?).getD (.Pass default)
theorem stms19 : stms 19 1 = [stm19] := by kernel_rfl
theorem exec19 : exec stm19 env = (standAt dq >>= fun _ => (standAt dp >>= fun _ => dictDisplay (b3P.map (itS dp))) >>= asgTail (asgParts stm19).1 (asgParts stm19).2) := by kernel_rfl
theorem dr_drop (k : Nat) : dr k = b3P.drop (17 * k) := by
  induction k with
  | zero => rfl
  | succ k ih => rw [dr, ih, List.drop_drop, Nat.mul_succ]
theorem subsOf_dr (L T : List (Int × Str)) : ∀ (n k t : Nat), L.length = 17 * n → dr k = L ++ T → subsOf n t L = (List.range n).map fun j => dO (entsB 3 (t + 51 * j) ((dr (k + j)).take 17)) := by
  intro n
  induction n generalizing L with
  | zero => intros; rfl
  | succ n ih =>
    intro k t hl hd
    have h1 : (dr k).take 17 = L.take 17 := by rw [hd, List.take_append_of_le_length (by omega)]
    have h2 : dr (k + 1) = L.drop 17 ++ T := by rw [dr, hd, List.drop_append_of_le_length (by omega)]
    rw [subsOf, ih (L.drop 17) (k + 1) (t + 51) (by rw [List.length_drop]; omega) h2, List.range_succ_eq_map, List.map_cons, List.map_map, ← h1]
    congr 1
    refine List.map_congr_left fun j _ => ?_
    show dO (entsB 3 (t + 51 + 51 * j) ((dr (k + 1 + j)).take 17)) = dO (entsB 3 (t + 51 * (j + 1)) ((dr (k + (j + 1))).take 17))
    rw [show t + 51 + 51 * j = t + 51 * (j + 1) by omega, show k + 1 + j = k + (j + 1) by omega]
theorem list_m (P : Params) : (tr_m P).list 177 = (tr_3 P).list 138 ++ ob138 P :: ((List.range 37).map (fun j => dO (entsB 3 (433 + 51 * j) ((dr (1 + j)).take 17))) ++ [dO (entsB 2 2320 (dr 38))]) := by kernel_rfl
theorem ob138_eq (P : Params) : ob138 P = dO (entsB 3 382 (b3P.take 646) ++ entsB 2 2320 (b3P.drop 646)) := by
  have ha : ascB 0 (b3P.take 646 ++ b3P.drop 646) = true := by rw [List.take_append_drop]; exact b3_asc
  have ha1 := asc_app ha
  have e : b3E = entsB 3 382 (b3P.take 646) ++ entsB 2 2320 (b3P.drop 646) := by
    unfold b3E
    rw [ents_eq 3 382 0 _ (Int.le_refl _) ha1.1, ents_eq 2 2320 _ _ (asc_end ha1.1) ha1.2]
  have hl : (entsB 3 382 (b3P.take 646) ++ entsB 2 2320 (b3P.drop 646)).length = 650 := by
    rw [List.length_append, entsB_len, entsB_len, ← List.length_append, List.take_append_drop, b3_len]
  rw [← e] at hl ⊢
  unfold dO
  rw [hl]
  rfl
theorem disp19 (w : World) (os : OsState) : Det w 12515 (dictDisplay (b3P.map (itS dp))) ⟨hp ((tr_3 w.params).list 138), #[], {}, 382, os⟩ dp (.ref 138) ⟨hp ((tr_m w.params).list 177), #[], {}, 2332, os⟩ dp := by
  have hb : ((tr_3 w.params).list 138).length = 138 := by unfold BT.list; simp
  have e1 : b3P = b3P.take 17 ++ ((b3P.drop 17).take 629 ++ b3P.drop 646) := by
    have h1 := List.take_append_drop 17 b3P
    have h2 := List.take_append_drop 629 (b3P.drop 17)
    rw [List.drop_drop] at h2
    rw [h2, h1]
  have hl := b3_len
  have l1 : (b3P.take 17).length = 17 := by rw [List.length_take]; omega
  have l2 : ((b3P.drop 17).take 629).length = 17 * 37 := by rw [List.length_take, List.length_drop]; omega
  have l3 : (b3P.drop 646).length = 4 := by rw [List.length_drop]; omega
  have h := display_det (w := w) (gs := #[]) (d := {}) (tk := 382) (os := os) (q := dp) (base := (tr_3 w.params).list 138) (D := 138) hb (by decide) (by decide) (k := 37) l1 l2 (by intro e; rw [e] at l3; cases l3) (by omega) (e1 ▸ b3_asc) (by omega)
  rw [← e1] at h
  have e2 : b3P.take 17 ++ (b3P.drop 17).take 629 = b3P.take 646 := by
    have h2 := List.take_add (l := b3P) (i := 17) (j := 629)
    rw [← h2]
  rw [e2] at h
  have l4 : (b3P.take 646).length = 646 := by rw [List.length_take]; omega
  rw [l4, hl, l3, subsOf_dr ((b3P.drop 17).take 629) (b3P.drop 646) 37 1 (382 + 51) l2 (by
    have h2 := List.take_append_drop 629 (b3P.drop 17)
    rw [List.drop_drop] at h2
    rw [h2, dr_drop])] at h
  rw [show b3P.drop 646 = dr 38 by rw [dr_drop]] at h
  rw [list_m, ob138_eq, show b3P.drop 646 = dr 38 by rw [dr_drop]]
  exact h
end
section
noncomputable abbrev tail19 (w : World) : Value → Sem Fin := fun v => (asgTail (asgParts stm19).1 (asgParts stm19).2 v).wrap (fun f => match f with | .next => doneF .next | f => doneF f) deadEnd id id
theorem end19 (w : World) (os : OsState) : segRunT treeTable pw w 11 (some (.ref 6)) 1 8 (st (tr_m w.params) 177 2332 os) ⟨tail19 w (.ref 138), cB, dp, fB⟩ = some (.next, st (tr_4 w.params) 177 2333 os, cB, ⟨44, 0, 44, 13⟩) := by kernel_rfl
theorem pc4 (w : World) (os : OsState) (p : Pos) : segRun treeTable pw w 11 (some (.ref 6)) 1 (12517 + 8) (st (tr_3 w.params) 138 382 os).abs (piecesOf (stms 19 1) env cB p fB) = some (.next, (st (tr_4 w.params) 177 2333 os).abs, cB, ⟨44, 0, 44, 13⟩) := by
  have h2 := segRun_of (end19 w os)
  refine seg_go ?_ h2
  rw [stms19]
  have d : Det w 12517 (standAt dq >>= fun _ => (standAt dp >>= fun _ => dictDisplay (b3P.map (itS dp)))) ⟨hp ((tr_3 w.params).list 138), #[], {}, 382, os⟩ p (.ref 138) ⟨hp ((tr_m w.params).list 177), #[], {}, 2332, os⟩ dp :=
    Det.bind (n := 1) (n' := 12516) (Det.at (n := 0) Det.pure) (Det.bind (n := 1) (n' := 12515) (Det.at (n := 0) Det.pure) (disp19 w os))
  have e : (execs [stm19] env).wrap doneF deadEnd id id = (standAt dq >>= fun _ => (standAt dp >>= fun _ => dictDisplay (b3P.map (itS dp)))).wrap (tail19 w) deadEnd id id := by
    rw [execs_cons_wrap, exec19, Sem.bind_eq_wrap', Sem.bind_eq_wrap', Sem.bind_eq_wrap', Sem.bind_eq_wrap', Sem.wrap_wrap, Sem.wrap_wrap, Sem.wrap_wrap, Sem.wrap_wrap]
    rfl
  show segGo treeTable pw w 11 (some (.ref 6)) 1 12517 _ ⟨(execs [stm19] env).wrap doneF deadEnd id id, cB, p, fB⟩ = _
  rw [e]
  exact d _ _ _ _
end
section
noncomputable def HF (P : Params) : Heap := ⟨[boot_o_0 P, boot_o_1 P, boot_o_2 P, ob3_8 P, boot_o_4 P, boot_o_5 P, boot_o_6 P, boot_o_7 P, boot_o_8 P, boot_o_9 P, boot_o_10 P, ob11 P, ob12_8 P, ob13 P, ob14 P, ob15 P, ob16 P, ob17 P, ob18 P, ob19 P, ob20 P, ob21 P, ob22 P, ob23 P, ob24 P, ob25 P, ob26 P, ob27 P, ob28 P, ob29 P, ob30 P, ob31 P, ob32 P, ob33 P, ob34 P, ob35 P, ob36 P, ob37 P, ob38 P, ob39 P, ob40 P, ob41 P, ob42 P, ob43 P, ob44 P, ob45 P, ob46 P, ob47 P, ob48 P, ob49 P, ob50 P, ob51 P, ob52 P, ob53 P, ob54 P, ob55 P, ob56 P, ob57 P, ob58 P, ob59 P, ob60 P, ob61 P, ob62 P, ob63 P, ob64 P, ob65 P, ob66 P, ob67 P, ob68 P, ob69 P, ob70 P, ob71 P, ob72 P, ob73 P, ob74 P, ob75 P, ob76 P, ob77 P, ob78 P, ob79 P, ob80 P, ob81 P, ob82 P, ob83 P, ob84 P, ob85 P, ob86 P, ob87 P, ob88 P, ob89 P, ob90 P, ob91 P, ob92 P, ob93 P, ob94 P, ob95 P, ob96 P, ob97 P, ob98 P, ob99 P, ob100 P, ob101 P, ob102 P, ob103 P, ob104 P, ob105 P, ob106 P, ob107 P, ob108 P, ob109 P, ob110 P, ob111 P, ob112 P, ob113 P, ob114 P, ob115 P, ob116 P, ob117 P, ob118 P, ob119 P, ob120 P, ob121 P, ob122 P, ob123 P, ob124 P, ob125 P, ob126 P, ob127 P, ob128 P, ob129 P, ob130 P, ob131 P, ob132 P, ob133 P, ob134 P, ob135 P, ob136 P, ob137 P, ob138 P, ob139 P, ob140 P, ob141 P, ob142 P, ob143 P, ob144 P, ob145 P, ob146 P, ob147 P, ob148 P, ob149 P, ob150 P, ob151 P, ob152 P, ob153 P, ob154 P, ob155 P, ob156 P, ob157 P, ob158 P, ob159 P, ob160 P, ob161 P, ob162 P, ob163 P, ob164 P, ob165 P, ob166 P, ob167 P, ob168 P, ob169 P, ob170 P, ob171 P, ob172 P, ob173 P, ob174 P, ob175 P, ob176 P, ob177 P, ob178 P, ob179 P, ob180 P, ob181 P, ob182 P, ob183 P, ob184 P, ob185 P, ob186 P, ob187 P, ob188 P, ob189 P, ob190 P, ob191 P, ob192 P, ob193 P, ob194 P, ob195 P, ob196 P, ob197 P, ob198 P, ob199 P, ob200 P, ob201 P, ob202 P, ob203 P, ob204 P, ob205 P, ob206 P, ob207 P, ob208 P, ob209 P, ob210 P, ob211 P, ob212 P, ob213 P, ob214 P, ob215 P, ob216 P, ob217 P, ob218 P, ob219 P, ob220 P, ob221 P, ob222 P, ob223 P, ob224 P, ob225 P, ob226 P, ob227 P, ob228 P, ob229 P, ob230 P, ob231 P, ob232 P, ob233 P, ob234 P, ob235 P, ob236 P, ob237 P, ob238 P, ob239 P, ob240 P, ob241 P, ob242 P, ob243 P, ob244 P, ob245 P, ob246 P, ob247 P, ob248 P, ob249 P, ob250 P, ob251 P, ob252 P, ob253 P, ob254 P, ob255 P, ob256 P, ob257 P, ob258 P, ob259 P].toArray, {}⟩
theorem hf_eq (P : Params) : absHeap (tr_f P) 260 {} = HF P := by kernel_rfl
theorem pc_pre (w : World) (os : OsState) : topGo treeTable pw w 11 (some (.ref 6)) 12 ⟨boot_heap w.params, Array.mk [], boot_drawn, boot_toks, os⟩ (topStub pw) = some ((st (tr_a w.params) 15 187 os).abs, ⟨denote treeTable cB, cB, ⟨0, 0, 0, 0⟩, fB⟩) := by kernel_rfl
theorem pc_block (w : World) (os : OsState) : segRun treeTable pw w 11 (some (.ref 6)) 1 1 (st (tr_a w.params) 15 187 os).abs (blockOf (behindTheImports pw) env cB ⟨0, 0, 0, 0⟩ fB) = some (.next, (st (tr_b w.params) 15 187 os).abs, cB, ⟨0, 0, 0, 0⟩) := by kernel_rfl
theorem pc_fin (w : World) (os : OsState) : topRun treeTable pw w 11 (some (.ref 6)) 2 (st (tr_8 w.params) 260 2644 os).abs ⟨doneF .next, cB, ⟨206, 0, 235, 15⟩, fB⟩ = some (st (tr_f w.params) 260 2644 os).abs := by kernel_rfl
theorem body_split : behindTheImports pw = stms 0 13 ++ (stms 13 4 ++ (stms 17 1 ++ (stms 18 1 ++ (stms 19 1 ++ (stms 20 30 ++ (stms 50 22 ++ (stms 72 1 ++ (stms 73 11 ++ [])))))))) := by kernel_rfl
theorem pc_size (w : World) : ((boot_heap w.params).isNs mainGlobals && (Array.mk [] : Array GenState).size == 0, (boot_heap w.params).objs.size, (boot_heap w.params).nsMap mainGlobals "__annotations__") = (true, 11, some (.ref 6)) := by kernel_rfl
theorem pc_open (N : Nat) (h : Nat.ble 600 N = true) : ∀ w : World, (fencedOpening treeTable pw w N).map (fun s => (s.heap, s.gens, s.drawn, s.toks)) = some (boot_heap w.params, Array.mk [], boot_drawn, boot_toks) :=
  boot_open (by rfl) h (fun s => by rfl)
end
section
theorem pc0 (w : World) (os : OsState) : segRunT treeTable pw w 11 (some (.ref 6)) 1 370 (st (tr_b w.params) 15 187 os) (piecesOf (stms 0 13) env cB ⟨0, 0, 0, 0⟩ fB) = some (.next, st (tr_0 w.params) 99 285 os, cB, ⟨24, 0, 25, 17⟩) := by
  rw [PySem.W.Fast.te10110043849684766642, PySem.W.Fast.te14364793385576792824]
  kernel_rfl
end
section
theorem pc1 (w : World) (os : OsState) : segRunT treeTable pw w 11 (some (.ref 6)) 1 104 (st (tr_0 w.params) 99 285 os) (piecesOf (stms 13 4) env cB ⟨24, 0, 25, 17⟩ fB) = some (.next, st (tr_1 w.params) 120 315 os, cB, ⟨40, 0, 40, 8⟩) := by
  rw [PySem.W.Fast.te10110043849684766642, PySem.W.Fast.te14364793385576792824]
  kernel_rfl
end
section
theorem pc2_ff (w : World) (os : OsState) : segRunT treeTable pw ((w.withFollow "special-get-raises" false).withFollow "set-order" false) 11 (some (.ref 6)) 1 999 (st (tr_1 ((w.withFollow "special-get-raises" false).withFollow "set-order" false).params) 120 315 os) (piecesOf (stms 17 1) env cB ⟨40, 0, 40, 8⟩ fB) = some (.next, st (tr_2 ((w.withFollow "special-get-raises" false).withFollow "set-order" false).params) 131 375 os, cB, ⟨41, 0, 41, 6⟩) := by
  rw [PySem.W.Fast.te10110043849684766642, PySem.W.Fast.te14364793385576792824]
  kernel_rfl
theorem pc2_ft (w : World) (os : OsState) : segRunT treeTable pw ((w.withFollow "special-get-raises" true).withFollow "set-order" false) 11 (some (.ref 6)) 1 999 (st (tr_1 ((w.withFollow "special-get-raises" true).withFollow "set-order" false).params) 120 315 os) (piecesOf (stms 17 1) env cB ⟨40, 0, 40, 8⟩ fB) = some (.next, st (tr_2 ((w.withFollow "special-get-raises" true).withFollow "set-order" false).params) 131 375 os, cB, ⟨41, 0, 41, 6⟩) := by
  rw [PySem.W.Fast.te10110043849684766642, PySem.W.Fast.te14364793385576792824]
  kernel_rfl
theorem pc2_tf (w : World) (os : OsState) : segRunT treeTable pw ((w.withFollow "special-get-raises" false).withFollow "set-order" true) 11 (some (.ref 6)) 1 999 (st (tr_1 ((w.withFollow "special-get-raises" false).withFollow "set-order" true).params) 120 315 os) (piecesOf (stms 17 1) env cB ⟨40, 0, 40, 8⟩ fB) = some (.next, st (tr_2 ((w.withFollow "special-get-raises" false).withFollow "set-order" true).params) 131 375 os, cB, ⟨41, 0, 41, 6⟩) := by
  rw [PySem.W.Fast.te10110043849684766642, PySem.W.Fast.te14364793385576792824]
  kernel_rfl
theorem pc2_tt (w : World) (os : OsState) : segRunT treeTable pw ((w.withFollow "special-get-raises" true).withFollow "set-order" true) 11 (some (.ref 6)) 1 999 (st (tr_1 ((w.withFollow "special-get-raises" true).withFollow "set-order" true).params) 120 315 os) (piecesOf (stms 17 1) env cB ⟨40, 0, 40, 8⟩ fB) = some (.next, st (tr_2 ((w.withFollow "special-get-raises" true).withFollow "set-order" true).params) 131 375 os, cB, ⟨41, 0, 41, 6⟩) := by
  rw [PySem.W.Fast.te10110043849684766642, PySem.W.Fast.te14364793385576792824]
  kernel_rfl
theorem pc2 (w : World) (os : OsState) : segRunT treeTable pw w 11 (some (.ref 6)) 1 999 (st (tr_1 w.params) 120 315 os) (piecesOf (stms 17 1) env cB ⟨40, 0, 40, 8⟩ fB) = some (.next, st (tr_2 w.params) 131 375 os, cB, ⟨41, 0, 41, 6⟩) :=
  byRow2 "set-order" (P := fun w => ∀ os : OsState, segRunT treeTable pw w 11 (some (.ref 6)) 1 999 (st (tr_1 w.params) 120 315 os) (piecesOf (stms 17 1) env cB ⟨40, 0, 40, 8⟩ fB) = some (.next, st (tr_2 w.params) 131 375 os, cB, ⟨41, 0, 41, 6⟩)) (byRow2 "special-get-raises" (P := fun w => ∀ os : OsState, segRunT treeTable pw (w.withFollow "set-order" false) 11 (some (.ref 6)) 1 999 (st (tr_1 (w.withFollow "set-order" false).params) 120 315 os) (piecesOf (stms 17 1) env cB ⟨40, 0, 40, 8⟩ fB) = some (.next, st (tr_2 (w.withFollow "set-order" false).params) 131 375 os, cB, ⟨41, 0, 41, 6⟩)) pc2_ff pc2_ft) (byRow2 "special-get-raises" (P := fun w => ∀ os : OsState, segRunT treeTable pw (w.withFollow "set-order" true) 11 (some (.ref 6)) 1 999 (st (tr_1 (w.withFollow "set-order" true).params) 120 315 os) (piecesOf (stms 17 1) env cB ⟨40, 0, 40, 8⟩ fB) = some (.next, st (tr_2 (w.withFollow "set-order" true).params) 131 375 os, cB, ⟨41, 0, 41, 6⟩)) pc2_tf pc2_tt) w os
end
section
theorem pc3 (w : World) (os : OsState) : segRunT treeTable pw w 11 (some (.ref 6)) 1 30 (st (tr_2 w.params) 131 375 os) (piecesOf (stms 18 1) env cB ⟨41, 0, 41, 6⟩ fB) = some (.next, st (tr_3 w.params) 138 382 os, cB, ⟨42, 0, 43, 30⟩) := by
  rw [PySem.W.Fast.te10110043849684766642, PySem.W.Fast.te14364793385576792824]
  kernel_rfl
end
section
theorem pc5 (w : World) (os : OsState) : segRunT treeTable pw w 11 (some (.ref 6)) 1 312 (st (tr_4 w.params) 177 2333 os) (piecesOf (stms 20 30) env cB ⟨44, 0, 44, 13⟩ fB) = some (.next, st (tr_5 w.params) 191 2404 os, cB, ⟨79, 0, 79, 9⟩) := by
  rw [PySem.W.Fast.te10110043849684766642, PySem.W.Fast.te14364793385576792824]
  kernel_rfl
end
section
theorem pc6 (w : World) (os : OsState) : segRunT treeTable pw w 11 (some (.ref 6)) 1 199 (st (tr_5 w.params) 191 2404 os) (piecesOf (stms 50 22) env cB ⟨79, 0, 79, 9⟩ fB) = some (.next, st (tr_6 w.params) 191 2448 os, cB, ⟨101, 0, 101, 9⟩) := by
  rw [PySem.W.Fast.te10110043849684766642, PySem.W.Fast.te14364793385576792824]
  kernel_rfl
end
section
theorem pc7_f (w : World) (os : OsState) : segRunT treeTable pw (w.withFollow "special-get-raises" false) 11 (some (.ref 6)) 1 979 (st (tr_6 (w.withFollow "special-get-raises" false).params) 191 2448 os) (piecesOf (stms 72 1) env cB ⟨101, 0, 101, 9⟩ fB) = some (.next, st (tr_7 (w.withFollow "special-get-raises" false).params) 194 2545 os, cB, ⟨102, 0, 102, 17⟩) := by
  rw [PySem.W.Fast.te10110043849684766642, PySem.W.Fast.te14364793385576792824]
  kernel_rfl
theorem pc7_t (w : World) (os : OsState) : segRunT treeTable pw (w.withFollow "special-get-raises" true) 11 (some (.ref 6)) 1 979 (st (tr_6 (w.withFollow "special-get-raises" true).params) 191 2448 os) (piecesOf (stms 72 1) env cB ⟨101, 0, 101, 9⟩ fB) = some (.next, st (tr_7 (w.withFollow "special-get-raises" true).params) 194 2545 os, cB, ⟨102, 0, 102, 17⟩) := by
  rw [PySem.W.Fast.te10110043849684766642, PySem.W.Fast.te14364793385576792824]
  kernel_rfl
theorem pc7 (w : World) (os : OsState) : segRunT treeTable pw w 11 (some (.ref 6)) 1 979 (st (tr_6 w.params) 191 2448 os) (piecesOf (stms 72 1) env cB ⟨101, 0, 101, 9⟩ fB) = some (.next, st (tr_7 w.params) 194 2545 os, cB, ⟨102, 0, 102, 17⟩) :=
  byRow2 "special-get-raises" (P := fun w => ∀ os : OsState, segRunT treeTable pw w 11 (some (.ref 6)) 1 979 (st (tr_6 w.params) 191 2448 os) (piecesOf (stms 72 1) env cB ⟨101, 0, 101, 9⟩ fB) = some (.next, st (tr_7 w.params) 194 2545 os, cB, ⟨102, 0, 102, 17⟩)) pc7_f pc7_t w os
end
section
theorem pc8 (w : World) (os : OsState) : segRunT treeTable pw w 11 (some (.ref 6)) 1 323 (st (tr_7 w.params) 194 2545 os) (piecesOf (stms 73 11) env cB ⟨102, 0, 102, 17⟩ fB) = some (.next, st (tr_8 w.params) 260 2644 os, cB, ⟨206, 0, 235, 15⟩) := by
  rw [PySem.W.Fast.te10110043849684766642, PySem.W.Fast.te14364793385576792824]
  kernel_rfl
end
section
noncomputable def HK := kHook KK KA (fun _ => by kernel_rfl)
noncomputable abbrev XT : Shared → Bool := fun s => xlAt qv [] s && recOk (RowW.records (OpenRow.toRowW Challenge.rw_wf0091_01.row)) s
theorem pc_all (w : World) (os : OsState) : topRun treeTable pw w 11 (some (.ref 6)) (12 + (1 + (370 + (104 + (999 + (30 + (12517 + 8 + (312 + (199 + (979 + (323 + 2))))))))))) ⟨boot_heap w.params, Array.mk [], boot_drawn, boot_toks, os⟩ (topStub pw) = some ⟨HF w.params, #[], {}, 2644, os⟩ := by
  have f := pc_fin w os
  have e : (st (tr_f w.params) 260 2644 os).abs = ⟨HF w.params, #[], {}, 2644, os⟩ := by
    show (⟨absHeap (tr_f w.params) 260 {}, #[], {}, 2644, os⟩ : Shared) = _
    rw [hf_eq]
  rw [e] at f
  have r8 := piece_app (rest := []) (segRun_of (pc8 w os)) (piece_nil f)
  have r7 := piece_app (segRun_of (pc7 w os)) r8
  have r6 := piece_app (segRun_of (pc6 w os)) r7
  have r5 := piece_app (segRun_of (pc5 w os)) r6
  have r4 := piece_app (pc4 w os ⟨42, 0, 43, 30⟩) r5
  have r3 := piece_app (segRun_of (pc3 w os)) r4
  have r2 := piece_app (segRun_of (pc2 w os)) r3
  have r1 := piece_app (segRun_of (pc1 w os)) r2
  have r0 := piece_app (segRun_of (pc0 w os)) r1
  rw [← body_split] at r0
  exact go_top (pc_pre w os) (piece_block (pc_block w os) r0)
theorem lk1 (w : World) (os : OsState) : (staticsOk (importedModules pw.main.body) (boot_heap w.params) (HF w.params) && namesBound pw (HF w.params) && gensDone ⟨HF w.params, #[], {}, 2644, os⟩ && laidKept (boot_heap w.params) (HF w.params)) = true := by kernel_rfl
theorem lk2 (w : World) (os : OsState) : openSeen qv looseL (importedModules pw.main.body) XT true ⟨HF w.params, #[], {}, 2644, os⟩ = openGood qv looseL := by kernel_rfl
theorem lk3 (w : World) (os : OsState) : Hook.obs HK ⟨HF w.params, #[], {}, 2644, os⟩ = Hook.val HK w := by kernel_rfl
theorem left_o : LeftO pw qv looseL XT (fun s => (Hook.obs HK s, s.toks)) (fun w => (Hook.val HK w, 2644)) 31790 :=
  LeftO.of_pieces (H₀ := boot_heap) (H₁ := HF) (gs₀ := Array.mk []) (gs₁ := #[]) (d₀ := boot_drawn) (d₁ := {}) (k₀ := boot_toks) (k₁ := 2644) (m₀ := 11) (ann := some (.ref 6)) (pc_open 31790 rfl) pc_size pc_all (by decide +kernel) fun w => by
    funext os
    rw [lk1 w os, lk2 w os, lk3 w os]
end
section
section
variable {M : Model} {A : Around} {E : Value → Shared → Prop} {s : Shared}
theorem same_int {p q : Int} {t u : Tok} {Q : Bool → Shared → Prop} (ht : t ≠ 0) (hu : u ≠ 0) (hpq : t = u → p = q) (hb : NoneBooked s.heap) (hQ : ∀ b : Bool, (b = true → p = q) → Q b s) :
    wpAny M A (isSame (.int p t) (.int q u)) Q E s := by
  have h0 : (t == 0 || u == 0) = false := by simp [ht, hu]
  show wpAny M A (if p == q && smallInt p then isSame.cachedInt t u else isSame.created (p == q) t u) Q E s
  refine wpAny_ite ?_
  split
  · rename_i h
    have hp : p = q := by simp only [Bool.and_eq_true, beq_iff_eq] at h; exact h.1
    unfold isSame.cachedInt
    rw [h0]
    exact wpAny_bind (wpAny_rule (wpAny_pure (hQ _ fun _ => hp)))
  · unfold isSame.created
    refine wpAny_ite ?_
    split
    · rename_i h; rw [h0] at h; exact absurd h Bool.false_ne_true
    refine wpAny_ite ?_
    split
    · rename_i h; exact wpAny_pure (hQ _ fun _ => hpq (beq_iff_eq.mp h))
    refine wpAny_ite ?_
    split
    · exact wpAny_pure (hQ _ fun h => absurd h Bool.false_ne_true)
    rename_i hne
    have hp : p = q := by simpa using hne
    refine wpAny_bind (wpAny_sharingNotTold_none hb ?_)
    rw [if_neg Bool.false_ne_true]
    refine wpAny_bind (wpAny_sharingNotTold_none hb ?_)
    rw [if_neg Bool.false_ne_true]
    exact wpAny_bind (wpAny_rule (wpAny_bind (wpAny_askSetting (wpAny_pure (hQ _ fun _ => hp)))))
theorem same_str {p q : Str} {t u : Tok} {Q : Bool → Shared → Prop} (ht : t ≠ 0) (hu : u ≠ 0) (hpq : t = u → p = q) (hb : NoneBooked s.heap) (hQ : ∀ b : Bool, (b = true → p = q) → Q b s) :
    wpAny M A (isSame (.str p t) (.str q u)) Q E s := by
  have h0 : (t == 0 || u == 0) = false := by simp [ht, hu]
  show wpAny M A (isSame.created (p == q) t u) Q E s
  unfold isSame.created
  refine wpAny_ite ?_
  split
  · rename_i h; rw [h0] at h; exact absurd h Bool.false_ne_true
  refine wpAny_ite ?_
  split
  · rename_i h; exact wpAny_pure (hQ _ fun _ => hpq (beq_iff_eq.mp h))
  refine wpAny_ite ?_
  split
  · exact wpAny_pure (hQ _ fun h => absurd h Bool.false_ne_true)
  rename_i hne
  have hp : p = q := by simpa using hne
  refine wpAny_bind (wpAny_sharingNotTold_none hb ?_)
  rw [if_neg Bool.false_ne_true]
  refine wpAny_bind (wpAny_sharingNotTold_none hb ?_)
  rw [if_neg Bool.false_ne_true]
  exact wpAny_bind (wpAny_rule (wpAny_bind (wpAny_askSetting (wpAny_pure (hQ _ fun _ => hp)))))
theorem is_of {a b : Value} {Q : Value → Shared → Prop} (h : wpAny M A (isSame a b) (fun c s' => Q (.bool c) s') E s) : wpAny M A (compareOp .Is a b) Q E s := by
  show wpAny M A (do return .bool (← isSame a b)) Q E s
  exact wpAny_bind (wpAny_mono h (fun c s' x => wpAny_pure x) fun _ _ x => x)
end
section
variable {prog : Program} {w : World} {A : Around} {s : Shared} {env : Env} {h₀ : Heap}
theorem find_loop {R : Result → Shared → Prop} {xi xc : Str} {pk pv pt pr pq pf : Pos} {x1 : Nat} {test : Expr} {orelse : List Stmt} {I : Addr} {fp wr : List Addr} {n : Nat} {P : Nat → Value → Prop} {St : Nat → Heap → Prop} {Mid : Nat → Addr → Heap → Prop} {m : Str → Option Value} {pz : Nat → Bool} {k : Nat}
    (hh : A.handled = none) (W : WalksT prog w A I fp wr n (fun i vals => ∃ t x, P i x ∧ vals = #[.int i t, x]) St Mid)
    (hxi : env.kindOf xi = some .local) (hxc : env.kindOf xc = some .local) (hne : xi ≠ xc) (hdi : (xi == ("__debug__" : Str)) = false)
    (hp : (env.scope.kind == .class || (env.scope.kind == .module && env.locals != env.globals)) = false) (hfn : env.scope.kind = .function)
    (hLf : env.locals ∉ fp) (hwr : ∀ b ∈ wr, h₀.get? b = none) (hst : St 0 s.heap) (F : Fr h₀ env.locals s.heap m)
    (hk : k < n) (hyes : pz k = true) (hno : ∀ i, i < k → pz i = false)
    (test_ok : ∀ i v (u : Option Value) h tk, i < n → P i v → Fr h₀ env.locals h (fun y => if y = xc then some v else if y = xi then u else m y) → (∀ b, b ∈ fp → ∀ o, h.get? b = some o → True) →
      wpAny (model prog w) A (isTrue test env (eval test env)) (fun b s₂ => b = pz i ∧ ∃ h' tk', s₂ = { s with heap := h', toks := tk' } ∧ ∀ b o, h.get? b = some o → h'.get? b = some o) (notedBy (model prog w) A env fun e s' => R (.error e) s') { s with heap := h, toks := tk })
    (hR : ∀ t h' tk m', Fr h₀ env.locals h' m' → R (.ok (.ret (.int k t))) { s with heap := h', toks := tk }) :
    codeAny (model prog w) A (.forLoop (.Tuple [.Name xi pk, .Name xc pv] x1 pt) (.ref I) [.If test [.Return (some (.Name xi pr)) pq] [] pf] orelse env) R s := by
  have hLw : env.locals ∉ wr := fun h => hLf (W.sub _ h)
  have old : ∀ b o, h₀.get? b = some o → b ∉ wr := fun b o e hb => by rw [hwr b hb] at e; cases e
  have find : ∀ (h : Heap) (m' : Str → Option Value), (∀ y, y ≠ xi → y ≠ xc → m' y = m y) → ∀ (v0 v1 : Value), (fun y => if y = xc then some v1 else if y = xi then some v0 else m' y) = fun y => if y = xc then some v1 else if y = xi then some v0 else m y := by
    intro h m' hm v0 v1
    funext y
    by_cases e1 : y = xc
    · simp [e1]
    · by_cases e2 : y = xi
      · simp [e2]
      · simp [e1, e2, hm y e2 e1]
  refine codeAny_forLoop_any
    (fun d s' => ∃ h' tk m' i, s' = { s with heap := h', toks := tk } ∧ St i h' ∧ Fr h₀ env.locals h' m' ∧ (∀ y, y ≠ xi → y ≠ xc → m' y = m y) ∧ i ≤ k ∧ d = k - i) ?_ k
    ⟨s.heap, s.toks, m, 0, rfl, hst, F, fun _ _ _ => rfl, Nat.zero_le _, rfl⟩
  rintro d s' ⟨H, tk, m', i, rfl, hst', F', hm, hi, rfl⟩
  have next : ∀ h₁ : Heap, (∀ b o, b ∉ wr → H.get? b = some o → h₁.get? b = some o) → Fr h₀ env.locals h₁ m' := fun h₁ hk₁ =>
    ⟨F'.ns.at' fun o e => hk₁ _ o hLw e, fun b o e => hk₁ b o (old b o e) (F'.keep b o e), F'.above⟩
  refine W.item i _ _ _ (by omega) hst' fun T vals h₁ tk₁ hPt _ hT hMid hk₁ => ?_
  obtain ⟨t0, v1, hP, rfl⟩ := hPt
  refine W.go _ x1 pt i T _ _ _ hMid fun h₂ hst₂ hk₂ => ?_
  have ht₂ : h₂.IsTuple T #[.int i t0, v1] := hT.at fun o e => hk₂ T o (W.apart i T h₁ hMid) e
  refine wpAny_assign_Tuple hh ht₂ rfl rfl fun h₃ hx₃ => ?_
  replace hx₃ : Heap.ExtBut h₂.objs.size h₂ h₃ := hx₃
  have up₃ : ∀ b o, h₂.get? b = some o → h₃.get? b = some o := fun b o x => hx₃ b o (Nat.ne_of_lt (Heap.lt_size x)) x
  have F₃ := next h₃ fun b o hb x => up₃ b o (hk₂ b o hb (hk₁ b o hb x))
  show wpAny _ A (do holding [v1] (assign (.Name xi pk) env (.int i t0)); do holding [] (assign (.Name xc pv) env v1); pure ()) _ _ _
  refine wpAny_bind (wpAny_holding (wpAny_assign_Name (wpAny_storeName_local hxi F₃.ns (fun h₄ hn₄ hs₄ => ?_) hp)))
  replace hs₄ : Heap.SameBut env.locals h₃ h₄ := hs₄
  have F₄ := F₃.set hn₄ hs₄
  refine wpAny_bind (wpAny_holding (wpAny_assign_Name (wpAny_storeName_local hxc F₄.ns (fun h₅ hn₅ hs₅ => wpAny_pure ?_) hp)))
  replace hs₅ : Heap.SameBut env.locals h₄ h₅ := hs₅
  have F₅ := F₄.set hn₅ hs₅
  have hst₅ : St (i + 1) h₅ := W.frame _ _ _ hst₂ fun b hb o e => hs₅.extBut b o (fun q => hLf (q ▸ hb)) (hs₄.extBut b o (fun q => hLf (q ▸ hb)) (up₃ b o e))
  rw [find h₅ m' hm] at F₅
  refine wpAny_execs_cons (wpAny_If (wpAny_mono (test_ok i v1 _ h₅ _ (by omega) hP F₅ fun _ _ _ _ => trivial) (fun b s₆ h₆ => ?_) fun _ _ e => e))
  obtain ⟨rfl, h', tk', rfl, keep⟩ := h₆
  have F₆ : Fr h₀ env.locals h' _ := ⟨F₅.ns.keeps keep, fun b o x => keep b o (F₅.keep b o x), F₅.above⟩
  cases hb : pz i with
  | true =>
    have hik : i = k := by
      rcases Nat.lt_or_ge i k with h | h
      · rw [hno i h] at hb; cases hb
      · omega
    subst hik
    simp only [if_true]
    refine wpAny_execs_cons (wpAny_Return_some (wpAny_Name (wpAny_loadName_local (v := .int i t0) hfn hxi F₆.ns ?_ (hR t0 _ _ _ F₆)) hdi))
    show (if xi = xc then some v1 else if xi = xi then some (Value.int i t0) else m xi) = some (Value.int i t0)
    rw [if_neg hne, if_pos rfl]
  | false =>
    have hik : i ≠ k := fun e => by rw [e, hyes] at hb; cases hb
    simp only [Bool.false_eq_true, if_false]
    refine wpAny_execs_nil (wpAny_execs_nil ?_)
    refine ⟨k - (i + 1), by omega, h', tk', _, i + 1, rfl, ?_, F₆, ?_, by omega, rfl⟩
    · exact W.frame _ _ _ hst₅ fun b hb o e => keep b o e
    · intro y e1 e2
      show (if y = xc then some v1 else if y = xi then some (Value.int i t0) else m y) = m y
      rw [if_neg e2, if_neg e1]
end
theorem none_booked {w : World} {h : Heap} (X : (KK w.params).In h) : NoneBooked h := by
  have h2 : h.get? cStatics = some (boot_o_2 w.params) := X 2 (boot_o_2 w.params) rfl
  refine ⟨fun _ => none, ⟨_, #[], 0, h2, rfl, ?_, ?_⟩, rfl⟩
  · intro e he; simp at he
  · intro x; rfl
theorem Fr.keeps_up {h₀ h h' : Heap} {L L' : Addr} {m m' : Str → Option Value} (F : Fr h₀ L h m) (F' : Fr h L' h' m') : Fr h₀ L h' m := ⟨F.ns.keeps F'.keep, fun b o e => F'.keep b o (F.keep b o e), F.above⟩
theorem codeRec_K {w : World} {h : Heap} {v : Value} {q : Str} (X : (KK w.params).In h) (e : codeIn (KK w.params) v q = true) : h.CodeRec v q := codeRec_of X e
set_option maxHeartbeats 4000000 in
theorem index_con {w : World} {news : List (Addr × Obj)} {l : Addr} {vs : List Value} {n : Nat} {b : Value} {same : Nat → Bool} {k : Nat} {tk0 : Nat} (hl : (l, listOf vs.toArray n) ∈ news)
    (hIs : ∀ i v, vs[i]? = some v → ∀ (A : Around) (s : Shared) (Q E : Value → Shared → Prop), (∀ p ∈ news, s.heap.get? p.1 = some p.2) → (KK w.params).In s.heap → A.units + 70 < cLine → A.handled = none → (∀ c : Bool, (c = true → same i = true) → Q (.bool c) s) → wpAny (model Challenge.rw_wf0091_01.prog w) A (compareOp .Is v b) Q E s)
    (hEq : ∀ i v, vs[i]? = some v → ∀ (A : Around) (s : Shared) (Q E : Value → Shared → Prop), (∀ p ∈ news, s.heap.get? p.1 = some p.2) → (KK w.params).In s.heap → A.units + 70 < cLine → A.handled = none → Q (.bool (same i)) s → wpAny (model Challenge.rw_wf0091_01.prog w) A (compareOp .Eq v b) Q E s)
    (hk : k < vs.length) (hyes : same k = true) (hno : ∀ i, i < k → same i = false) :
    Con w 119 [.ref l, b] 3 80 tk0 news (fun r news' _ => news' = news ∧ ∃ t, r = .int k t) := by
  unfold Con
  k_fill
  intro mean mg mb dp un gd cn cs a ccd cl outer A₀ base h₀ L m s Q E B F X N T hks hdp hun htk0 hret
  have Xs := X.keeps F.keep
  have Ts := T.keeps F.keep
  refine wpAny_with_toks (Nat.le_refl _) ?_
  have ho := Xs 119 (ob119 w.params) rfl
  refine wpAny_call (call_plain (name := Str.ofString "indexOf") (params := (fnOfStm 15).1) (body := (fnOfStm 15).2.1) (scope := (fnOfStm 15).2.2) (binds := [(Str.ofString "a", .ref l), (Str.ofString "b", b)]) ?_ ho rfl Ts.nolimit ?_ rfl ?_ (fun h₁ F₁ => ?_) rfl rfl rfl ?_)
  · show dp < recursionLimit
    omega
  · exact codeRec_of Xs (by k_is)
  · exact locs rfl
  · have N₁ : News s.heap s.heap.objs.size h₁ [] := News.nil
    conv => (arg 3; arg 1; whnf)
    wrow_steps
    refine wpAny_For ?_ (fun _ => rfl)
    wrow_steps
    have hls : h₁.IsList l vs.toArray := ⟨_, F₁.keep _ _ (N _ hl).1, rfl, n, rfl⟩
    have hlt : l < h₁.objs.size := Heap.lt_size (F₁.keep _ _ (N _ hl).1)
    have hls0 : s.heap.IsList l vs.toArray := ⟨_, (N _ hl).1, rfl, n, rfl⟩
    have hl0 : l < s.heap.objs.size := Heap.lt_size (N _ hl).1
    have hL1 : s.heap.objs.size < h₁.objs.size := F₁.ns.lt
    refine call_enumerate_list (s := { s with heap := h₁, toks := _ }) hls fun h₂ he hit hsz hkp => ?_
    dsimp only at he hit hsz hkp
    have F₂ : Fr s.heap s.heap.objs.size h₂ _ := ⟨F₁.ns.keeps hkp, fun b o e => hkp b o (F₁.keep b o e), F₁.above⟩
    refine wpAny_pyIter_enum he ?_
    have D := Draws.list (prog := Challenge.rw_wf0091_01.prog) (w := w) (A := ((ktrTop dp un gd cn cs L a ccd cl outer).deeper (envOf (Str.ofString "indexOf") (fnOfStm 15).2.2 s.heap.objs.size 119 (.ref 118))).in1) rfl h₁.objs.size l (Nat.ne_of_lt hlt) vs.toArray
    have W := WalksT.enumerateD D (h₁.objs.size + 1) (Nat.succ_ne_self _) (fun hm => by rcases List.mem_cons.mp hm with e | hm; exact absurd e (Nat.succ_ne_self _); exact absurd (List.mem_singleton.mp hm) (Nat.ne_of_gt (Nat.lt_succ_of_lt hlt))) (List.mem_cons_self ..)
    refine find_loop (h₀ := s.heap) (pz := same) (k := k) rfl W rfl rfl (by decide) (by decide) rfl rfl ?_ ?_ ⟨⟨_, he⟩, hit, hls.at fun o e => hkp l o e⟩ F₂ (by simpa using hk) hyes hno ?_ ?_
    · intro hm
      rcases List.mem_cons.mp hm with e | hm
      · exact absurd e (Nat.ne_of_lt (Nat.lt_succ_of_lt hL1))
      · rcases List.mem_cons.mp hm with e | hm
        · exact absurd e (Nat.ne_of_lt hL1)
        · exact absurd (List.mem_singleton.mp hm) (Nat.ne_of_gt hl0)
    · intro b hb
      rcases List.mem_cons.mp hb with e | hb
      · exact e ▸ Heap.get?_none_of_le (Nat.le_of_lt (Nat.lt_succ_of_lt hL1))
      · exact (List.mem_singleton.mp hb) ▸ Heap.get?_none_of_le (Nat.le_of_lt hL1)
    · intro i v u h tk hi hP F₃ _
      have hv : vs[i]? = some v := by simpa using hP
      have hheap : ∀ p ∈ news, h.get? p.1 = some p.2 := fun p hp => F₃.keep _ _ (N p hp).1
      have N₃ : News s.heap s.heap.objs.size h [] := News.nil
      wrow_steps
      refine hIs i v hv _ _ _ _ hheap (Xs.keeps F₃.keep) (by show un + 3 + 70 < cLine; omega) rfl fun c hc => ?_
      cases c with
      | true =>
        wrow_steps
        all_goals first | exact (hc rfl).symm | rfl | exact ⟨_, _, rfl, fun _ _ e => e⟩
      | false =>
        wrow_steps
        refine hEq i v hv _ _ _ _ hheap (Xs.keeps F₃.keep) (by show un + 3 + 70 < cLine; omega) rfl ?_
        wrow_steps
        all_goals first | (symm; assumption) | rfl | exact ⟨_, _, rfl, fun _ _ e => e⟩
    · intro t h' tk m' F'
      show s.toks ≤ tk → Q _ _
      intro htk
      exact hret _ _ _ _ (Fr.keeps_up F F') (fun p hp => ⟨F'.keep _ _ (N p hp).1, (N p hp).2⟩) htk ⟨rfl, _, rfl⟩
  · decide
end
section
section
variable {prog : Program} {w : World} {A : Around} {E : Value → Shared → Prop} {s : Shared}
theorem entry_proto_is : entryFor table "proto.is" = some Builtin.«proto.is» := entryFor_of_fast (by kernel_rfl)
theorem proto_is {p q : Value} {Q : Value → Shared → Prop} (h : wpAny (model prog w) A.in1 (isSame p q) (fun b s' => Q (.bool b) s') E s) : wpAny (model prog w) A (runValue (.builtin "proto.is" ⟨[p, q], []⟩)) Q E s := by
  refine wpAny_runValue (codeAny_builtin entry_proto_is ?_)
  rw [Around.under_plainId (by decide +kernel)]
  show wpAny _ _ (isSame p q >>= fun b => ret (.bool b)) _ _ s
  exact wpAny_bind (wpAny_mono h (fun b s' x => wpAny_pure x) fun _ _ x => x)
noncomputable def intV (p : Int × Tok) : Value := .int p.1 p.2
theorem items_int (ps qs : List (Int × Tok)) (Q : Bool → Shared → Prop) (hp : ∀ p ∈ ps, p.2 ≠ 0) (hq : ∀ q ∈ qs, q.2 ≠ 0) (hpq : ∀ p ∈ ps, ∀ q ∈ qs, p.2 = q.2 → p.1 = q.1) (hb : NoneBooked s.heap) (hQ : ∀ b : Bool, (b = true → ps.map (·.1) = qs.map (·.1)) → Q b s) :
    wpAny (model prog w) A (sameItems (ps.map intV).toArray (qs.map intV).toArray) Q E s := by
  unfold sameItems
  refine wpAny_ite ?_
  split
  · exact wpAny_pure (hQ _ fun h => absurd h Bool.false_ne_true)
  rename_i hsz
  have hlen : ps.length = qs.length := by simpa using hsz
  have hz : (ps.map intV).toArray.toList.zip (qs.map intV).toArray.toList = (ps.zip qs).map fun z => (intV z.1, intV z.2) := by
    simp [List.zip_map]
  rw [hz]
  have hmap : ∀ (l : List ((Int × Tok) × (Int × Tok))), (∀ z ∈ l, z.1.1 = z.2.1) → (l.map (·.1)).map (·.1) = (l.map (·.2)).map (·.1) := by
    intro l h
    induction l with
    | nil => rfl
    | cons z l ih => simp only [List.map_cons, List.cons.injEq]; exact ⟨h z (.head _), ih fun y hy => h y (.tail _ hy)⟩
  refine wpAny_bind (wpAny_mono (wpAny_forIn_list _ (fun rest (b : Option Bool × Unit) s' => b.1 = none ∧ s' = s ∧ ∃ done : List ((Int × Tok) × (Int × Tok)), rest = ((ps.zip qs).drop done.length).map (fun z => (intV z.1, intV z.2)) ∧ done = (ps.zip qs).take done.length ∧ ∀ z ∈ done, z.1.1 = z.2.1)
    (fun b s' => s' = s ∧ (b.1 = none ∧ (∀ z ∈ ps.zip qs, z.1.1 = z.2.1) ∨ b.1 = some false)) ?turn ?fin _ _ ⟨rfl, rfl, [], by simp, by simp, fun _ h => nomatch h⟩) ?post fun _ _ e => e)
  case turn =>
    rintro x rest b s' ⟨hb1, rfl, done, hrest, hdone, hall⟩
    have hne : done.length < (ps.zip qs).length := by
      rcases Nat.lt_or_ge done.length (ps.zip qs).length with h | h
      · exact h
      · rw [List.drop_of_length_le h] at hrest; cases hrest
    rw [List.drop_eq_getElem_cons hne, List.map_cons] at hrest
    obtain ⟨rfl, rfl⟩ := List.cons.inj hrest
    have hmem : (ps.zip qs)[done.length] ∈ ps.zip qs := List.getElem_mem _
    generalize hz' : (ps.zip qs)[done.length] = z at hmem
    have hm1 := List.of_mem_zip (a := z.1) (b := z.2) hmem
    refine wpAny_bind (proto_is (same_int (hp _ hm1.1) (hq _ hm1.2) (hpq _ hm1.1 _ hm1.2) hb fun c hc => ?_))
    cases c with
    | false => exact wpAny_pure ⟨rfl, .inr rfl⟩
    | true =>
      have hall' : ∀ y ∈ done ++ [z], y.1.1 = y.2.1 := by
        intro y hy
        rcases List.mem_append.mp hy with h | h
        · exact hall y h
        · rw [List.mem_singleton.mp h]; exact hc rfl
      refine wpAny_bind (wpAny_askSetting (wpAny_ite ?_))
      split
      · exact wpAny_pure ⟨rfl, .inr rfl⟩
      · show wpAny _ _ (emptiesJoinedAsOfOld _ (.int _ _) (.int _ _) >>= _) _ _ _
        refine wpAny_bind (wpAny_pure ?_)
        refine wpAny_ite ?_
        simp only [Bool.not_true, Bool.false_eq_true, if_false]
        refine wpAny_pure ⟨rfl, rfl, done ++ [z], ?_, ?_, hall'⟩
        · simp
        · rw [List.length_append, List.length_singleton, List.take_add_one, ← hdone, List.getElem?_eq_getElem hne, hz']; rfl
  case fin =>
    rintro b s' ⟨hb1, rfl, done, hrest, hdone, hall⟩
    refine ⟨rfl, .inl ⟨hb1, ?_⟩⟩
    have : (ps.zip qs).length ≤ done.length := by
      have := congrArg List.length hrest
      simp at this
      simp; omega
    rw [List.take_of_length_le this] at hdone
    rw [← hdone]; exact hall
  case post =>
    rintro ⟨b1, b2⟩ s' ⟨rfl, h⟩
    dsimp only at h ⊢
    rcases h with ⟨h1, h2⟩ | h1
    · rw [h1]
      refine wpAny_pure (hQ _ fun _ => ?_)
      have := hmap _ h2
      rwa [List.map_fst_zip (by omega), List.map_snd_zip (by omega)] at this
    · rw [h1]
      exact wpAny_pure (hQ _ fun h => absurd h Bool.false_ne_true)
theorem is_tuple {x y : Addr} {n m : Nat} {ps qs : List (Int × Tok)} {Q : Value → Shared → Prop} (hx : s.heap.get? x = some { cls := .type "tuple", data := .seq (ps.map intV).toArray n }) (hy : s.heap.get? y = some { cls := .type "tuple", data := .seq (qs.map intV).toArray m })
    (hne : ps ≠ []) (hp : ∀ p ∈ ps, p.2 ≠ 0) (hq : ∀ q ∈ qs, q.2 ≠ 0) (hpq : ∀ p ∈ ps, ∀ q ∈ qs, p.2 = q.2 → p.1 = q.1) (hb : NoneBooked s.heap) (hQ : ∀ b : Bool, (b = true → ps.map (·.1) = qs.map (·.1)) → Q (.bool b) s) :
    wpAny (model prog w) A (compareOp .Is (.ref x) (.ref y)) Q E s := by
  refine is_of ?_
  unfold isSame
  by_cases hxy : x = y
  · subst hxy
    have e : ps.map intV = qs.map intV := by
      rw [hx] at hy
      have := Option.some.inj hy
      injection this with _ _ h _
      injection h with h _
      simpa using h
    have e2 : ps = qs := by
      have inj : ∀ (a b : List (Int × Tok)), a.map intV = b.map intV → a = b := by
        intro a
        induction a with
        | nil => intro b h; cases b with
          | nil => rfl
          | cons => cases h
        | cons p a ih => intro b h; cases b with
          | nil => cases h
          | cons q b =>
            simp only [List.map_cons, List.cons.injEq, intV, Value.int.injEq] at h
            rw [ih b h.2, Prod.ext h.1.1 h.1.2]
      exact inj _ _ e
    show wpAny _ _ (if (x == x) = true then pure true else _) _ _ _
    refine wpAny_ite ?_
    rw [if_pos (by simp)]
    exact wpAny_pure (hQ _ fun _ => by rw [e2])
  · show wpAny _ _ (if (x == y) = true then pure true else _) _ _ _
    refine wpAny_ite ?_
    rw [if_neg (by simpa using hxy)]
    refine wpAny_bind (wpAny_load hx (wpAny_bind (wpAny_load hy ?_)))
    dsimp only
    refine wpAny_ite ?_
    rw [if_neg (by simp [hne])]
    unfold sameTuple
    refine wpAny_bind (wpAny_askSetting ?_)
    refine wpAny_ite ?_
    split
    · exact wpAny_pure (hQ _ fun h => absurd h Bool.false_ne_true)
    refine wpAny_ite ?_
    split
    · exact wpAny_pure (hQ _ fun h => absurd h Bool.false_ne_true)
    refine wpAny_bind (wpAny_holding (items_int ps qs _ hp hq hpq hb fun b hb' => ?_))
    cases b with
    | true => exact wpAny_bind (wpAny_rule (wpAny_pure (hQ _ fun _ => hb' rfl)))
    | false => exact wpAny_pure (hQ _ fun h => absurd h Bool.false_ne_true)
end
end
section
noncomputable abbrev Row := Int × Int × Int
noncomputable def rowL (r : Row) : List Int := [r.1, r.2.1, r.2.2]
noncomputable def rowD (r : Row) : Dat := .tuple ((rowL r).map .int)
theorem rowL_inj {r q : Row} (h : rowL r = rowL q) : r = q := by
  obtain ⟨a, b, c⟩ := r
  obtain ⟨d, e, g⟩ := q
  simp only [rowL, List.cons.injEq, and_true] at h
  rw [h.1, h.2.1, h.2.2]
noncomputable abbrev tupO (vs : List Value) (n : Nat) : Obj := { cls := .type "tuple", data := .seq vs.toArray n }
noncomputable def TkAt (f : Nat → Int) (tk : Nat) (i : Int) (t : Tok) : Prop := t ≠ 0 ∧ t < tk ∧ f t = i
theorem TkAt.mono {f g : Nat → Int} {tk tk' : Nat} {i : Int} {t : Tok} (h : TkAt f tk i t) (hg : ∀ u, u < tk → g u = f u) (hk : tk ≤ tk') : TkAt g tk' i t := ⟨h.1, Nat.lt_of_lt_of_le h.2.1 hk, (hg _ h.2.1).trans h.2.2⟩
noncomputable def RowIn (f : Nat → Int) (tk : Nat) (T : List (Addr × Obj)) (v : Value) (r : Row) : Prop :=
  ∃ (a : Addr) (n : Nat) (ps : List (Int × Tok)), v = .ref a ∧ (a, tupO (ps.map intV) n) ∈ T ∧ ps.map (·.1) = rowL r ∧ ∀ p ∈ ps, TkAt f tk p.1 p.2
theorem RowIn.mono {f g : Nat → Int} {tk tk' : Nat} {T T' : List (Addr × Obj)} {v : Value} {r : Row} (h : RowIn f tk T v r) (hT : ∀ p ∈ T, p ∈ T') (hg : ∀ u, u < tk → g u = f u) (hk : tk ≤ tk') : RowIn g tk' T' v r :=
  by obtain ⟨a, n, ps, h1, h2, h3, h4⟩ := h; exact ⟨a, n, ps, h1, hT _ h2, h3, fun p hp => (h4 p hp).mono hg hk⟩
noncomputable def RowsIn (f : Nat → Int) (tk : Nat) (T : List (Addr × Obj)) (vs : List Value) (rows : List Row) : Prop :=
  vs.length = rows.length ∧ ∀ (i : Nat) (v : Value) (r : Row), vs[i]? = some v → rows[i]? = some r → RowIn f tk T v r
theorem RowsIn.mono {f g : Nat → Int} {tk tk' : Nat} {T T' : List (Addr × Obj)} {vs : List Value} {rows : List Row} (h : RowsIn f tk T vs rows) (hT : ∀ p ∈ T, p ∈ T') (hg : ∀ u, u < tk → g u = f u) (hk : tk ≤ tk') : RowsIn g tk' T' vs rows :=
  ⟨h.1, fun i v r h1 h2 => (h.2 i v r h1 h2).mono hT hg hk⟩
theorem RowsIn.snoc {f : Nat → Int} {tk : Nat} {T : List (Addr × Obj)} {vs : List Value} {rows : List Row} {v : Value} {r : Row} (h : RowsIn f tk T vs rows) (hr : RowIn f tk T v r) : RowsIn f tk T (vs ++ [v]) (rows ++ [r]) := by
  refine ⟨by simp [h.1], fun i x q h1 h2 => ?_⟩
  rcases Nat.lt_trichotomy i vs.length with hi | hi | hi
  · rw [List.getElem?_append_left hi] at h1
    rw [List.getElem?_append_left (h.1 ▸ hi)] at h2
    exact h.2 i x q h1 h2
  · subst hi
    rw [List.getElem?_append_right (Nat.le_refl _)] at h1
    rw [h.1, List.getElem?_append_right (Nat.le_refl _)] at h2
    simp at h1 h2
    subst h1 h2
    exact hr
  · rw [List.getElem?_append_right (Nat.le_of_lt hi)] at h1
    have : i - vs.length ≠ 0 := Nat.sub_ne_zero_of_lt hi
    obtain ⟨j, hj⟩ := Nat.exists_eq_succ_of_ne_zero this
    rw [hj] at h1
    simp at h1
theorem intsDat {T : List (Addr × Obj)} : ∀ (ps : List (Int × Tok)), DatAll T (ps.map intV) ((ps.map (·.1)).map .int)
  | [] => .nil
  | p :: ps => .cons (.int p.1 p.2) (intsDat ps)
theorem RowIn.dat {f : Nat → Int} {tk : Nat} {T : List (Addr × Obj)} {v : Value} {r : Row} (h : RowIn f tk T v r) : DatIn T v (rowD r) := by
  obtain ⟨a, n, ps, rfl, h2, h3, _⟩ := h
  exact .tuple h2 (h3 ▸ intsDat ps)
theorem RowsIn.dat {f : Nat → Int} {tk : Nat} {T : List (Addr × Obj)} : ∀ {vs : List Value} {rows : List Row}, RowsIn f tk T vs rows → DatAll T vs (rows.map rowD)
  | [], [], _ => .nil
  | [], _ :: _, h => by simp [RowsIn] at h
  | _ :: _, [], h => by simp [RowsIn] at h
  | v :: vs, r :: rows, h => .cons (h.2 0 v r rfl rfl).dat (RowsIn.dat ⟨by simpa using h.1, fun i x q h1 h2 => h.2 (i + 1) x q (by simpa using h1) (by simpa using h2)⟩)
theorem rowD_inj {r q : Row} (h : rowD r = rowD q) : r = q := by
  refine rowL_inj ?_
  have h1 : (rowL r).map Dat.int = (rowL q).map Dat.int := by injection h
  have inj : ∀ (a b : List Int), a.map Dat.int = b.map Dat.int → a = b := by
    intro a
    induction a with
    | nil => intro b h; cases b with
      | nil => rfl
      | cons => cases h
    | cons x a ih => intro b h; cases b with
      | nil => cases h
      | cons y b =>
        simp only [List.map_cons, List.cons.injEq, Dat.int.injEq] at h
        rw [h.1, ih b h.2]
  exact inj _ _ h1
theorem rowD_mem {r : Row} {rows : List Row} : rowD r ∈ rows.map rowD ↔ r ∈ rows := by
  constructor
  · intro h
    obtain ⟨q, hq, e⟩ := List.mem_map.mp h
    exact rowD_inj e ▸ hq
  · exact fun h => List.mem_map.mpr ⟨r, h, rfl⟩
theorem rowD_ok (r : Row) : kqdOk 8 (rowD r) = true := rfl
section
variable {prog : Program} {w : World} {A : Around} {E : Value → Shared → Prop} {s : Shared}
theorem readsInts {h : Heap} : ∀ ps : List (Int × Tok), ReadsAll h (ps.map intV) ((ps.map (·.1)).map PyData.int) []
  | [] => .nil
  | p :: ps => readsAll_cons_val (Reads.int p.1 p.2) (readsInts ps)
theorem eqvInts : ∀ a b : List Int, PyData.eqvAll (a.map PyData.int) (b.map PyData.int) = decide (a = b)
  | [], [] => by simp [PyData.eqvAll]
  | [], _ :: _ => by simp [PyData.eqvAll]
  | _ :: _, [] => by simp [PyData.eqvAll]
  | x :: a, y :: b => by
    simp only [List.map_cons, PyData.eqvAll, PyData.eqv, eqvInts a b]
    by_cases h : x = y <;> by_cases h' : a = b <;> simp [h, h']
theorem eq_tuple {x y : Addr} {n m : Nat} {ps qs : List (Int × Tok)} {Q : Value → Shared → Prop} (hx : s.heap.get? x = some (tupO (ps.map intV) n)) (hy : s.heap.get? y = some (tupO (qs.map intV) m)) (hu : A.units + 64 < cLine)
    (h : Q (.bool (decide (ps.map (·.1) = qs.map (·.1)))) s) : wpAny (model prog w) A (compareOp .Eq (.ref x) (.ref y)) Q E s := by
  have sh : ∀ l : List Int, SeqAt.shaped (.tuple (l.map PyData.int)) = true := fun l => by simp [SeqAt.shaped, PyData.canLay0, PyData.depth, ke_canLayAll0, ke_depthAll]
  refine eq_dataH (reads_tuple_at (xs := (ps.map (·.1)).map PyData.int) (as := []) hx rfl rfl (by rw [List.toList_toArray]; exact readsInts ps)) (reads_tuple_at (xs := (qs.map (·.1)).map PyData.int) (as := []) hy rfl rfl (by rw [List.toList_toArray]; exact readsInts qs)) (sh _) (sh _) hu ?_
  have : PyData.eqv (.tuple ((ps.map (·.1)).map PyData.int)) (.tuple ((qs.map (·.1)).map PyData.int)) = decide (ps.map (·.1) = qs.map (·.1)) := by
    simp only [PyData.eqv]; exact eqvInts _ _
  rw [this]; exact h
end
theorem index_rows {w : World} {news : List (Addr × Obj)} {l : Addr} {vs : List Value} {n : Nat} {b : Value} {rows : List Row} {r : Row} {f : Nat → Int} {tk : Nat} (hl : (l, listOf vs.toArray n) ∈ news) (hR : RowsIn f tk news vs rows) (hb : RowIn f tk news b r) (hr : r ∈ rows) :
    Con w 119 [.ref l, b] 3 100 0 news (fun v news' _ => news' = news ∧ ∃ t, v = .int (rows.idxOf r) t) := by
  obtain ⟨y, ny, qs, rfl, hy, hqs, hqt⟩ := hb
  have hne : qs ≠ [] := by rintro rfl; cases hqs
  have hlt : rows.idxOf r < rows.length := List.idxOf_lt_length_of_mem hr
  have C := index_con (w := w) (news := news) (l := l) (vs := vs) (n := n) (b := .ref y) (same := fun i => decide (rows[i]? = some r)) (k := rows.idxOf r) (tk0 := 0) hl ?_ ?_ (by rw [hR.1]; exact hlt) ?_ ?_
  · intro mean mg mb dp un gd cn cs a ccd cl outer A₀ base h₀ L m s Q E B F X N T hks hdp hun htk hret
    exact C mean mg mb dp un gd cn cs a ccd cl outer A₀ base h₀ L m s Q E B F X N T hks hdp (by omega) htk hret
  · intro i v hv A s Q E hh X hu hhd hQ
    have hi : i < rows.length := by rw [← hR.1]; exact (List.getElem?_eq_some_iff.mp hv).1
    obtain ⟨x, nx, ps, rfl, hx, hps, hpt⟩ := hR.2 i v _ hv (List.getElem?_eq_getElem hi)
    refine is_tuple (hh _ hx) (hh _ hy) (by rintro rfl; cases hps) (fun p hp => (hpt p hp).1) (fun q hq => (hqt q hq).1) (fun p hp q hq e => by rw [← (hpt p hp).2.2, e, (hqt q hq).2.2]) (none_booked X) fun c hc => hQ c fun e => ?_
    have h1 : rows[i] = r := rowL_inj (by rw [← hps, ← hqs]; exact hc e)
    simp [List.getElem?_eq_getElem hi, h1]
  · intro i v hv A s Q E hh X hu hhd hQ
    have hi : i < rows.length := by rw [← hR.1]; exact (List.getElem?_eq_some_iff.mp hv).1
    obtain ⟨x, nx, ps, rfl, hx, hps, hpt⟩ := hR.2 i v _ hv (List.getElem?_eq_getElem hi)
    refine eq_tuple (hh _ hx) (hh _ hy) ?_ ?_
    · omega
    · have : decide (ps.map (·.1) = qs.map (·.1)) = decide (rows[i]? = some r) := by
        rw [List.getElem?_eq_getElem hi, hps, hqs]
        by_cases e : rows[i] = r
        · simp [e]
        · have : ¬ rowL rows[i] = rowL r := fun h => e (rowL_inj h)
          simp [e, this]
      rw [this]; exact hQ
  · have h1 : rows[rows.idxOf r] = r := List.getElem_idxOf hlt
    simp [List.getElem?_eq_getElem hlt, h1]
  · intro i hi
    have hi' : i < rows.length := Nat.lt_trans hi hlt
    simp only [decide_eq_false_iff_not, List.getElem?_eq_getElem hi', Option.some.injEq]
    have := List.not_of_lt_findIdx hi
    simpa using this
noncomputable def nodeP (rows : List Row) (l lo hi : Int) : List Row × Int :=
  if lo = hi then (rows, lo) else
    if (l, lo, hi) ∈ rows then (rows, 256 + (rows.idxOf (l, lo, hi) : Int)) else (rows ++ [(l, lo, hi)], 256 + (rows.length : Int))
noncomputable def PoolPost (f : Nat → Int) (tk0 : Nat) (pl : Addr) (T : List (Addr × Obj)) (rows' : List Row) (node : Int) (r : Value) (news' : List (Addr × Obj)) (tk' : Nat) : Prop :=
  ∃ (vs' : List Value) (n' : Nat) (tl : List (Addr × Obj)) (g : Nat → Int) (t : Tok), r = .int node t ∧ news' = (pl, listOf vs'.toArray n') :: (tl ++ T) ∧ (∀ p ∈ tl, p.1 ≠ pl ∧ ∀ q ∈ T, p.1 ≠ q.1) ∧ (∀ u, u < tk0 → g u = f u) ∧ RowsIn g tk' (tl ++ T) vs' rows' ∧ TkAt g tk' node t
theorem allLt_mem {d : Addr} {l : List (Addr × Obj)} (h : AllLt d l) (p : Addr × Obj) (hp : p ∈ l) : p.1 < d := by
  induction l with
  | nil => cases hp
  | cons q l ih =>
    unfold AllLt at h
    rcases List.mem_cons.mp hp with e | hp
    · rw [e]; exact h.1
    · exact ih h.2 hp
noncomputable def setAt (f : Nat → Int) (t : Nat) (i : Int) (u : Nat) : Int := if u = t then i else f u
theorem setAt_same {f : Nat → Int} {t : Nat} {i : Int} : setAt f t i t = i := if_pos rfl
theorem setAt_low {f : Nat → Int} {t tk : Nat} {i : Int} (h : tk ≤ t) : ∀ u, u < tk → setAt f t i u = f u := fun u hu => if_neg (Nat.ne_of_lt (Nat.lt_of_lt_of_le hu h))
theorem node_way {f : Nat → Int} {tk0 tk : Nat} {pl D : Addr} {T : List (Addr × Obj)} {vs : List Value} {n : Nat} {rows : List Row} {node : Int} {o : Obj} (hR : RowsIn f tk0 T vs rows) (hl1 : pl < D ∧ AllLt D T) (hk : tk0 ≤ tk) (h0 : tk0 ≠ 0) :
    PoolPost f tk0 pl T rows node (.int node tk) ((pl, listOf vs.toArray n) :: ([(D, o)] ++ T)) (tk + 1) := by
  refine ⟨vs, n, [(D, o)], setAt f tk node, tk, rfl, rfl, ?_, setAt_low hk, ?_, Nat.ne_of_gt (Nat.lt_of_lt_of_le (Nat.pos_of_ne_zero h0) hk), Nat.lt_succ_self _, setAt_same⟩
  · intro p hp
    rw [List.mem_singleton.mp hp]
    exact ⟨Nat.ne_of_gt hl1.1, fun q hq => Nat.ne_of_gt (allLt_mem hl1.2 q hq)⟩
  · exact hR.mono (fun p hp => .tail _ hp) (setAt_low hk) (by omega)
theorem node_way2 {f : Nat → Int} {tk0 tk : Nat} {pl D : Addr} {T : List (Addr × Obj)} {vs : List Value} {n n' : Nat} {rows : List Row} {node l lo hi : Int} {tl tlo thi : Tok} (hR : RowsIn f tk0 T vs rows) (h1 : TkAt f tk0 l tl) (h2 : TkAt f tk0 lo tlo) (h3 : TkAt f tk0 hi thi)
    (hl1 : pl < D ∧ AllLt D T) (hk : tk0 ≤ tk) :
    PoolPost f tk0 pl T (rows ++ [(l, lo, hi)]) node (.int node tk) ((pl, listOf (vs ++ [Value.ref D]).toArray n) :: ([(D, tupO [.int l tl, .int lo tlo, .int hi thi] n')] ++ T)) (tk + 1) := by
  have h0 : tk0 ≠ 0 := Nat.ne_of_gt (Nat.lt_of_le_of_lt (Nat.zero_le _) h1.2.1)
  refine ⟨_, n, [(D, _)], setAt f tk node, tk, rfl, rfl, ?_, setAt_low hk, ?_, Nat.ne_of_gt (Nat.lt_of_lt_of_le (Nat.pos_of_ne_zero h0) hk), Nat.lt_succ_self _, setAt_same⟩
  · intro p hp
    rw [List.mem_singleton.mp hp]
    exact ⟨Nat.ne_of_gt hl1.1, fun q hq => Nat.ne_of_gt (allLt_mem hl1.2 q hq)⟩
  · refine (hR.mono (fun p hp => .tail _ hp) (setAt_low hk) (by omega)).snoc ⟨D, n', [(l, tl), (lo, tlo), (hi, thi)], rfl, .head _, rfl, ?_⟩
    intro p hp
    simp only [List.mem_cons, List.not_mem_nil, or_false] at hp
    rcases hp with rfl | rfl | rfl
    · exact h1.mono (setAt_low hk) (by omega)
    · exact h2.mono (setAt_low hk) (by omega)
    · exact h3.mono (setAt_low hk) (by omega)
theorem row_in3 {f : Nat → Int} {tk : Nat} {D : Addr} {n : Nat} {T : List (Addr × Obj)} {l lo hi : Int} {tl tlo thi : Tok} (h1 : TkAt f tk l tl) (h2 : TkAt f tk lo tlo) (h3 : TkAt f tk hi thi) (hm : (D, tupO [.int l tl, .int lo tlo, .int hi thi] n) ∈ T) : RowIn f tk T (.ref D) (l, lo, hi) := by
  refine ⟨D, n, [(l, tl), (lo, tlo), (hi, thi)], rfl, hm, rfl, ?_⟩
  intro p hp
  simp only [List.mem_cons, List.not_mem_nil, or_false] at hp
  rcases hp with rfl | rfl | rfl <;> assumption
theorem idxOf_snoc {r : Row} : ∀ {rows : List Row}, r ∉ rows → (rows ++ [r]).idxOf r = rows.length
  | [], _ => by simp
  | q :: rows, h => by
    have hq : ¬ q = r := fun e => h (e ▸ .head _)
    rw [List.cons_append, List.idxOf_cons, idxOf_snoc (fun hm => h (.tail _ hm)), show (q == r) = false from beq_eq_false_iff_ne.mpr hq]
    rfl
theorem swap_mem {α : Type} {a b : α} {l : List α} : ∀ p ∈ b :: ([a] ++ l), p ∈ a :: b :: l := by
  intro p hp
  simp only [List.mem_cons, List.mem_append, List.not_mem_nil, or_false] at hp ⊢
  rcases hp with h | h | h <;> simp [h]
theorem node_end {h₀ h : Heap} {L : Addr} {f : Nat → Int} {tk0 tk : Nat} {pl D : Addr} {T : List (Addr × Obj)} {vs : List Value} {n : Nat} {rows : List Row} {node : Int} {o : Obj} (kN : News h₀ L h ((D, o) :: (pl, listOf vs.toArray n) :: T)) (hR : RowsIn f tk0 T vs rows) (hl1 : pl < D ∧ AllLt D T) (hk : tk0 ≤ tk) (h0 : tk0 ≠ 0) :
    ∃ news', News h₀ L h news' ∧ PoolPost f tk0 pl T rows node (.int node tk) news' (tk + 1) := ⟨_, News.sub kN swap_mem, node_way hR hl1 hk h0⟩
theorem node_end2 {h₀ h : Heap} {L : Addr} {f : Nat → Int} {tk0 tk : Nat} {pl D : Addr} {T : List (Addr × Obj)} {vs : List Value} {n n' : Nat} {rows : List Row} {node l lo hi : Int} {tl tlo thi : Tok} (kN : News h₀ L h ((D, tupO [.int l tl, .int lo tlo, .int hi thi] n') :: (pl, listOf (vs ++ [Value.ref D]).toArray n) :: T)) (hR : RowsIn f tk0 T vs rows) (h1 : TkAt f tk0 l tl) (h2 : TkAt f tk0 lo tlo) (h3 : TkAt f tk0 hi thi)
    (hl1 : pl < D ∧ AllLt D T) (hk : tk0 ≤ tk) : ∃ news', News h₀ L h news' ∧ PoolPost f tk0 pl T (rows ++ [(l, lo, hi)]) node (.int node tk) news' (tk + 1) := ⟨_, News.sub kN swap_mem, node_way2 hR h1 h2 h3 hl1 hk⟩
end
section
set_option maxHeartbeats 4000000 in
theorem node_con {w : World} {pl : Addr} {vs : List Value} {n : Nat} {T : List (Addr × Obj)} {rows : List Row} {f : Nat → Int} {tk0 : Nat} {l lo hi : Int} {tl tlo thi : Tok} (hT : ∀ p ∈ T, p.1 ≠ pl) (hR : RowsIn f tk0 T vs rows)
    (h1 : TkAt f tk0 l tl) (h2 : TkAt f tk0 lo tlo) (h3 : TkAt f tk0 hi thi) (hz : rows.length ≤ 100000) :
    Con w 240 [.ref pl, .int l tl, .int lo tlo, .int hi thi] 10 200 tk0 ((pl, listOf vs.toArray n) :: T) (PoolPost f tk0 pl T (nodeP rows l lo hi).1 (nodeP rows l lo hi).2) := by
  unfold Con
  k_fill
  intro mean mg mb dp un gd cn cs a ccd cl outer A₀ base h₀ L m s Q E B F X N T' hks hdp hun htk hret
  have hD := hR.dat
  have hvl := hR.1
  refine wpAny_with_toks (Nat.le_refl _) ?_
  refine wpAny_call ?_
  refine code_def (name := Str.ofString "_law_node") (params := (fnOfStm 80).1) (body := (fnOfStm 80).2.1) (scope := (fnOfStm 80).2.2) (cdv := .ref 239) (binds := [(Str.ofString "pool", .ref pl), (Str.ofString "letter", .int l tl), (Str.ofString "low", .int lo tlo), (Str.ofString "high", .int hi thi)]) B F X N T' rfl rfl hks (by k_is) (by k_is) (by ktr_room) (BindsTo.of_eq rfl) (locs rfl) ?_ rfl rfl rfl (by decide)
  intro g' L' h' FG' F' N' B' X' T''
  conv => (arg 3; arg 1; whnf)
  have hlow := tkLow s.toks
  have i35 := inlineOk 35
  have i98 := inlineOk 98
  have i63 := inlineOk 63
  wrow_steps
  · rename lo = hi => hlo
    rename News h₀ L _ _ => kN
    rename Fr h₀ L _ _ => kF
    rename s.toks ≤ _ => htk'
    have e : nodeP rows l lo hi = (rows, lo) := if_pos hlo
    refine hret _ _ _ _ kF kN htk' ?_
    rw [e]
    exact ⟨vs, n, [], f, tlo, rfl, rfl, (fun p hp => (nomatch hp)), fun _ _ => rfl, hR.mono (fun _ h => h) (fun _ _ => rfl) (Nat.le_trans htk htk'), h2.mono (fun _ _ => rfl) (Nat.le_trans htk htk')⟩
  · rename decide _ = true => hin
    rename ¬ lo = hi => hlo
    rename pl < _ ∧ AllLt _ T => hl1
    have hmem : (l, lo, hi) ∈ rows := rowD_mem.mp (by simpa [rowD, rowL] using hin)
    rename News g' L' _ _ => kN
    with_unfolding_all refine' con_use (tk0 := 0) (un0 := 100) (dn := 3) ?q_B ?q_F ?q_X ?q_T ?q_k (index_rows (rows := rows) (r := (l, lo, hi)) (f := f) (tk := tk0) ?q_a ?q_b ?q_c hmem) ?q_N ?q_hd ?q_hu (Nat.zero_le _) ?_
    case q_B | q_F | q_X | q_T => k_asm
    case q_k => rfl
    case q_N => exact kN
    case q_a => k_mem
    case q_b => exact hR.mono (fun p hp => .tail _ (.tail _ hp)) (fun _ _ => rfl) (Nat.le_refl _)
    case q_c => exact row_in3 h1 h2 h3 (.head _)
    case q_hd => ktr_room
    case q_hu => ktr_units
    intro r news' h9 tk9 F9 N9 hl9 hp9
    (try dsimp only at hl9)
    obtain ⟨rfl, t9, rfl⟩ := hp9
    wrow_steps
    rename s.toks ≤ _ => htkf
    revert htkf
    rename s.toks ≤ _ => htkg
    intro htkf
    rename News h₀ L _ _ => kN2
    rename Fr h₀ L _ _ => kF2
    have e : nodeP rows l lo hi = (rows, 256 + (rows.idxOf (l, lo, hi) : Int)) := by simp only [nodeP, if_neg hlo, if_pos hmem]
    obtain ⟨nw, hN, hP⟩ := node_end (node := 256 + (rows.idxOf (l, lo, hi) : Int)) kN2 hR hl1 (Nat.le_trans htk htkg) (Nat.ne_of_gt (Nat.lt_of_le_of_lt (Nat.zero_le _) h1.2.1))
    exact hret _ _ _ _ kF2 hN htkf (by rw [e]; exact hP)
  · rename decide _ = false => hin
    rename ¬ lo = hi => hlo
    rename pl < _ ∧ AllLt _ T => hl1
    have hmem : (l, lo, hi) ∉ rows := fun h => by
      simp only [decide_eq_false_iff_not] at hin
      exact absurd (rowD_mem.mpr h : rowD (l, lo, hi) ∈ rows.map rowD) hin
    rename News g' L' _ _ => kN
    rw [List.push_toArray] at kN
    with_unfolding_all refine' con_use (tk0 := 0) (un0 := 100) (dn := 3) ?q_B ?q_F ?q_X ?q_T ?q_k (index_rows (rows := rows ++ [(l, lo, hi)]) (r := (l, lo, hi)) (f := f) (tk := tk0) ?q_a ?q_b ?q_c ?q_d) ?q_N ?q_hd ?q_hu (Nat.zero_le _) ?_
    case q_B | q_F | q_X | q_T => k_asm
    case q_k => rfl
    case q_N => exact kN
    case q_a => k_mem
    case q_b => exact (hR.mono (fun p hp => .tail _ (.tail _ hp)) (fun _ _ => rfl) (Nat.le_refl _)).snoc (row_in3 h1 h2 h3 (.head _))
    case q_c => exact row_in3 h1 h2 h3 (.head _)
    case q_d => simp
    case q_hd => ktr_room
    case q_hu => ktr_units
    intro r news' h9 tk9 F9 N9 hl9 hp9
    (try dsimp only at hl9)
    obtain ⟨rfl, t9, rfl⟩ := hp9
    wrow_steps
    rename s.toks ≤ _ => htkf
    revert htkf
    rename s.toks ≤ _ => htkg
    intro htkf
    rename News h₀ L _ _ => kN2
    rename Fr h₀ L _ _ => kF2
    have e : nodeP rows l lo hi = (rows ++ [(l, lo, hi)], 256 + (rows.length : Int)) := by simp only [nodeP, if_neg hlo, if_neg hmem]
    rw [idxOf_snoc hmem]
    obtain ⟨nw, hN, hP⟩ := node_end2 (node := 256 + (rows.length : Int)) kN2 hR h1 h2 h3 hl1 (Nat.le_trans htk htkg)
    exact hret _ _ _ _ kF2 hN htkf (by rw [e]; exact hP)
end
section
noncomputable def Nd (rows : List Row) (n : Int) : Prop := n = 0 ∨ n = 1 ∨ ∃ i : Nat, n = 256 + (i : Int) ∧ i < rows.length
noncomputable def lev (rows : List Row) (n : Int) : Int := if n < 256 then 4 else ((rows[(n - 256).toNat]?).getD (0, 0, 0)).1
noncomputable def cof (rows : List Row) (n l : Int) : Int × Int := if n < 256 then (n, n) else
  let r := (rows[(n - 256).toNat]?).getD (0, 0, 0)
  if l < r.1 then (n, n) else (r.2.1, r.2.2)
noncomputable def joinP (op : Int → Int → Int) : Nat → List Row → Int → Int → List Row × Int
  | 0, rows, one, two => (rows, op one two)
  | k + 1, rows, one, two => if one < 256 ∧ two < 256 then (rows, op one two) else
      let l := min (lev rows one) (lev rows two)
      let a := joinP op k rows (cof rows one l).1 (cof rows two l).1
      let b := joinP op k a.1 (cof rows one l).2 (cof rows two l).2
      nodeP b.1 l a.2 b.2
structure RowsOk (rows : List Row) : Prop where
  lo : ∀ (i : Nat) (r : Row), rows[i]? = some r → 0 ≤ r.1 ∧ r.1 < 4
  nd : ∀ (i : Nat) (r : Row), rows[i]? = some r → Nd rows r.2.1 ∧ Nd rows r.2.2
  lv : ∀ (i : Nat) (r : Row), rows[i]? = some r → r.1 < lev rows r.2.1 ∧ r.1 < lev rows r.2.2
  ne : ∀ (i : Nat) (r : Row), rows[i]? = some r → r.2.1 ≠ r.2.2
  nodup : rows.Nodup
theorem Nd.mono {rows xs : List Row} {n : Int} (h : Nd rows n) : Nd (rows ++ xs) n := by
  rcases h with h | h | ⟨i, h, hi⟩
  · exact .inl h
  · exact .inr (.inl h)
  · exact .inr (.inr ⟨i, h, by rw [List.length_append]; omega⟩)
theorem lev_mono {rows xs : List Row} {n : Int} (h : Nd rows n) : lev (rows ++ xs) n = lev rows n := by
  rcases h with rfl | rfl | ⟨i, rfl, hi⟩
  · rfl
  · rfl
  · have e : (256 + (i : Int) - 256).toNat = i := by omega
    have : ¬ (256 + (i : Int) < 256) := by omega
    simp only [lev, if_neg this, e, List.getElem?_append_left hi]
theorem lev_term {rows : List Row} {n : Int} (h : n < 256) : lev rows n = 4 := if_pos h
theorem lev_row {rows : List Row} {i : Nat} {r : Row} (h : rows[i]? = some r) : lev rows (256 + (i : Int)) = r.1 := by
  have e : (256 + (i : Int) - 256).toNat = i := by omega
  have : ¬ (256 + (i : Int) < 256) := by omega
  simp only [lev, if_neg this, e, h, Option.getD_some]
theorem Nd.row {rows : List Row} {n : Int} (h : Nd rows n) (hn : ¬ n < 256) : ∃ (i : Nat) (r : Row), n = 256 + (i : Int) ∧ rows[i]? = some r ∧ i < rows.length := by
  rcases h with rfl | rfl | ⟨i, rfl, hi⟩
  · exact absurd (by decide) hn
  · exact absurd (by decide) hn
  · exact ⟨i, rows[i], rfl, List.getElem?_eq_getElem hi, hi⟩
theorem Nd.term {rows : List Row} {n : Int} (h : Nd rows n) (hn : n < 256) : n = 0 ∨ n = 1 := by
  rcases h with h | h | ⟨i, rfl, hi⟩
  · exact .inl h
  · exact .inr h
  · omega
theorem cof_term {rows : List Row} {n l : Int} (h : n < 256) : cof rows n l = (n, n) := if_pos h
theorem cof_row {rows : List Row} {i : Nat} {r : Row} (h : rows[i]? = some r) : cof rows (256 + (i : Int)) r.1 = (r.2.1, r.2.2) := by
  have e : (256 + (i : Int) - 256).toNat = i := by omega
  have : ¬ (256 + (i : Int) < 256) := by omega
  simp only [cof, if_neg this, e, h, Option.getD_some, Int.lt_irrefl, if_false]
theorem cof_above {rows : List Row} {n l : Int} (h : l < lev rows n) : cof rows n l = (n, n) := by
  unfold lev at h
  unfold cof
  split
  · rfl
  · rename_i hn
    rw [if_neg hn] at h
    simp only [if_pos h]
theorem lev_le {rows : List Row} (R : RowsOk rows) {n : Int} (h : Nd rows n) : 0 ≤ lev rows n ∧ lev rows n ≤ 4 := by
  by_cases hn : n < 256
  · rw [lev_term hn]; decide
  · obtain ⟨i, r, rfl, hr, _⟩ := h.row hn
    have := R.lo i r hr
    rw [lev_row hr]; omega
theorem lev_lt {rows : List Row} (R : RowsOk rows) {n : Int} (h : Nd rows n) (hn : ¬ n < 256) : lev rows n < 4 := by
  obtain ⟨i, r, rfl, hr, _⟩ := h.row hn
  rw [lev_row hr]; exact (R.lo i r hr).2
theorem cof_ok {rows : List Row} (R : RowsOk rows) {n l : Int} (h : Nd rows n) (hl : l ≤ lev rows n) (hl4 : l < 4) : Nd rows (cof rows n l).1 ∧ Nd rows (cof rows n l).2 ∧ l < lev rows (cof rows n l).1 ∧ l < lev rows (cof rows n l).2 := by
  by_cases hn : n < 256
  · rw [cof_term hn]; rw [lev_term hn]; exact ⟨h, h, hl4, hl4⟩
  · rcases Int.lt_or_eq_of_le hl with h1 | h1
    · rw [cof_above h1]; exact ⟨h, h, h1, h1⟩
    · obtain ⟨i, r, rfl, hr, _⟩ := h.row hn
      rw [lev_row hr] at h1
      subst h1
      rw [cof_row hr]
      exact ⟨(R.nd i r hr).1, (R.nd i r hr).2, (R.lv i r hr).1, (R.lv i r hr).2⟩
theorem nodeP_ok {rows : List Row} (R : RowsOk rows) {l lo hi : Int} (h0 : 0 ≤ l) (h4 : l < 4) (h1 : Nd rows lo) (h2 : Nd rows hi) (g1 : l < lev rows lo) (g2 : l < lev rows hi) :
    ∃ xs, (nodeP rows l lo hi).1 = rows ++ xs ∧ xs.length ≤ 1 ∧ RowsOk (nodeP rows l lo hi).1 ∧ Nd (nodeP rows l lo hi).1 (nodeP rows l lo hi).2 ∧ l ≤ lev (nodeP rows l lo hi).1 (nodeP rows l lo hi).2 := by
  by_cases e : lo = hi
  · have : nodeP rows l lo hi = (rows, lo) := if_pos e
    rw [this]; exact ⟨[], by simp, by simp, R, h1, Int.le_of_lt g1⟩
  by_cases hm : (l, lo, hi) ∈ rows
  · have : nodeP rows l lo hi = (rows, 256 + (rows.idxOf (l, lo, hi) : Int)) := by simp only [nodeP, if_neg e, if_pos hm]
    have hlt := List.idxOf_lt_length_of_mem hm
    have hg : rows[rows.idxOf (l, lo, hi)]? = some (l, lo, hi) := by rw [List.getElem?_eq_getElem hlt, List.getElem_idxOf hlt]
    rw [this]; exact ⟨[], by simp, by simp, R, .inr (.inr ⟨_, rfl, hlt⟩), by rw [lev_row hg]; exact Int.le_refl _⟩
  · have : nodeP rows l lo hi = (rows ++ [(l, lo, hi)], 256 + (rows.length : Int)) := by simp only [nodeP, if_neg e, if_neg hm]
    have hg : (rows ++ [(l, lo, hi)])[rows.length]? = some (l, lo, hi) := by simp
    rw [this]; refine ⟨[(l, lo, hi)], rfl, by simp, ?_, .inr (.inr ⟨_, rfl, by simp⟩), by rw [lev_row hg]; exact Int.le_refl _⟩
    have key : ∀ (i : Nat) (r : Row), (rows ++ [(l, lo, hi)])[i]? = some r → rows[i]? = some r ∨ r = (l, lo, hi) := by
      intro i r hr
      rcases Nat.lt_trichotomy i rows.length with hi' | hi' | hi'
      · rw [List.getElem?_append_left hi'] at hr; exact .inl hr
      · subst hi'; rw [hg] at hr; exact .inr (Option.some.inj hr).symm
      · rw [List.getElem?_eq_none (by simp; omega)] at hr; cases hr
    refine ⟨?_, ?_, ?_, ?_, ?_⟩
    · intro i r hr; rcases key i r hr with h | rfl
      · exact R.lo i r h
      · exact ⟨h0, h4⟩
    · intro i r hr; rcases key i r hr with h | rfl
      · exact ⟨(R.nd i r h).1.mono, (R.nd i r h).2.mono⟩
      · exact ⟨h1.mono, h2.mono⟩
    · intro i r hr; rcases key i r hr with h | rfl
      · rw [lev_mono (R.nd i r h).1, lev_mono (R.nd i r h).2]; exact R.lv i r h
      · rw [lev_mono h1, lev_mono h2]; exact ⟨g1, g2⟩
    · intro i r hr; rcases key i r hr with h | rfl
      · exact R.ne i r h
      · exact e
    · rw [List.nodup_append]
      exact ⟨R.nodup, by simp, by intro a ha b hb; rw [List.mem_singleton.mp hb]; rintro rfl; exact hm ha⟩
theorem lev_ge {rows : List Row} (R : RowsOk rows) {one two : Int} (h1 : Nd rows one) (h2 : Nd rows two) (hn : ¬ (one < 256 ∧ two < 256)) : 0 ≤ min (lev rows one) (lev rows two) ∧ min (lev rows one) (lev rows two) < 4 := by
  have a1 := lev_le R h1
  have a2 := lev_le R h2
  by_cases c : one < 256
  · have := lev_lt R h2 (fun h => hn ⟨c, h⟩); exact ⟨Int.le_min.2 ⟨a1.1, a2.1⟩, Int.lt_of_le_of_lt (Int.min_le_right ..) this⟩
  · have := lev_lt R h1 c; exact ⟨Int.le_min.2 ⟨a1.1, a2.1⟩, Int.lt_of_le_of_lt (Int.min_le_left ..) this⟩
theorem joinP_ok {op : Int → Int → Int} (hop : ∀ x y, (x = 0 ∨ x = 1) → (y = 0 ∨ y = 1) → op x y = 0 ∨ op x y = 1) : ∀ (k : Nat) {rows : List Row} {one two : Int}, RowsOk rows → Nd rows one → Nd rows two → 4 ≤ lev rows one + k → 4 ≤ lev rows two + k →
    ∃ xs, (joinP op k rows one two).1 = rows ++ xs ∧ xs.length < 2 ^ k ∧ RowsOk (joinP op k rows one two).1 ∧ Nd (joinP op k rows one two).1 (joinP op k rows one two).2 ∧ min (lev rows one) (lev rows two) ≤ lev (joinP op k rows one two).1 (joinP op k rows one two).2 := by
  intro k
  have base : ∀ {rows : List Row} {one two : Int}, RowsOk rows → Nd rows one → Nd rows two → one < 256 → two < 256 → ∃ xs, rows = rows ++ xs ∧ xs.length < 2 ^ k ∧ RowsOk rows ∧ Nd rows (op one two) ∧ min (lev rows one) (lev rows two) ≤ lev rows (op one two) := by
    intro rows one two R h1 h2 c1 c2
    have := hop one two (h1.term c1) (h2.term c2)
    refine ⟨[], by simp, by simpa using Nat.two_pow_pos k, R, ?_, ?_⟩
    · rcases this with e | e
      · exact .inl e
      · exact .inr (.inl e)
    · rw [lev_term c1, lev_term c2, lev_term (by omega)]; decide
  induction k with
  | zero =>
    intro rows one two R h1 h2 g1 g2
    have c1 : one < 256 := by
      apply Classical.byContradiction; intro c; have := lev_lt R h1 c; omega
    have c2 : two < 256 := by
      apply Classical.byContradiction; intro c; have := lev_lt R h2 c; omega
    exact base R h1 h2 c1 c2
  | succ k ih =>
    intro rows one two R h1 h2 g1 g2
    by_cases c : one < 256 ∧ two < 256
    · have : joinP op (k + 1) rows one two = (rows, op one two) := by simp only [joinP, if_pos c]
      rw [this]; exact base R h1 h2 c.1 c.2
    · have hl := lev_ge R h1 h2 c
      simp only [joinP, if_neg c]
      generalize hlv : min (lev rows one) (lev rows two) = l at hl
      have ml := min_l hlv
      have fu : ∀ {c : Int}, l < c → 4 ≤ c + k := fun hc => fuel g1 g2 hlv hc
      have k1 := cof_ok R (n := one) (l := l) h1 ml.1 hl.2
      have k2 := cof_ok R (n := two) (l := l) h2 ml.2 hl.2
      have base' : ∀ {rows : List Row} {one two : Int}, RowsOk rows → Nd rows one → Nd rows two → one < 256 → two < 256 → ∃ xs, rows = rows ++ xs ∧ xs.length < 2 ^ k ∧ RowsOk rows ∧ Nd rows (op one two) ∧ min (lev rows one) (lev rows two) ≤ lev rows (op one two) := by
        intro rows one two R h1 h2 c1 c2
        obtain ⟨xs, e, -, a⟩ := base R h1 h2 c1 c2
        exact ⟨[], by simp, by simpa using Nat.two_pow_pos k, a⟩
      obtain ⟨xs, e1, l1, R1, n1, v1⟩ := ih base' R k1.1 k2.1 (fu k1.2.2.1) (fu k2.2.2.1)
      generalize hA : joinP op k rows (cof rows one l).1 (cof rows two l).1 = Aj at e1 R1 n1 v1
      have k1' : Nd Aj.1 (cof rows one l).2 := e1 ▸ k1.2.1.mono
      have k2' : Nd Aj.1 (cof rows two l).2 := e1 ▸ k2.2.1.mono
      have q1 : lev Aj.1 (cof rows one l).2 = lev rows (cof rows one l).2 := by rw [e1]; exact lev_mono k1.2.1
      have q2 : lev Aj.1 (cof rows two l).2 = lev rows (cof rows two l).2 := by rw [e1]; exact lev_mono k2.2.1
      obtain ⟨ys, e2, l2, R2, n2, v2⟩ := ih base' R1 k1' k2' (q1 ▸ fu k1.2.2.2) (q2 ▸ fu k2.2.2.2)
      generalize hB : joinP op k Aj.1 (cof rows one l).2 (cof rows two l).2 = Bj at e2 R2 n2 v2
      have n1' : Nd Bj.1 Aj.2 := e2 ▸ n1.mono
      have q3 : lev Bj.1 Aj.2 = lev Aj.1 Aj.2 := by rw [e2]; exact lev_mono n1
      obtain ⟨zs, e3, l3, R3, n3, v3⟩ := nodeP_ok R2 (l := l) hl.1 hl.2 n1' n2 (lt_lev k1.2.2.1 k2.2.2.1 rfl rfl v1 q3) (lt_lev k1.2.2.2 k2.2.2.2 q1 q2 v2 rfl)
      refine ⟨xs ++ ys ++ zs, by rw [e3, e2, e1]; simp, ?_, R3, n3, v3⟩
      simp only [List.length_append, Nat.pow_succ]; omega
noncomputable def Deed (w : World) (d : Addr) (op : Int → Int → Int) : Prop := keepIn (KK w.params) (.ref d) = true ∧ ∀ (T : List (Addr × Obj)) (x y : Int) (t u : Tok), (x = 0 ∨ x = 1) → (y = 0 ∨ y = 1) →
  Con w d [.int x t, .int y u] 3 60 0 T (fun r T' _ => T' = T ∧ ((∃ t', r = .int (op x y) t') ∨ ∃ b : Bool, r = .bool b ∧ op x y = if b then 1 else 0))
end
section
theorem Con.mono {w : World} {f : Addr} {vs : List Value} {dn un0 dn' un0' tk0 : Nat} {news : List (Addr × Obj)} {post : Value → List (Addr × Obj) → Nat → Prop} (C : Con w f vs dn un0 tk0 news post) (h1 : dn ≤ dn') (h2 : un0 ≤ un0') : Con w f vs dn' un0' tk0 news post := by
  intro mean mg mb dp un gd cn cs a ccd cl outer A₀ base h₀ L m s Q E B F X N T hk hd hu htk ret
  exact C mean mg mb dp un gd cn cs a ccd cl outer A₀ base h₀ L m s Q E B F X N T hk (by omega) (by omega) htk ret
theorem pool_same {f : Nat → Int} {tk0 tk : Nat} {pl : Addr} {T : List (Addr × Obj)} {vs : List Value} {n : Nat} {rows : List Row} {node : Int} (hR : RowsIn f tk0 T vs rows) (hk : tk0 ≤ tk) (h0 : tk0 ≠ 0) :
    PoolPost f tk0 pl T rows node (.int node tk) ((pl, listOf vs.toArray n) :: T) (tk + 1) :=
  ⟨vs, n, [], setAt f tk node, tk, rfl, rfl, (fun p hp => nomatch hp), setAt_low hk, hR.mono (fun p hp => hp) (setAt_low hk) (by omega), Nat.ne_of_gt (Nat.lt_of_lt_of_le (Nat.pos_of_ne_zero h0) hk), Nat.lt_succ_self _, setAt_same⟩
set_option maxHeartbeats 4000000 in
theorem join_base {w : World} {pl : Addr} {d : Addr} {op : Int → Int → Int} (hd : Deed w d op) {vs : List Value} {n : Nat} {T : List (Addr × Obj)} {rows : List Row} {f : Nat → Int} {tk0 : Nat} {one two : Int} {t1 t2 : Tok}
    (hT : ∀ p ∈ T, p.1 ≠ pl) (hR : RowsIn f tk0 T vs rows) (hn1 : Nd rows one) (hn2 : Nd rows two) (h1 : TkAt f tk0 one t1) (h2 : TkAt f tk0 two t2) (c1 : one < 256) (c2 : two < 256) :
    Con w 247 [.ref pl, .ref d, .int one t1, .int two t2] 10 100 tk0 ((pl, listOf vs.toArray n) :: T) (PoolPost f tk0 pl T rows (op one two)) := by
  unfold Con
  k_fill
  intro mean mg mb dp un gd cn cs a ccd cl outer A₀ base h₀ L m s Q E B F X N T' hks hdp hun htk hret
  obtain ⟨hkd, hdc⟩ := hd
  refine wpAny_with_toks (Nat.le_refl _) ?_
  refine wpAny_call ?_
  refine code_def (name := Str.ofString "_law_join") (params := (fnOfStm 81).1) (body := (fnOfStm 81).2.1) (scope := (fnOfStm 81).2.2) (cdv := .ref 246) (binds := [(Str.ofString "pool", .ref pl), (Str.ofString "deed", .ref d), (Str.ofString "one", .int one t1), (Str.ofString "two", .int two t2)]) B F X N T' rfl rfl hks (by k_is) (by k_is) (by ktr_room) (BindsTo.of_eq rfl) (locs rfl) ?_ rfl rfl rfl (by decide)
  intro g' L' h' FG' F' N' B' X' T''
  conv => (arg 3; arg 1; whnf)
  have hlow := tkLow s.toks
  have i200 := inlineOk 200
  have i63 := inlineOk 63
  wrow_steps
  rename News g' L' _ _ => kN
  with_unfolding_all refine' con_use (tk0 := 0) (un0 := 60) (dn := 3) ?q_B ?q_F ?q_X ?q_T ?q_k (hdc _ one two t1 t2 (hn1.term c1) (hn2.term c2)) ?q_N ?q_hd ?q_hu (Nat.zero_le _) ?_
  case q_B | q_F | q_X | q_T => k_asm
  case q_k => rfl
  case q_N => exact kN
  case q_hd => ktr_room
  case q_hu => ktr_units
  intro r news' h9 tk9 F9 N9 hl9 hp9
  (try dsimp only at hl9)
  have h0 : tk0 ≠ 0 := Nat.ne_of_gt (Nat.lt_of_le_of_lt (Nat.zero_le _) h1.2.1)
  obtain ⟨rfl, ⟨t9, rfl⟩ | ⟨b9, rfl, hb9⟩⟩ := hp9
  · wrow_steps
    rename News h₀ L _ _ => kN
    rename Fr h₀ L _ _ => kF
    rename s.toks ≤ _ => htkf
    revert htkf
    rename s.toks ≤ _ => htk'
    intro htkf
    refine hret _ _ _ _ kF kN htkf ?_
    rw [Int.add_zero]
    exact pool_same hR (Nat.le_trans htk htk') h0
  · wrow_steps
    rename News h₀ L _ _ => kN
    rename Fr h₀ L _ _ => kF
    rename s.toks ≤ _ => htkf
    revert htkf
    rename s.toks ≤ _ => htk'
    intro htkf
    refine hret _ _ _ _ kF kN htkf ?_
    rw [Int.add_zero, hb9]
    exact pool_same hR (Nat.le_trans htk htk') h0
end
variable {dp un : Nat} {gd : Option (List Code)} {cn : Str} {cs : Scope} {a : Addr} {ccd : Value} {cl : List (Str × Addr)} {outer : List Env} {base g' : Heap} {L L' : Addr} {s : Shared} {mean : ExcName → Option Value} {mg mb m' : Str → Option Value} {Qf : Flow → Shared → Prop} {E : Value → Shared → Prop}
section
theorem PoolPost.wide {f : Nat → Int} {tk0 tk' : Nat} {pl : Addr} {tl T : List (Addr × Obj)} {rows : List Row} {node : Int} {r : Value} {news' : List (Addr × Obj)} (h : PoolPost f tk0 pl (tl ++ T) rows node r news' tk') (ht : ∀ p ∈ tl, p.1 ≠ pl ∧ ∀ q ∈ T, p.1 ≠ q.1) : PoolPost f tk0 pl T rows node r news' tk' := by
  obtain ⟨vs', n', tl', g, t, h1, h2, h3, h4, h5, h6⟩ := h
  refine ⟨vs', n', tl' ++ tl, g, t, h1, by rw [h2, List.append_assoc], ?_, h4, by rw [List.append_assoc]; exact h5, h6⟩
  intro p hp
  rcases List.mem_append.mp hp with hp | hp
  · exact ⟨(h3 p hp).1, fun q hq => (h3 p hp).2 q (List.mem_append_right _ hq)⟩
  · exact ht p hp
theorem PoolPost.after {f g : Nat → Int} {tk0 tk1 tk' : Nat} {pl : Addr} {T : List (Addr × Obj)} {rows : List Row} {node : Int} {r : Value} {news' : List (Addr × Obj)} (h : PoolPost g tk1 pl T rows node r news' tk') (hg : ∀ u, u < tk0 → g u = f u) (hk : tk0 ≤ tk1) : PoolPost f tk0 pl T rows node r news' tk' := by
  obtain ⟨vs', n', tl', g', t, h1, h2, h3, h4, h5, h6⟩ := h
  exact ⟨vs', n', tl', g', t, h1, h2, h3, fun u hu => (h4 u (Nat.lt_of_lt_of_le hu hk)).trans (hg u hu), h5, h6⟩
noncomputable def JoinCon (w : World) (pl d : Addr) (op : Int → Int → Int) (k : Nat) : Prop := ∀ {vs : List Value} {n : Nat} {T : List (Addr × Obj)} {rows : List Row} {f : Nat → Int} {tk0 : Nat} {one two : Int} {t1 t2 : Tok},
    (∀ p ∈ T, p.1 ≠ pl) → RowsIn f tk0 T vs rows → RowsOk rows → Nd rows one → Nd rows two → 4 ≤ lev rows one + k → 4 ≤ lev rows two + k → TkAt f tk0 one t1 → TkAt f tk0 two t2 → rows.length + 2 ^ k ≤ 100000 →
    Con w 247 [.ref pl, .ref d, .int one t1, .int two t2] (12 + k * 10) (300 + k * 10) tk0 ((pl, listOf vs.toArray n) :: T) (PoolPost f tk0 pl T (joinP op k rows one two).1 (joinP op k rows one two).2)
noncomputable def joinT (op : Int → Int → Int) (k : Nat) (rows : List Row) (l x1 x2 y1 y2 : Int) : List Row × Int :=
  nodeP (joinP op k (joinP op k rows x1 x2).1 y1 y2).1 l (joinP op k rows x1 x2).2 (joinP op k (joinP op k rows x1 x2).1 y1 y2).2
theorem tail_off {pl : Addr} {tl T : List (Addr × Obj)} (h : ∀ p ∈ tl, p.1 ≠ pl ∧ ∀ q ∈ T, p.1 ≠ q.1) (hT : ∀ p ∈ T, p.1 ≠ pl) : ∀ p ∈ tl ++ T, p.1 ≠ pl := by
  intro p hp
  rcases List.mem_append.mp hp with hp | hp
  · exact (h p hp).1
  · exact hT p hp
set_option maxHeartbeats 4000000 in
theorem join_tail {w : World} {pl d : Addr} {op : Int → Int → Int} (hop : ∀ x y, (x = 0 ∨ x = 1) → (y = 0 ∨ y = 1) → op x y = 0 ∨ op x y = 1) {k : Nat} (ih : JoinCon w pl d op k) {vs : List Value} {n : Nat} {T : List (Addr × Obj)} {rows : List Row} {f : Nat → Int} {tk0 : Nat}
    (hkd : keepIn (KK w.params) (.ref d) = true)
    (hT : ∀ p ∈ T, p.1 ≠ pl) (hR : RowsIn f tk0 T vs rows) (ok : RowsOk rows) {l x1 y1 x2 y2 : Int} {tl u1 u2 u3 u4 : Tok} {z1 z2 : Value} {a1 a2 : Addr} {n1 n2 : Nat} (ha1 : (a1, tupO [z1, .int x1 u1, .int y1 u2] n1) ∈ T) (ha2 : (a2, tupO [z2, .int x2 u3, .int y2 u4] n2) ∈ T)
    (hl : TkAt f tk0 l tl) (t1 : TkAt f tk0 x1 u1) (t2 : TkAt f tk0 y1 u2) (t3 : TkAt f tk0 x2 u3) (t4 : TkAt f tk0 y2 u4) (hl0 : 0 ≤ l) (hl4 : l < 4) (hlk : 4 ≤ l + (k + 1 : Nat))
    (d1 : Nd rows x1 ∧ l < lev rows x1) (d2 : Nd rows y1 ∧ l < lev rows y1) (d3 : Nd rows x2 ∧ l < lev rows x2) (d4 : Nd rows y2 ∧ l < lev rows y2) (hz : rows.length + 2 ^ (k + 1) ≤ 100000)
    (B' : Below (ktrTop dp un gd cn cs L a ccd cl outer) base (envX cn cs L a ccd cl :: outer) g') (F' : Fr g' L' s.heap m') (X' : (KK w.params).In g') (T' : Top qv looseL mean mg mb g') (N' : News g' L' s.heap ((pl, listOf vs.toArray n) :: T))
    (hm1 : m' (Str.ofString "pool") = some (.ref pl)) (hm2 : m' (Str.ofString "deed") = some (.ref d)) (hm3 : m' (Str.ofString "left") = some (.ref a1)) (hm4 : m' (Str.ofString "right") = some (.ref a2)) (hm5 : m' (Str.ofString "letter") = some (.int l tl))
    (hks : cs.kind = .function) (hdp : dp + (12 + (k + 1) * 10) < recursionLimit) (hun : un + (300 + (k + 1) * 10) < cLine) (htk : tk0 ≤ s.toks)
    (hret : ∀ r news' h' tk' m'', Fr g' L' h' m'' → News g' L' h' news' → s.toks ≤ tk' → PoolPost f tk0 pl T (joinT op k rows l x1 x2 y1 y2).1 (joinT op k rows l x1 x2 y1 y2).2 r news' tk' → Qf (.ret r) { s with heap := h', toks := tk' }) :
    wpAny (model Challenge.rw_wf0091_01.prog w) ((ktrTop dp un gd cn cs L a ccd cl outer).deeper (envOf (Str.ofString "_law_join") (fnOfStm 81).2.2 L' 247 (.ref 246))) (execs ((fnOfStm 81).2.1.drop 6) (envOf (Str.ofString "_law_join") (fnOfStm 81).2.2 L' 247 (.ref 246))) Qf E s := by
  revert F' N' hret htk
  revert B' X' T'
  k_fill
  intro B' X' T' F' N' htk hret
  conv => (arg 3; arg 1; whnf)
  have hlow := tkLow s.toks
  have hb1 : (a1, tupO [z1, .int x1 u1, .int y1 u2] n1) ∈ (pl, listOf vs.toArray n) :: T := .tail _ ha1
  have hb2 : (a2, tupO [z2, .int x2 u3, .int y2 u4] n2) ∈ (pl, listOf vs.toArray n) :: T := .tail _ ha2
  have e3 : 2 ^ (k + 1) = 2 ^ k * 2 := Nat.pow_succ 2 k
  wrow_steps
  rename News g' L' _ _ => kN
  with_unfolding_all refine' con_use (tk0 := tk0) (un0 := 300 + k * 10) (dn := 12 + k * 10) ?q_B ?q_F ?q_X ?q_T ?q_k (ih hT hR ok d1.1 d3.1 ?q_a ?q_b t1 t3 ?q_z) ?q_N ?q_hd ?q_hu ?q_tk ?_
  case q_B | q_F | q_X | q_T => k_asm
  case q_k => rfl
  case q_a => omega
  case q_b => omega
  case q_z => omega
  case q_N => exact kN
  case q_hd => ktr_room
  case q_hu => (show un + 3 + _ < cLine); omega
  case q_tk => (try dsimp only); omega
  intro r news' h9 tk9 F9 N9 hl9 hp9
  (try dsimp only at hl9)
  obtain ⟨xs, ex, lx, okA, ndA, lvA⟩ := joinP_ok hop k ok d1.1 d3.1 (by omega) (by omega)
  generalize hA : joinP op k rows x1 x2 = Aj at hp9 ex okA ndA lvA
  obtain ⟨vs1, m1, tl1, g1, tt1, rfl, rfl, hoff1, hg1, hR1, hnode1⟩ := hp9
  have hT1 := tail_off hoff1 hT
  have hb1 : (a1, tupO [z1, .int x1 u1, .int y1 u2] n1) ∈ (pl, listOf vs1.toArray m1) :: (tl1 ++ T) := .tail _ (List.mem_append_right _ ha1)
  have hb2 : (a2, tupO [z2, .int x2 u3, .int y2 u4] n2) ∈ (pl, listOf vs1.toArray m1) :: (tl1 ++ T) := .tail _ (List.mem_append_right _ ha2)
  have hk1 : tk0 ≤ tk9 := by omega
  have hlow := tkLow tk9
  wrow_steps
  rename News g' L' _ _ => kN
  have q2 : lev Aj.1 y1 = lev rows y1 := by rw [ex]; exact lev_mono d2.1
  have q4 : lev Aj.1 y2 = lev rows y2 := by rw [ex]; exact lev_mono d4.1
  have n2' : Nd Aj.1 y1 := ex ▸ d2.1.mono
  have n4' : Nd Aj.1 y2 := ex ▸ d4.1.mono
  have len1 : Aj.1.length = rows.length + xs.length := by rw [ex, List.length_append]
  with_unfolding_all refine' con_use (tk0 := tk9) (un0 := 300 + k * 10) (dn := 12 + k * 10) ?q_B ?q_F ?q_X ?q_T ?q_k (ih hT1 hR1 okA n2' n4' ?q_a ?q_b (t2.mono hg1 hk1) (t4.mono hg1 hk1) ?q_z) ?q_N ?q_hd ?q_hu ?q_tk ?_
  case q_B | q_F | q_X | q_T => k_asm
  case q_k => rfl
  case q_a => omega
  case q_b => omega
  case q_z => omega
  case q_N => exact kN
  case q_hd => ktr_room
  case q_hu => (show un + 3 + _ < cLine); omega
  case q_tk => (try dsimp only); omega
  intro r news' h8 tk8 F8 N8 hl8 hp8
  (try dsimp only at hl8)
  obtain ⟨ys, ey, ly, okB, ndB, lvB⟩ := joinP_ok hop k okA n2' n4' (by omega) (by omega)
  generalize hB : joinP op k Aj.1 y1 y2 = Bj at hp8 ey okB ndB lvB
  obtain ⟨vs2, m2, tl2, g2, tt2, rfl, rfl, hoff2, hg2, hR2, hnode2⟩ := hp8
  have hT2 := tail_off hoff2 hT1
  have hk2 : tk9 ≤ tk8 := by omega
  have hlow := tkLow tk8
  wrow_steps
  rename News g' L' _ _ => kN
  with_unfolding_all refine' con_use (tk0 := tk8) (un0 := 200) (dn := 10) ?q_B ?q_F ?q_X ?q_T ?q_k (node_con hT2 hR2 ((hl.mono hg1 hk1).mono hg2 hk2) (hnode1.mono hg2 hk2) hnode2 ?q_z) ?q_N ?q_hd ?q_hu ?q_tk ?_
  case q_B | q_F | q_X | q_T => k_asm
  case q_k => rfl
  case q_z => (rw [ey, List.length_append]); omega
  case q_N => exact kN
  case q_hd => ktr_room
  case q_hu => (show un + 3 + _ < cLine); omega
  case q_tk => (try dsimp only); omega
  intro r news' h7 tk7 F7 N7 hl7 hp7
  (try dsimp only at hl7)
  wrow_steps
  rename Fr g' L' _ _ => kF
  rename News g' L' _ _ => kN
  refine hret _ _ _ _ _ kF kN (by omega) ?_
  have eT : joinT op k rows l x1 x2 y1 y2 = nodeP Bj.1 l Aj.2 Bj.2 := by simp only [joinT, hA, hB]
  rw [eT]
  exact (((PoolPost.wide hp7 hoff2).after hg2 hk2).wide hoff1).after hg1 hk1
end
section
theorem execs_cut {M : Model} {A : Around} {E : Value → Shared → Prop} {Q : Flow → Shared → Prop} {s : Shared} {env : Env} {body xs : List Stmt} (e : body = xs) (h : wpAny M A (execs xs env) Q E s) : wpAny M A (execs body env) Q E s := e ▸ h
theorem swap1 {α : Type} {a b : α} {l : List α} : ∀ p ∈ b :: a :: l, p ∈ a :: b :: l := by
  intro p hp
  simp only [List.mem_cons] at hp ⊢
  rcases hp with h | h | h <;> simp [h]
theorem off1 {pl D : Addr} {o : Obj} {T : List (Addr × Obj)} (h : pl < D ∧ AllLt D T) : ∀ p ∈ [(D, o)], p.1 ≠ pl ∧ ∀ q ∈ T, p.1 ≠ q.1 := by
  intro p hp
  rw [List.mem_singleton.mp hp]
  exact ⟨Nat.ne_of_gt h.1, fun q hq => Nat.ne_of_gt (allLt_mem h.2 q hq)⟩
set_option maxHeartbeats 4000000 in
theorem join_mid {w : World} {pl d : Addr} {op : Int → Int → Int} (hop : ∀ x y, (x = 0 ∨ x = 1) → (y = 0 ∨ y = 1) → op x y = 0 ∨ op x y = 1) {k : Nat} (ih : JoinCon w pl d op k) {vs : List Value} {n : Nat} {T : List (Addr × Obj)} {rows : List Row} {f : Nat → Int} {tk0 : Nat} {one two : Int} {v1 v2 : Tok}
    (hkd : keepIn (KK w.params) (.ref d) = true)
    (hT : ∀ p ∈ T, p.1 ≠ pl) (hR : RowsIn f tk0 T vs rows) (ok : RowsOk rows) {l1 l2 x1 y1 x2 y2 : Int} {w1 w2 u1 u2 u3 u4 : Tok} {a1 a2 : Addr} {n1 n2 : Nat} (ha1 : (a1, tupO [.int l1 w1, .int x1 u1, .int y1 u2] n1) ∈ T) (ha2 : (a2, tupO [.int l2 w2, .int x2 u3, .int y2 u4] n2) ∈ T)
    (hl1 : l1 < 4 → TkAt f tk0 l1 w1) (hl2 : l2 < 4 → TkAt f tk0 l2 w2) (t1 : TkAt f tk0 x1 u1) (t2 : TkAt f tk0 y1 u2) (t3 : TkAt f tk0 x2 u3) (t4 : TkAt f tk0 y2 u4) (s1 : TkAt f tk0 one v1) (s2 : TkAt f tk0 two v2) (hl0 : 0 ≤ min l1 l2) (hl4 : min l1 l2 < 4) (hlk : 4 ≤ min l1 l2 + (k + 1 : Nat))
    (c1 : Nd rows one ∧ l1 ≤ lev rows one) (c2 : Nd rows two ∧ l2 ≤ lev rows two)
    (d1 : l1 < 4 → Nd rows x1 ∧ l1 < lev rows x1) (d2 : l1 < 4 → Nd rows y1 ∧ l1 < lev rows y1) (d3 : l2 < 4 → Nd rows x2 ∧ l2 < lev rows x2) (d4 : l2 < 4 → Nd rows y2 ∧ l2 < lev rows y2) (hz : rows.length + 2 ^ (k + 1) ≤ 100000)
    (B' : Below (ktrTop dp un gd cn cs L a ccd cl outer) base (envX cn cs L a ccd cl :: outer) g') (F' : Fr g' L' s.heap m') (X' : (KK w.params).In g') (T' : Top qv looseL mean mg mb g') (N' : News g' L' s.heap ((pl, listOf vs.toArray n) :: T))
    (hm1 : m' (Str.ofString "pool") = some (.ref pl)) (hm2 : m' (Str.ofString "deed") = some (.ref d)) (hm3 : m' (Str.ofString "left") = some (.ref a1)) (hm4 : m' (Str.ofString "right") = some (.ref a2)) (hm5 : m' (Str.ofString "one") = some (.int one v1)) (hm6 : m' (Str.ofString "two") = some (.int two v2))
    (hks : cs.kind = .function) (hdp : dp + (12 + (k + 1) * 10) < recursionLimit) (hun : un + (300 + (k + 1) * 10) < cLine) (htk : tk0 ≤ s.toks)
    (hret : ∀ r news' h' tk' m'', Fr g' L' h' m'' → News g' L' h' news' → s.toks ≤ tk' → PoolPost f tk0 pl T (joinT op k rows (min l1 l2) (if min l1 l2 < l1 then one else x1) (if min l1 l2 < l2 then two else x2) (if min l1 l2 < l1 then one else y1) (if min l1 l2 < l2 then two else y2)).1 (joinT op k rows (min l1 l2) (if min l1 l2 < l1 then one else x1) (if min l1 l2 < l2 then two else x2) (if min l1 l2 < l1 then one else y1) (if min l1 l2 < l2 then two else y2)).2 r news' tk' → Qf (.ret r) { s with heap := h', toks := tk' }) :
    wpAny (model Challenge.rw_wf0091_01.prog w) ((ktrTop dp un gd cn cs L a ccd cl outer).deeper (envOf (Str.ofString "_law_join") (fnOfStm 81).2.2 L' 247 (.ref 246))) (execs ((fnOfStm 81).2.1.drop 3) (envOf (Str.ofString "_law_join") (fnOfStm 81).2.2 L' 247 (.ref 246))) Qf E s := by
  with_reducible refine' execs_split (xs := [_, _, _]) (ys := (fnOfStm 81).2.1.drop 6) ?q_e ?q_go
  case q_e => exact rfl
  obtain ⟨H, gs, dr, tks, os⟩ := s
  dsimp only at F' N' htk hret
  revert F' N' hret htk
  revert B' X' T'
  k_fill
  intro B' X' T' F' N' htk hret
  have hlow := tkLow tks
  have i56 := inlineOk 56
  have hb1 : (a1, tupO [.int l1 w1, .int x1 u1, .int y1 u2] n1) ∈ (pl, listOf vs.toArray n) :: T := .tail _ ha1
  have hb2 : (a2, tupO [.int l2 w2, .int x2 u3, .int y2 u4] n2) ∈ (pl, listOf vs.toArray n) :: T := .tail _ ha2
  rcases Int.lt_trichotomy l1 l2 with hc | hc | hc
  · have em : min l1 l2 = l1 := Int.min_eq_left (Int.le_of_lt hc)
    rw [em] at hl4 hl0 hlk
    wrow_steps
    rename pl < _ ∧ AllLt _ T => hoff
    rename tks ≤ _ => htf
    rename Fr g' L' _ _ => kF
    rename News g' L' _ _ => kN
    refine ⟨?_⟩
    refine join_tail hop ih hkd (T := _ :: T) ?q_T (hR.mono (fun p hp => .tail _ hp) (fun _ _ => rfl) (Nat.le_refl _)) ok (.tail _ ha1) (.head _) (hl1 hl4) t1 t2 s2 s2 hl0 hl4 (by omega) (d1 hl4) (d2 hl4) ⟨c2.1, by omega⟩ ⟨c2.1, by omega⟩ hz B' kF X' T' (News.sub kN swap1) ?q_1 ?q_2 ?q_3 ?q_4 ?q_5 hks hdp hun (by dsimp only; omega) ?q_r
    case q_T => exact tail_off (off1 hoff) hT
    case q_1 => with_unfolding_all assumption
    case q_2 => with_unfolding_all assumption
    case q_3 => with_unfolding_all assumption
    case q_4 => with_unfolding_all rfl
    case q_5 => (show some (Value.int (if l2 < l1 then l2 else l1) (if l2 < l1 then w2 else w1)) = _; rw [if_neg (Int.not_lt.mpr (Int.le_of_lt hc)), if_neg (Int.not_lt.mpr (Int.le_of_lt hc))])
    case q_r =>
      intro r news' h9 tk9 m'' F9 N9 hl9 hp9
      refine hret _ _ _ _ _ F9 N9 (by dsimp only at hl9; omega) ?_
      have e1 : ¬ l1 < l1 := Int.lt_irrefl _
      rw [em, if_neg e1, if_neg e1, if_pos hc, if_pos hc]
      exact PoolPost.wide hp9 (off1 hoff)
  · have em : min l1 l2 = l1 := Int.min_eq_left (Int.le_of_eq hc)
    rw [em] at hl4 hl0 hlk
    wrow_steps
    rename tks ≤ _ => htf
    rename Fr g' L' _ _ => kF
    rename News g' L' _ _ => kN
    refine ⟨?_⟩
    refine join_tail hop ih hkd hT hR ok ha1 ha2 (hl1 hl4) t1 t2 t3 t4 hl0 hl4 (by omega) (d1 hl4) (d2 hl4) (hc ▸ d3 (hc ▸ hl4)) (hc ▸ d4 (hc ▸ hl4)) hz B' kF X' T' kN ?q_1 ?q_2 ?q_3 ?q_4 ?q_5 hks hdp hun (by dsimp only; omega) ?q_r
    case q_1 => with_unfolding_all assumption
    case q_2 => with_unfolding_all assumption
    case q_3 => with_unfolding_all assumption
    case q_4 => with_unfolding_all assumption
    case q_5 => (show some (Value.int (if l2 < l1 then l2 else l1) (if l2 < l1 then w2 else w1)) = _; rw [if_neg (Int.not_lt.mpr (Int.le_of_eq hc)), if_neg (Int.not_lt.mpr (Int.le_of_eq hc))])
    case q_r =>
      intro r news' h9 tk9 m'' F9 N9 hl9 hp9
      refine hret _ _ _ _ _ F9 N9 (by dsimp only at hl9; omega) ?_
      have e1 : ¬ l1 < l1 := Int.lt_irrefl _
      have e2 : ¬ l1 < l2 := by omega
      rw [em, if_neg e1, if_neg e1, if_neg e2, if_neg e2]
      exact hp9
  · have em : min l1 l2 = l2 := Int.min_eq_right (Int.le_of_lt hc)
    rw [em] at hl4 hl0 hlk
    wrow_steps
    rename pl < _ ∧ AllLt _ T => hoff
    rename tks ≤ _ => htf
    rename Fr g' L' _ _ => kF
    rename News g' L' _ _ => kN
    refine ⟨?_⟩
    have i1 : (if l2 < l1 then l2 else l1) = l2 := if_pos hc
    have i2 : (if l2 < l1 then w2 else w1) = w2 := if_pos hc
    rw [i1, i2] at kN
    refine join_tail hop ih hkd (T := _ :: T) ?q_T (hR.mono (fun p hp => .tail _ hp) (fun _ _ => rfl) (Nat.le_refl _)) ok (.head _) (.tail _ ha2) (hl2 hl4) s1 s1 t3 t4 hl0 hl4 (by omega) ⟨c1.1, by omega⟩ ⟨c1.1, by omega⟩ (d3 hl4) (d4 hl4) hz B' kF X' T' (News.sub kN swap1) ?q_1 ?q_2 ?q_3 ?q_4 ?q_5 hks hdp hun (by dsimp only; omega) ?q_r
    case q_T => exact tail_off (off1 hoff) hT
    case q_1 => with_unfolding_all assumption
    case q_2 => with_unfolding_all assumption
    case q_3 => with_unfolding_all rfl
    case q_4 => with_unfolding_all assumption
    case q_5 => (show some (Value.int (if l2 < l1 then l2 else l1) (if l2 < l1 then w2 else w1)) = _; rw [i1, i2])
    case q_r =>
      intro r news' h9 tk9 m'' F9 N9 hl9 hp9
      refine hret _ _ _ _ _ F9 N9 (by dsimp only at hl9; omega) ?_
      have e1 : ¬ l2 < l2 := Int.lt_irrefl _
      rw [em, if_neg e1, if_neg e1, if_pos hc, if_pos hc]
      exact PoolPost.wide hp9 (off1 hoff)
end
section
theorem map1 {ps : List (Int × Tok)} {a : Int} {l : List Int} (h : ps.map (·.1) = a :: l) : ∃ t qs, ps = (a, t) :: qs ∧ qs.map (·.1) = l := by
  obtain ⟨⟨x, t⟩, qs, rfl, rfl, rfl⟩ := List.map_eq_cons_iff.mp h
  exact ⟨t, qs, rfl, rfl⟩
theorem map3 {ps : List (Int × Tok)} {a b c : Int} (h : ps.map (·.1) = [a, b, c]) : ∃ t1 t2 t3, ps = [(a, t1), (b, t2), (c, t3)] := by
  obtain ⟨t1, p1, rfl, h1⟩ := map1 h
  obtain ⟨t2, p2, rfl, h2⟩ := map1 h1
  obtain ⟨t3, p3, rfl, h3⟩ := map1 h2
  obtain rfl := List.map_eq_nil_iff.mp h3
  exact ⟨t1, t2, t3, rfl⟩
theorem row_at {f : Nat → Int} {tk : Nat} {T : List (Addr × Obj)} {vs : List Value} {rows : List Row} {i : Nat} {r : Row} {k : Nat} (hR : RowsIn f tk T vs rows) (hr : rows[i]? = some r) (hz : rows.length + 2 ^ k ≤ 100000) :
    ∃ a : Addr, ItemAt vs (256 + (i : Int) - 256) (.ref a) ∧ ∃ (n : Nat) (t1 t2 t3 : Tok), (a, tupO [.int r.1 t1, .int r.2.1 t2, .int r.2.2 t3] n) ∈ T ∧ TkAt f tk r.1 t1 ∧ TkAt f tk r.2.1 t2 ∧ TkAt f tk r.2.2 t3 := by
  have hi : i < rows.length := (List.getElem?_eq_some_iff.mp hr).1
  have hi' : i < vs.length := hR.1 ▸ hi
  have hv : vs[i]? = some vs[i] := List.getElem?_eq_getElem hi'
  obtain ⟨a, n, ps, e, hm, hp, ht⟩ := hR.2 i _ _ hv hr
  have e2 : (256 + (i : Int) - 256).toNat = i := by omega
  have e3 : 0 < 2 ^ k := Nat.two_pow_pos k
  have e4 : (256 + (i : Int) - 256) < 2 ^ 63 := by omega
  refine ⟨a, ⟨by omega, e4, by rw [e2, hv, e]⟩, ?_⟩
  obtain ⟨t1, t2, t3, rfl⟩ := map3 hp
  exact ⟨n, t1, t2, t3, hm, ht _ (.head _), ht _ (.tail _ (.head _)), ht _ (.tail _ (.tail _ (.head _)))⟩
theorem cof1N {rows : List Row} {i : Nat} {r : Row} {l : Int} (h : rows[i]? = some r) : (if l < r.1 then (256 + (i : Int)) else r.2.1) = (cof rows (256 + (i : Int)) l).1 := by
  have e : (256 + (i : Int) - 256).toNat = i := by omega
  have : ¬ (256 + (i : Int) < 256) := by omega
  simp only [cof, if_neg this, e, h, Option.getD_some]
  split <;> rfl
theorem cof2N {rows : List Row} {i : Nat} {r : Row} {l : Int} (h : rows[i]? = some r) : (if l < r.1 then (256 + (i : Int)) else r.2.2) = (cof rows (256 + (i : Int)) l).2 := by
  have e : (256 + (i : Int) - 256).toNat = i := by omega
  have : ¬ (256 + (i : Int) < 256) := by omega
  simp only [cof, if_neg this, e, h, Option.getD_some]
  split <;> rfl
theorem cof1T {rows : List Row} {n l l' : Int} (h : n < 256) : (if l < l' then n else n) = (cof rows n l).1 := by
  rw [cof_term h]; split <;> rfl
theorem cof2T {rows : List Row} {n l l' : Int} (h : n < 256) : (if l < l' then n else n) = (cof rows n l).2 := by
  rw [cof_term h]; split <;> rfl
theorem joinP_T {op : Int → Int → Int} {k : Nat} {rows : List Row} {one two : Int} (c : ¬ (one < 256 ∧ two < 256)) : joinP op (k + 1) rows one two = joinT op k rows (min (lev rows one) (lev rows two)) (cof rows one (min (lev rows one) (lev rows two))).1 (cof rows two (min (lev rows one) (lev rows two))).1 (cof rows one (min (lev rows one) (lev rows two))).2 (cof rows two (min (lev rows one) (lev rows two))).2 := by
  simp only [joinP, joinT, if_neg c]
noncomputable abbrev jnEnv (L' : Addr) : Env := envOf (Str.ofString "_law_join") (fnOfStm 81).2.2 L' 247 (.ref 246)
structure SideOk (f : Nat → Int) (tk0 : Nat) (rows : List Row) (x l y z : Int) (u1 u2 u3 : Tok) : Prop where
  lv : l = lev rows x
  t1 : l < 4 → TkAt f tk0 l u1
  t2 : TkAt f tk0 y u2
  t3 : TkAt f tk0 z u3
  c1 : ∀ m, (if m < l then x else y) = (cof rows x m).1
  c2 : ∀ m, (if m < l then x else z) = (cof rows x m).2
  d1 : l < 4 → Nd rows y ∧ l < lev rows y
  d2 : l < 4 → Nd rows z ∧ l < lev rows z
theorem sideT {f : Nat → Int} {tk0 : Nat} {rows : List Row} {x : Int} {t u : Tok} (ok : RowsOk rows) (hn : Nd rows x) (ht : TkAt f tk0 x t) (c : x < 256) : SideOk f tk0 rows x 4 x x u t t :=
  ⟨(lev_term c).symm, fun h => absurd h (by decide), ht, ht, fun _ => cof1T c, fun _ => cof2T c, fun h => absurd h (by decide), fun h => absurd h (by decide)⟩
theorem sideN {f : Nat → Int} {tk0 : Nat} {rows : List Row} {i : Nat} {r : Row} {u1 u2 u3 : Tok} (ok : RowsOk rows) (hr : rows[i]? = some r) (h1 : TkAt f tk0 r.1 u1) (h2 : TkAt f tk0 r.2.1 u2) (h3 : TkAt f tk0 r.2.2 u3) : SideOk f tk0 rows (256 + (i : Int)) r.1 r.2.1 r.2.2 u1 u2 u3 :=
  ⟨(lev_row hr).symm, fun _ => h1, h2, h3, fun _ => cof1N hr, fun _ => cof2N hr, fun _ => ⟨(ok.nd i r hr).1, (ok.lv i r hr).1⟩, fun _ => ⟨(ok.nd i r hr).2, (ok.lv i r hr).2⟩⟩
set_option maxHeartbeats 4000000 in
theorem join_left {w : World} {pl : Addr} {vs : List Value} {n : Nat} {T : List (Addr × Obj)} {rows : List Row} {f : Nat → Int} {tk0 : Nat} {x : Int} {t : Tok} (hR : RowsIn f tk0 T vs rows) (ok : RowsOk rows) (hn : Nd rows x) (ht : TkAt f tk0 x t) (hz : rows.length + 2 ^ 1 ≤ 100000)
    (B' : Below (ktrTop dp un gd cn cs L a ccd cl outer) base (envX cn cs L a ccd cl :: outer) g') (F' : Fr g' L' s.heap m') (X' : (KK w.params).In g') (T' : Top qv looseL mean mg mb g') (N' : News g' L' s.heap ((pl, listOf vs.toArray n) :: T))
    (hm1 : m' (Str.ofString "pool") = some (.ref pl)) (hm2 : m' (Str.ofString "one") = some (.int x t)) (hks : cs.kind = .function) (hdp : dp + 20 < recursionLimit) (hun : un + 300 < cLine)
    (hret : ∀ b tl h' tk' l y z u1 u2 u3 m, Fr g' L' h' (fun y => if y = Str.ofString "left" then some (.ref b) else m' y) → News g' L' h' ((pl, listOf vs.toArray n) :: (tl ++ T)) → s.toks ≤ tk' → (b, tupO [.int l u1, .int y u2, .int z u3] m) ∈ tl ++ T → SideOk f tk0 rows x l y z u1 u2 u3 → (∀ p ∈ tl, p.1 ≠ pl ∧ ∀ q ∈ T, p.1 ≠ q.1) → Stop (wpAny (model Challenge.rw_wf0091_01.prog w) ((ktrTop dp un gd cn cs L a ccd cl outer).deeper (jnEnv L')) (execs ((fnOfStm 81).2.1.drop 2) (jnEnv L')) Qf E { s with heap := h', toks := tk' })) :
    wpAny (model Challenge.rw_wf0091_01.prog w) ((ktrTop dp un gd cn cs L a ccd cl outer).deeper (jnEnv L')) (execs ((fnOfStm 81).2.1.drop 1) (jnEnv L')) Qf E s := by
  with_reducible refine' execs_split (xs := [_]) (ys := (fnOfStm 81).2.1.drop 2) ?q_e ?q_go
  case q_e => exact rfl
  obtain ⟨H, gs, dr, tks, os⟩ := s
  dsimp only at F' N' hret
  revert F' N' hret
  revert B' X' T'
  k_fill
  intro B' X' T' F' N' hret
  have hlow := tkLow tks
  have i200 := inlineOk 200
  have i207 := inlineOk 207
  have i112 := inlineOk 112
  have i84 := inlineOk 84
  by_cases c : x < 256
  · wrow_steps
    rename pl < _ ∧ AllLt _ T => hoff
    rename Fr g' L' _ _ => kF
    rename News g' L' _ _ => kN
    exact hret _ [_] _ _ _ _ _ _ _ _ _ kF (News.sub kN swap1) (by omega) (.head _) (sideT ok hn ht c) (off1 hoff)
  · obtain ⟨i1, r1, rfl, hr1, hi1⟩ := hn.row c
    obtain ⟨b1, it1, m1, u4, u5, u6, hm9, hu4, hu5, hu6⟩ := row_at hR hr1 hz
    have hb1 : (b1, tupO [.int r1.1 u4, .int r1.2.1 u5, .int r1.2.2 u6] m1) ∈ (pl, listOf vs.toArray n) :: T := .tail _ hm9
    wrow_steps
    rename Fr g' L' _ _ => kF
    rename News g' L' _ _ => kN
    exact hret _ [] _ _ _ _ _ _ _ _ _ kF kN (by omega) hm9 (sideN ok hr1 hu4 hu5 hu6) (fun _ h => absurd h List.not_mem_nil)
set_option maxHeartbeats 4000000 in
theorem join_right {w : World} {pl : Addr} {vs : List Value} {n : Nat} {T : List (Addr × Obj)} {rows : List Row} {f : Nat → Int} {tk0 : Nat} {x : Int} {t : Tok} (hR : RowsIn f tk0 T vs rows) (ok : RowsOk rows) (hn : Nd rows x) (ht : TkAt f tk0 x t) (hz : rows.length + 2 ^ 1 ≤ 100000)
    (B' : Below (ktrTop dp un gd cn cs L a ccd cl outer) base (envX cn cs L a ccd cl :: outer) g') (F' : Fr g' L' s.heap m') (X' : (KK w.params).In g') (T' : Top qv looseL mean mg mb g') (N' : News g' L' s.heap ((pl, listOf vs.toArray n) :: T))
    (hm1 : m' (Str.ofString "pool") = some (.ref pl)) (hm2 : m' (Str.ofString "two") = some (.int x t)) (hks : cs.kind = .function) (hdp : dp + 20 < recursionLimit) (hun : un + 300 < cLine)
    (hret : ∀ b tl h' tk' l y z u1 u2 u3 m, Fr g' L' h' (fun y => if y = Str.ofString "right" then some (.ref b) else m' y) → News g' L' h' ((pl, listOf vs.toArray n) :: (tl ++ T)) → s.toks ≤ tk' → (b, tupO [.int l u1, .int y u2, .int z u3] m) ∈ tl ++ T → SideOk f tk0 rows x l y z u1 u2 u3 → (∀ p ∈ tl, p.1 ≠ pl ∧ ∀ q ∈ T, p.1 ≠ q.1) → Stop (wpAny (model Challenge.rw_wf0091_01.prog w) ((ktrTop dp un gd cn cs L a ccd cl outer).deeper (jnEnv L')) (execs ((fnOfStm 81).2.1.drop 3) (jnEnv L')) Qf E { s with heap := h', toks := tk' })) :
    wpAny (model Challenge.rw_wf0091_01.prog w) ((ktrTop dp un gd cn cs L a ccd cl outer).deeper (jnEnv L')) (execs ((fnOfStm 81).2.1.drop 2) (jnEnv L')) Qf E s := by
  with_reducible refine' execs_split (xs := [_]) (ys := (fnOfStm 81).2.1.drop 3) ?q_e ?q_go
  case q_e => exact rfl
  obtain ⟨H, gs, dr, tks, os⟩ := s
  dsimp only at F' N' hret
  revert F' N' hret
  revert B' X' T'
  k_fill
  intro B' X' T' F' N' hret
  have hlow := tkLow tks
  have i200 := inlineOk 200
  have i207 := inlineOk 207
  have i112 := inlineOk 112
  have i84 := inlineOk 84
  by_cases c : x < 256
  · wrow_steps
    rename pl < _ ∧ AllLt _ T => hoff
    rename Fr g' L' _ _ => kF
    rename News g' L' _ _ => kN
    exact hret _ [_] _ _ _ _ _ _ _ _ _ kF (News.sub kN swap1) (by omega) (.head _) (sideT ok hn ht c) (off1 hoff)
  · obtain ⟨i1, r1, rfl, hr1, hi1⟩ := hn.row c
    obtain ⟨b1, it1, m1, u4, u5, u6, hm9, hu4, hu5, hu6⟩ := row_at hR hr1 hz
    have hb1 : (b1, tupO [.int r1.1 u4, .int r1.2.1 u5, .int r1.2.2 u6] m1) ∈ (pl, listOf vs.toArray n) :: T := .tail _ hm9
    wrow_steps
    rename Fr g' L' _ _ => kF
    rename News g' L' _ _ => kN
    exact hret _ [] _ _ _ _ _ _ _ _ _ kF kN (by omega) hm9 (sideN ok hr1 hu4 hu5 hu6) (fun _ h => absurd h List.not_mem_nil)
set_option maxHeartbeats 4000000 in
theorem join_first {w : World} {one two : Int} {t1 t2 : Tok} {TT : List (Addr × Obj)} (c : ¬ (one < 256 ∧ two < 256))
    (B' : Below (ktrTop dp un gd cn cs L a ccd cl outer) base (envX cn cs L a ccd cl :: outer) g') (F' : Fr g' L' s.heap m') (X' : (KK w.params).In g') (T' : Top qv looseL mean mg mb g') (N' : News g' L' s.heap TT)
    (hm1 : m' (Str.ofString "one") = some (.int one t1)) (hm2 : m' (Str.ofString "two") = some (.int two t2)) (hks : cs.kind = .function) (hdp : dp + 20 < recursionLimit) (hun : un + 300 < cLine)
    (hret : ∀ h' tk', Fr g' L' h' m' → News g' L' h' TT → s.toks ≤ tk' → Stop (wpAny (model Challenge.rw_wf0091_01.prog w) ((ktrTop dp un gd cn cs L a ccd cl outer).deeper (jnEnv L')) (execs ((fnOfStm 81).2.1.drop 1) (jnEnv L')) Qf E { s with heap := h', toks := tk' })) :
    wpAny (model Challenge.rw_wf0091_01.prog w) ((ktrTop dp un gd cn cs L a ccd cl outer).deeper (jnEnv L')) (execs (fnOfStm 81).2.1 (jnEnv L')) Qf E s := by
  with_reducible refine' execs_split (xs := [_]) (ys := (fnOfStm 81).2.1.drop 1) ?q_e ?q_go
  case q_e => exact rfl
  obtain ⟨H, gs, dr, tks, os⟩ := s
  dsimp only at F' N' hret
  revert F' N' hret
  revert B' X' T'
  k_fill
  intro B' X' T' F' N' hret
  have hlow := tkLow tks
  have i200 := inlineOk 200
  by_cases c1 : one < 256
  · have c2 : ¬ two < 256 := fun h => c ⟨c1, h⟩
    wrow_steps
    rename Fr g' L' _ _ => kF
    rename News g' L' _ _ => kN
    exact hret _ _ kF kN (by omega)
  · wrow_steps
    rename Fr g' L' _ _ => kF
    rename News g' L' _ _ => kN
    exact hret _ _ kF kN (by omega)
set_option maxHeartbeats 4000000 in
theorem join_con {w : World} {pl : Addr} {d : Addr} {op : Int → Int → Int} (hd : Deed w d op) (hop : ∀ x y, (x = 0 ∨ x = 1) → (y = 0 ∨ y = 1) → op x y = 0 ∨ op x y = 1) (k : Nat) : JoinCon w pl d op k := by
  induction k with
  | zero =>
    intro vs n T rows f tk0 one two t1 t2 hT hR ok hn1 hn2 hv1 hv2 h1 h2 hz
    have c1 : one < 256 := by
      apply Classical.byContradiction; intro c; have := lev_lt ok hn1 c; omega
    have c2 : two < 256 := by
      apply Classical.byContradiction; intro c; have := lev_lt ok hn2 c; omega
    exact (join_base hd hT hR hn1 hn2 h1 h2 c1 c2).mono (by omega) (by omega)
  | succ k ih =>
  intro vs n T rows f tk0 one two t1 t2 hT hR ok hn1 hn2 hv1 hv2 h1 h2 hz
  by_cases c : one < 256 ∧ two < 256
  · have : joinP op (k + 1) rows one two = (rows, op one two) := by simp only [joinP, if_pos c]
    rw [this]
    exact (join_base hd hT hR hn1 hn2 h1 h2 c.1 c.2).mono (by omega) (by omega)
  have hll := lev_ge ok hn1 hn2 c
  have hkk : 4 ≤ min (lev rows one) (lev rows two) + ((k + 1 : Nat) : Int) := by omega
  rw [joinP_T c]
  unfold Con
  k_fill
  intro mean mg mb dp un gd cn cs a ccd cl outer A₀ base h₀ L m s Q E B F X N T' hks hdp hun htk hret
  have hkd := hd.1
  refine wpAny_with_toks (Nat.le_refl _) ?_
  refine wpAny_call ?_
  refine code_def (name := Str.ofString "_law_join") (params := (fnOfStm 81).1) (body := (fnOfStm 81).2.1) (scope := (fnOfStm 81).2.2) (cdv := .ref 246) (binds := [(Str.ofString "pool", .ref pl), (Str.ofString "deed", .ref d), (Str.ofString "one", .int one t1), (Str.ofString "two", .int two t2)]) B F X N T' rfl rfl hks (by k_is) (by k_is) (by ktr_room) (BindsTo.of_eq rfl) (locs rfl) ?_ rfl rfl rfl (by decide)
  intro g' L' h' FG' F' N' B' X' T''
  obtain ⟨mm, hmm, F'⟩ : ∃ mm, mm = _ ∧ Fr g' L' h' mm := ⟨_, rfl, F'⟩
  have p1 : mm (Str.ofString "pool") = some (.ref pl) := by subst hmm; with_unfolding_all rfl
  have p2 : mm (Str.ofString "deed") = some (.ref d) := by subst hmm; with_unfolding_all rfl
  have p3 : mm (Str.ofString "one") = some (.int one t1) := by subst hmm; with_unfolding_all rfl
  have p4 : mm (Str.ofString "two") = some (.int two t2) := by subst hmm; with_unfolding_all rfl
  clear hmm
  refine join_first c B' F' X' T'' N' p3 p4 hks (by omega) (by omega) fun h0 tk1 F0 N0 hk1 => ?_
  refine ⟨?_⟩
  have hz1 : rows.length + 2 ^ 1 ≤ 100000 := Nat.le_trans (Nat.add_le_add_left (Nat.pow_le_pow_right (by decide) (Nat.le_add_left 1 k)) _) hz
  refine join_left hR ok hn1 h1 hz1 B' F0 X' T'' N0 p1 p3 hks (by omega) (by omega) ?_
  intro b1 tl1 h1' tk2 l1 y1 z1 u1 u2 u3 m1 F1 N1 hk2 hb1 S1 off1
  refine ⟨?_⟩
  refine join_right (hR.mono (fun p hp => List.mem_append_right tl1 hp) (fun _ _ => rfl) (Nat.le_refl _)) ok hn2 h2 hz1 B' F1 X' T'' N1 ?q_1 ?q_2 hks (by omega) (by omega) ?_
  case q_1 => with_unfolding_all exact p1
  case q_2 => with_unfolding_all exact p4
  intro b2 tl2 h2' tk3 l2 y2 z2 w1 w2 w3 m2 F2 N2 hk3 hb2 S2 off2
  refine ⟨?_⟩
  dsimp only at hk1 hk2 hk3
  obtain rfl := S1.lv
  obtain rfl := S2.lv
  refine join_mid hop ih hkd (T := tl2 ++ (tl1 ++ T)) (tail_off off2 (tail_off off1 hT)) (hR.mono (fun p hp => List.mem_append_right _ (List.mem_append_right _ hp)) (fun _ _ => rfl) (Nat.le_refl _)) ok (List.mem_append_right _ hb1) hb2 S1.t1 S2.t1 S1.t2 S1.t3 S2.t2 S2.t3 h1 h2 hll.1 hll.2 hkk ⟨hn1, Int.le_refl _⟩ ⟨hn2, Int.le_refl _⟩ S1.d1 S1.d2 S2.d1 S2.d2 hz B' F2 X' T'' N2 ?q_1 ?q_2 ?q_3 ?q_4 ?q_5 ?q_6 hks hdp hun (by dsimp only; omega) ?q_r
  case q_1 => with_unfolding_all exact p1
  case q_2 => with_unfolding_all exact p2
  case q_3 => with_unfolding_all rfl
  case q_4 => with_unfolding_all rfl
  case q_5 => with_unfolding_all exact p3
  case q_6 => with_unfolding_all exact p4
  case q_r =>
    intro r news' h9 tk9 m'' F9 N9 hl9 hp9
    (try dsimp only at hl9)
    rw [S1.c1, S2.c1, S1.c2, S2.c2] at hp9
    have hp8 := PoolPost.wide (PoolPost.wide hp9 off2) off1
    wrow_steps
    rename News h₀ L _ _ => kN
    rename Fr h₀ L _ _ => kF
    refine hret _ _ _ _ kF kN (by omega) hp8
end
section
noncomputable def tb (a b c d : Int) (x y : Int) : Int := if x = 0 then (if y = 0 then a else b) else (if y = 0 then c else d)
theorem tb_bit {a b c d : Int} (ha : a = 0 ∨ a = 1) (hb : b = 0 ∨ b = 1) (hc : c = 0 ∨ c = 1) (hd : d = 0 ∨ d = 1) (x y : Int) : tb a b c d x y = 0 ∨ tb a b c d x y = 1 := by
  unfold tb; split <;> split <;> assumption
set_option maxHeartbeats 4000000 in
theorem deed_and_ {w : World} : Deed w 70 (tb 0 0 0 1) := by
  refine ⟨by kernel_rfl, ?_⟩
  intro T x y t u hx hy
  unfold Con
  k_fill
  intro mean mg mb dp un gd cn cs a ccd cl outer A₀ base h₀ L m s Q E B F X N T' hks hdp hun htk hret
  refine wpAny_with_toks (Nat.le_refl _) ?_
  refine wpAny_call ?_
  refine code_def (name := Str.ofString "and_") (params := (fnOfStm 8).1) (body := (fnOfStm 8).2.1) (scope := (fnOfStm 8).2.2) (cdv := .ref 69) (binds := [(Str.ofString "a", .int x t), (Str.ofString "b", .int y u)]) B F X N T' rfl rfl hks (by k_is) (by k_is) (by ktr_room) (BindsTo.of_eq rfl) (locs rfl) ?_ rfl rfl rfl (by decide)
  intro g' L' h' FG' F' N' B' X' T''
  conv => (arg 3; arg 1; whnf)
  have hlow := tkLow s.toks
  wrow_steps
  all_goals (rename News h₀ L _ _ => kN; rename Fr h₀ L _ _ => kF)
  refine hret _ _ _ _ kF kN (by first | omega | (dsimp only at *; omega)) ⟨rfl, ?_⟩
  exact .inl ⟨_, by rcases hx with rfl | rfl <;> rcases hy with rfl | rfl <;> rfl⟩
set_option maxHeartbeats 4000000 in
theorem deed_or_ {w : World} : Deed w 77 (tb 0 1 1 1) := by
  refine ⟨by kernel_rfl, ?_⟩
  intro T x y t u hx hy
  unfold Con
  k_fill
  intro mean mg mb dp un gd cn cs a ccd cl outer A₀ base h₀ L m s Q E B F X N T' hks hdp hun htk hret
  refine wpAny_with_toks (Nat.le_refl _) ?_
  refine wpAny_call ?_
  refine code_def (name := Str.ofString "or_") (params := (fnOfStm 9).1) (body := (fnOfStm 9).2.1) (scope := (fnOfStm 9).2.2) (cdv := .ref 76) (binds := [(Str.ofString "a", .int x t), (Str.ofString "b", .int y u)]) B F X N T' rfl rfl hks (by k_is) (by k_is) (by ktr_room) (BindsTo.of_eq rfl) (locs rfl) ?_ rfl rfl rfl (by decide)
  intro g' L' h' FG' F' N' B' X' T''
  conv => (arg 3; arg 1; whnf)
  have hlow := tkLow s.toks
  wrow_steps
  all_goals (rename News h₀ L _ _ => kN; rename Fr h₀ L _ _ => kF)
  refine hret _ _ _ _ kF kN (by first | omega | (dsimp only at *; omega)) ⟨rfl, ?_⟩
  exact .inl ⟨_, by rcases hx with rfl | rfl <;> rcases hy with rfl | rfl <;> rfl⟩
set_option maxHeartbeats 4000000 in
theorem deed_xor {w : World} : Deed w 91 (tb 0 1 1 0) := by
  refine ⟨by kernel_rfl, ?_⟩
  intro T x y t u hx hy
  unfold Con
  k_fill
  intro mean mg mb dp un gd cn cs a ccd cl outer A₀ base h₀ L m s Q E B F X N T' hks hdp hun htk hret
  refine wpAny_with_toks (Nat.le_refl _) ?_
  refine wpAny_call ?_
  refine code_def (name := Str.ofString "xor") (params := (fnOfStm 11).1) (body := (fnOfStm 11).2.1) (scope := (fnOfStm 11).2.2) (cdv := .ref 90) (binds := [(Str.ofString "a", .int x t), (Str.ofString "b", .int y u)]) B F X N T' rfl rfl hks (by k_is) (by k_is) (by ktr_room) (BindsTo.of_eq rfl) (locs rfl) ?_ rfl rfl rfl (by decide)
  intro g' L' h' FG' F' N' B' X' T''
  conv => (arg 3; arg 1; whnf)
  have hlow := tkLow s.toks
  wrow_steps
  all_goals (rename News h₀ L _ _ => kN; rename Fr h₀ L _ _ => kF)
  refine hret _ _ _ _ kF kN (by first | omega | (dsimp only at *; omega)) ⟨rfl, ?_⟩
  exact .inl ⟨_, by rcases hx with rfl | rfl <;> rcases hy with rfl | rfl <;> rfl⟩
set_option maxHeartbeats 4000000 in
theorem deed_lt {w : World} : Deed w 21 (tb 0 1 0 0) := by
  refine ⟨by kernel_rfl, ?_⟩
  intro T x y t u hx hy
  unfold Con
  k_fill
  intro mean mg mb dp un gd cn cs a ccd cl outer A₀ base h₀ L m s Q E B F X N T' hks hdp hun htk hret
  refine wpAny_with_toks (Nat.le_refl _) ?_
  refine wpAny_call ?_
  refine code_def (name := Str.ofString "lt") (params := (fnOfStm 1).1) (body := (fnOfStm 1).2.1) (scope := (fnOfStm 1).2.2) (cdv := .ref 20) (binds := [(Str.ofString "a", .int x t), (Str.ofString "b", .int y u)]) B F X N T' rfl rfl hks (by k_is) (by k_is) (by ktr_room) (BindsTo.of_eq rfl) (locs rfl) ?_ rfl rfl rfl (by decide)
  intro g' L' h' FG' F' N' B' X' T''
  conv => (arg 3; arg 1; whnf)
  have hlow := tkLow s.toks
  wrow_steps
  all_goals (rename News h₀ L _ _ => kN; rename Fr h₀ L _ _ => kF)
  refine hret _ _ _ _ kF kN (by first | omega | (dsimp only at *; omega)) ⟨rfl, ?_⟩
  exact .inr ⟨_, rfl, by rcases hx with rfl | rfl <;> rcases hy with rfl | rfl <;> rfl⟩
set_option maxHeartbeats 4000000 in
theorem deed_le {w : World} : Deed w 28 (tb 1 1 0 1) := by
  refine ⟨by kernel_rfl, ?_⟩
  intro T x y t u hx hy
  unfold Con
  k_fill
  intro mean mg mb dp un gd cn cs a ccd cl outer A₀ base h₀ L m s Q E B F X N T' hks hdp hun htk hret
  refine wpAny_with_toks (Nat.le_refl _) ?_
  refine wpAny_call ?_
  refine code_def (name := Str.ofString "le") (params := (fnOfStm 2).1) (body := (fnOfStm 2).2.1) (scope := (fnOfStm 2).2.2) (cdv := .ref 27) (binds := [(Str.ofString "a", .int x t), (Str.ofString "b", .int y u)]) B F X N T' rfl rfl hks (by k_is) (by k_is) (by ktr_room) (BindsTo.of_eq rfl) (locs rfl) ?_ rfl rfl rfl (by decide)
  intro g' L' h' FG' F' N' B' X' T''
  conv => (arg 3; arg 1; whnf)
  have hlow := tkLow s.toks
  wrow_steps
  all_goals (rename News h₀ L _ _ => kN; rename Fr h₀ L _ _ => kF)
  refine hret _ _ _ _ kF kN (by first | omega | (dsimp only at *; omega)) ⟨rfl, ?_⟩
  exact .inr ⟨_, rfl, by rcases hx with rfl | rfl <;> rcases hy with rfl | rfl <;> rfl⟩
set_option maxHeartbeats 4000000 in
theorem deed_eq {w : World} : Deed w 35 (tb 1 0 0 1) := by
  refine ⟨by kernel_rfl, ?_⟩
  intro T x y t u hx hy
  unfold Con
  k_fill
  intro mean mg mb dp un gd cn cs a ccd cl outer A₀ base h₀ L m s Q E B F X N T' hks hdp hun htk hret
  refine wpAny_with_toks (Nat.le_refl _) ?_
  refine wpAny_call ?_
  refine code_def (name := Str.ofString "eq") (params := (fnOfStm 3).1) (body := (fnOfStm 3).2.1) (scope := (fnOfStm 3).2.2) (cdv := .ref 34) (binds := [(Str.ofString "a", .int x t), (Str.ofString "b", .int y u)]) B F X N T' rfl rfl hks (by k_is) (by k_is) (by ktr_room) (BindsTo.of_eq rfl) (locs rfl) ?_ rfl rfl rfl (by decide)
  intro g' L' h' FG' F' N' B' X' T''
  conv => (arg 3; arg 1; whnf)
  have hlow := tkLow s.toks
  wrow_steps
  all_goals (rename News h₀ L _ _ => kN; rename Fr h₀ L _ _ => kF)
  refine hret _ _ _ _ kF kN (by first | omega | (dsimp only at *; omega)) ⟨rfl, ?_⟩
  exact .inr ⟨_, rfl, by rcases hx with rfl | rfl <;> rcases hy with rfl | rfl <;> rfl⟩
set_option maxHeartbeats 4000000 in
theorem deed_ne {w : World} : Deed w 42 (tb 0 1 1 0) := by
  refine ⟨by kernel_rfl, ?_⟩
  intro T x y t u hx hy
  unfold Con
  k_fill
  intro mean mg mb dp un gd cn cs a ccd cl outer A₀ base h₀ L m s Q E B F X N T' hks hdp hun htk hret
  refine wpAny_with_toks (Nat.le_refl _) ?_
  refine wpAny_call ?_
  refine code_def (name := Str.ofString "ne") (params := (fnOfStm 4).1) (body := (fnOfStm 4).2.1) (scope := (fnOfStm 4).2.2) (cdv := .ref 41) (binds := [(Str.ofString "a", .int x t), (Str.ofString "b", .int y u)]) B F X N T' rfl rfl hks (by k_is) (by k_is) (by ktr_room) (BindsTo.of_eq rfl) (locs rfl) ?_ rfl rfl rfl (by decide)
  intro g' L' h' FG' F' N' B' X' T''
  conv => (arg 3; arg 1; whnf)
  have hlow := tkLow s.toks
  wrow_steps
  all_goals (rename News h₀ L _ _ => kN; rename Fr h₀ L _ _ => kF)
  refine hret _ _ _ _ kF kN (by first | omega | (dsimp only at *; omega)) ⟨rfl, ?_⟩
  exact .inr ⟨_, rfl, by rcases hx with rfl | rfl <;> rcases hy with rfl | rfl <;> rfl⟩
set_option maxHeartbeats 4000000 in
theorem deed_ge {w : World} : Deed w 49 (tb 1 0 1 1) := by
  refine ⟨by kernel_rfl, ?_⟩
  intro T x y t u hx hy
  unfold Con
  k_fill
  intro mean mg mb dp un gd cn cs a ccd cl outer A₀ base h₀ L m s Q E B F X N T' hks hdp hun htk hret
  refine wpAny_with_toks (Nat.le_refl _) ?_
  refine wpAny_call ?_
  refine code_def (name := Str.ofString "ge") (params := (fnOfStm 5).1) (body := (fnOfStm 5).2.1) (scope := (fnOfStm 5).2.2) (cdv := .ref 48) (binds := [(Str.ofString "a", .int x t), (Str.ofString "b", .int y u)]) B F X N T' rfl rfl hks (by k_is) (by k_is) (by ktr_room) (BindsTo.of_eq rfl) (locs rfl) ?_ rfl rfl rfl (by decide)
  intro g' L' h' FG' F' N' B' X' T''
  conv => (arg 3; arg 1; whnf)
  have hlow := tkLow s.toks
  wrow_steps
  all_goals (rename News h₀ L _ _ => kN; rename Fr h₀ L _ _ => kF)
  refine hret _ _ _ _ kF kN (by first | omega | (dsimp only at *; omega)) ⟨rfl, ?_⟩
  exact .inr ⟨_, rfl, by rcases hx with rfl | rfl <;> rcases hy with rfl | rfl <;> rfl⟩
set_option maxHeartbeats 4000000 in
theorem deed_gt {w : World} : Deed w 56 (tb 0 0 1 0) := by
  refine ⟨by kernel_rfl, ?_⟩
  intro T x y t u hx hy
  unfold Con
  k_fill
  intro mean mg mb dp un gd cn cs a ccd cl outer A₀ base h₀ L m s Q E B F X N T' hks hdp hun htk hret
  refine wpAny_with_toks (Nat.le_refl _) ?_
  refine wpAny_call ?_
  refine code_def (name := Str.ofString "gt") (params := (fnOfStm 6).1) (body := (fnOfStm 6).2.1) (scope := (fnOfStm 6).2.2) (cdv := .ref 55) (binds := [(Str.ofString "a", .int x t), (Str.ofString "b", .int y u)]) B F X N T' rfl rfl hks (by k_is) (by k_is) (by ktr_room) (BindsTo.of_eq rfl) (locs rfl) ?_ rfl rfl rfl (by decide)
  intro g' L' h' FG' F' N' B' X' T''
  conv => (arg 3; arg 1; whnf)
  have hlow := tkLow s.toks
  wrow_steps
  all_goals (rename News h₀ L _ _ => kN; rename Fr h₀ L _ _ => kF)
  refine hret _ _ _ _ kF kN (by first | omega | (dsimp only at *; omega)) ⟨rfl, ?_⟩
  exact .inr ⟨_, rfl, by rcases hx with rfl | rfl <;> rcases hy with rfl | rfl <;> rfl⟩
end
section
structure WkT (prog : Program) (w : World) (A : Around) (I : Addr) (ls : List Addr) (n : Nat) (P : Nat → Nat → Nat → Value → Prop) (St : Nat → Heap → Prop) : Prop where
  frame : ∀ i h h', St i h → (∀ b, b = I ∨ b ∈ ls → ∀ o, h.get? b = some o → h'.get? b = some o) → St i h'
  item : ∀ i (s : Shared) (Q : Option Value → Shared → Prop) (E : Value → Shared → Prop), i < n → St i s.heap →
    (∀ v h' tk, P i s.toks tk v → s.toks ≤ tk → St (i + 1) h' → (∀ b o, b ≠ I → s.heap.get? b = some o → h'.get? b = some o) → Q (some v) { s with heap := h', toks := tk }) → wpAny (model prog w) A (pyNext (.ref I)) Q E s
  done : ∀ (s : Shared) (Q : Option Value → Shared → Prop) (E : Value → Shared → Prop), St n s.heap →
    (∀ h', (∀ b o, b ≠ I → s.heap.get? b = some o → h'.get? b = some o) → Q none { s with heap := h' }) → wpAny (model prog w) A (pyNext (.ref I)) Q E s
  here : ∀ i h, St i h → ∃ o, h.get? I = some o ∧ o.cls ≠ .type "tuple"
section
variable {prog : Program} {w : World} {A : Around}
theorem WkT.list (hh : A.handled = none) (I ax : Addr) (hne : ax ≠ I) (items : Array Value) :
    WkT prog w A I [ax] items.size (fun i _ _ v => items[i]? = some v) (fun i h => h.IsListIter I ax i ∧ h.IsList ax items) where
  frame := fun _ _ _ st hk => ⟨st.1.at fun o e => hk I (.inl rfl) o e, st.2.at fun o e => hk ax (.inr (.head _)) o e⟩
  item := fun i s Q E hi st hQ => wpAny_pyNext_list_item st.1 st.2 (x := items[i]) (by simp [hi]) fun h' hit' hs' =>
    hQ _ h' s.toks (by simp [hi]) (Nat.le_refl _) ⟨hit', st.2.extBut hs'.extBut hne⟩ fun b o hb e => hs'.extBut b o hb e
  done := fun s Q E st hQ => wpAny_pyNext_list_end hh st.1 st.2 (by simp) fun h' he' => hQ h' fun b o hb e => he' b o hb e
  here := fun _ _ st => by obtain ⟨o, ho, hc, _⟩ := st.1; exact ⟨o, ho, by rw [hc]; decide⟩
theorem WkT.range (hh : A.handled = none) (I : Addr) (a c : Int) (n : Nat) :
    WkT prog w A I [] n (fun i t _ v => v = .int (a + i * c) t) (fun i h => IsRangeIter h I (a + (i : Nat) * c) ((n : Int) - (i : Nat)) c) where
  frame := fun _ _ _ st hk => hk I (.inl rfl) _ st
  item := fun i s Q E hi st hQ => by
    refine wpAny_pyNext_range_item st (by omega) fun h' hit' hs' => ?_
    refine hQ _ h' _ rfl (Nat.le_succ _) ?_ fun b o hb e => hs'.extBut b o hb e
    have e1 : a + ((i + 1 : Nat) : Int) * c = a + (i : Int) * c + c := by push_cast; rw [Int.add_mul, Int.one_mul, Int.add_assoc]
    have e2 : (n : Int) - ((i + 1 : Nat) : Int) = (n : Int) - (i : Int) - 1 := by push_cast; omega
    rw [e1, e2]; exact hit'
  done := fun s Q E st hQ => wpAny_pyNext_range_end hh st (by omega) fun h' he' => hQ h' fun b o hb e => he' b o hb e
  here := fun _ _ st => ⟨_, st, show Value.type "range_iterator" ≠ Value.type "tuple" by decide⟩
theorem WkT.strA (hh : A.handled = none) (I : Addr) (x : Str) (t : Tok) :
    WkT prog w A I [] x.cps.size (fun i tk tk' v => tk < tk' ∧ ∃ c, x.cps[i]? = some c ∧ v = .str ⟨#[c]⟩ tk) (fun i h => h.IsStrIter I "str_ascii_iterator" x t i) where
  frame := fun _ _ _ st hk => by obtain ⟨o, ho, r⟩ := st; exact ⟨o, hk I (.inl rfl) o ho, r⟩
  item := fun i s Q E hi st hQ => wpAny_pyNext_ascii_item st (c := x.cps[i]) (by simp [hi]) fun h' hit' hs' =>
    hQ _ h' (s.toks + 1) ⟨Nat.lt_succ_self _, _, by simp [hi], rfl⟩ (Nat.le_succ _) hit' fun b o hb e => hs'.extBut b o hb e
  done := fun s Q E st hQ => wpAny_pyNext_ascii_end hh st (by simp) fun h' he' => hQ h' fun b o hb e => he' b o hb e
  here := fun _ _ st => by obtain ⟨o, ho, hc, _⟩ := st; exact ⟨o, ho, by rw [hc]; decide⟩
theorem WkT.strW (hh : A.handled = none) (I : Addr) (x : Str) (t : Tok) :
    WkT prog w A I [] x.cps.size (fun i tk tk' v => tk < tk' ∧ ∃ c, x.cps[i]? = some c ∧ v = .str ⟨#[c]⟩ tk) (fun i h => h.IsStrIter I "str_iterator" x t i) where
  frame := fun _ _ _ st hk => by obtain ⟨o, ho, r⟩ := st; exact ⟨o, hk I (.inl rfl) o ho, r⟩
  item := fun i s Q E hi st hQ => wpAny_pyNext_wide_item st (c := x.cps[i]) (by simp [hi]) fun h' hit' hs' =>
    hQ _ h' (s.toks + 1) ⟨Nat.lt_succ_self _, _, by simp [hi], rfl⟩ (Nat.le_succ _) hit' fun b o hb e => hs'.extBut b o hb e
  done := fun s Q E st hQ => wpAny_pyNext_wide_end hh st (by simp) fun h' he' => hQ h' fun b o hb e => he' b o hb e
  here := fun _ _ st => by obtain ⟨o, ho, hc, _⟩ := st; exact ⟨o, ho, by rw [hc]; decide⟩
noncomputable def TurnT (h₀ : Heap) (L I : Addr) (oI : Obj) (ls : List (Addr × Obj)) (s : Shared) (J : (Str → Option Value) → List (Addr × Obj) → Nat → Prop) (Q : Flow → Shared → Prop) (f : Flow) (s₃ : Shared) : Prop :=
  match f with
  | .next | .cont => ∃ h' tk' m' news', s₃ = { s with heap := h', toks := tk' } ∧ Fr h₀ L h' m' ∧ News h₀ L h' ((I, oI) :: news') ∧ (∀ q ∈ news', q.1 ≠ I) ∧ (∀ q ∈ ls, q ∈ news') ∧ J m' news' tk'
  | .brk => Q .next s₃
  | .ret v => Q (.ret v) s₃
variable {s : Shared} {env : Env} {h₀ : Heap}
theorem forLoop_T {R : Result → Shared → Prop} {x : Str} {px : Pos} {body : List Stmt} {I : Addr} {ls : List (Addr × Obj)} {n : Nat} {P : Nat → Nat → Nat → Value → Prop} {St : Nat → Heap → Prop} {m : Str → Option Value}
    {news : List (Addr × Obj)} (W : WkT prog w A I (ls.map (·.1)) n P St) (hx : env.kindOf x = some .local)
    (hp : (env.scope.kind == .class || (env.scope.kind == .module && env.locals != env.globals)) = false)
    (hL : env.locals ≠ I) (hI : h₀.get? I = none) (hni : ∀ p ∈ news, p.1 ≠ I) (hls : ∀ p ∈ ls, p ∈ news)
    (hst : St 0 s.heap) (F : Fr h₀ env.locals s.heap m) (N : News h₀ env.locals s.heap news)
    (J : Nat → (Str → Option Value) → List (Addr × Obj) → Nat → Prop) (h0 : J 0 m news s.toks)
    (turn : ∀ i v m₁ news₁ h tk₁ tk₂ tk oI, i < n → oI.cls ≠ .type "tuple" → P i tk₁ tk₂ v → tk₁ ≤ tk₂ → tk₂ ≤ tk → J i m₁ news₁ tk₁ → (∀ q ∈ news₁, q.1 ≠ I) → (∀ q ∈ ls, q ∈ news₁) →
      Fr h₀ env.locals h (fun y => if y = x then some v else m₁ y) → News h₀ env.locals h ((I, oI) :: news₁) →
      wpAny (model prog w) A (execs body env) (TurnT h₀ env.locals I oI ls s (J (i + 1)) (fun f s' => R (.ok f) s')) (notedBy (model prog w) A env fun e s' => R (.error e) s') { s with heap := h, toks := tk })
    (hR : ∀ h' tk m' news', Fr h₀ env.locals h' m' → News h₀ env.locals h' news' → J n m' news' tk → R (.ok .next) { s with heap := h', toks := tk }) :
    codeAny (model prog w) A (.forLoop (.Name x px) (.ref I) body [] env) R s := by
  refine codeAny_forLoop
    (fun k s' => ∃ h' tk m' news' i, s' = { s with heap := h', toks := tk } ∧ St i h' ∧ Fr h₀ env.locals h' m' ∧ News h₀ env.locals h' news' ∧ (∀ p ∈ news', p.1 ≠ I) ∧ (∀ p ∈ ls, p ∈ news') ∧ J i m' news' tk ∧ i ≤ n ∧ k = n + 1 - i) ?_ (n + 1)
    ⟨s.heap, s.toks, m, news, 0, rfl, hst, F, N, hni, hls, h0, Nat.zero_le _, rfl⟩
  rintro k s' ⟨h', tk, m', news', i, rfl, hst', F', N', hn', hl', hJ, hi, rfl⟩
  have next : ∀ h₁ : Heap, (∀ b o, b ≠ I → h'.get? b = some o → h₁.get? b = some o) → Fr h₀ env.locals h₁ m' ∧ News h₀ env.locals h₁ news' := fun h₁ hk₁ =>
    ⟨⟨F'.ns.at' fun o e => hk₁ _ o hL e, fun b o e => hk₁ b o (fun hb => by rw [hb, hI] at e; cases e) (F'.keep b o e), F'.above⟩, fun p hp => ⟨hk₁ _ _ (hn' p hp) (N' p hp).1, (N' p hp).2⟩⟩
  by_cases hlt : i < n
  · refine W.item i _ _ _ hlt hst' fun v h₁ tk₁ hP htk hst₁ hk₁ => ?_
    obtain ⟨F₁, N₁⟩ := next h₁ hk₁
    refine wpAny_assign_Name (wpAny_with_toks (Nat.le_refl _) (wpAny_storeName_local hx F₁.ns (fun h₂ hn₂ hs₂ => fun (htk₂ : tk₁ ≤ _) => ?_) hp))
    have F₂ := F₁.set hn₂ hs₂
    have N₂ := N₁.set hs₂
    obtain ⟨oI, hoI, hcI⟩ := W.here _ _ hst₁
    have hoI₂ : h₂.get? I = some oI := (hs₂.2 I fun q => hL q.symm).trans hoI
    have st₂ : St (i + 1) h₂ := W.frame _ _ _ hst₁ fun b hb o e => (hs₂.2 b fun q => by
      rcases hb with hb | hb
      · exact hL (q ▸ hb)
      · obtain ⟨p, hp, rfl⟩ := List.mem_map.mp hb
        exact (N₁ p (hl' p hp)).2.1 q).trans e
    have NI : News h₀ env.locals h₂ ((I, oI) :: news') := fun p hp => by
      rcases List.mem_cons.mp hp with rfl | hp
      · exact ⟨hoI₂, fun q => hL q.symm, hI⟩
      · exact N₂ p hp
    have fin : ∀ s₃, (∃ h₃ tk₃ m₂ news₂, s₃ = ({ s with heap := h₃, toks := tk₃ } : Shared) ∧ Fr h₀ env.locals h₃ m₂ ∧ News h₀ env.locals h₃ ((I, oI) :: news₂) ∧ (∀ q ∈ news₂, q.1 ≠ I) ∧ (∀ q ∈ ls, q ∈ news₂) ∧ J (i + 1) m₂ news₂ tk₃) →
        ∃ m, m < n + 1 - i ∧ ∃ h' tk m' news' i, s₃ = ({ s with heap := h', toks := tk } : Shared) ∧ St i h' ∧ Fr h₀ env.locals h' m' ∧ News h₀ env.locals h' news' ∧ (∀ p ∈ news', p.1 ≠ I) ∧ (∀ p ∈ ls, p ∈ news') ∧ J i m' news' tk ∧ i ≤ n ∧ m = n + 1 - i := by
      rintro s₃ ⟨h₃, tk₃, m₂, news₂, rfl, F₃, N₃, hn₃, hl₃, hJ₃⟩
      refine ⟨n + 1 - (i + 1), by omega, h₃, tk₃, m₂, news₂, i + 1, rfl, ?_, F₃, fun p hp => N₃ p (.tail _ hp), hn₃, hl₃, hJ₃, hlt, rfl⟩
      refine W.frame _ _ _ st₂ fun b hb o e => ?_
      rcases hb with rfl | hb
      · rw [hoI₂] at e
        exact Option.some.inj e ▸ (N₃ _ (.head _)).1
      · obtain ⟨p, hp, rfl⟩ := List.mem_map.mp hb
        rw [(N₂ p (hl' p hp)).1] at e
        exact Option.some.inj e ▸ (N₃ _ (.tail _ (hl₃ p hp))).1
    refine wpAny_mono (turn i v m' news' _ tk tk₁ _ oI hlt hcI hP htk htk₂ hJ hn' hl' F₂ NI) (fun f s₃ h₃ => ?_) fun _ _ e => e
    cases f with
    | ret v => exact h₃
    | brk => exact h₃
    | cont => exact fin _ h₃
    | next => exact fin _ h₃
  · have hin : i = n := by omega
    subst hin
    refine W.done _ _ _ hst' fun h₁ hk₁ => wpAny_execs_nil ?_
    obtain ⟨F₁, N₁⟩ := next h₁ hk₁
    exact hR h₁ tk m' news' F₁ N₁ hJ
noncomputable def TurnW (h₀ : Heap) (L : Addr) (s : Shared) (J : Nat → (Str → Option Value) → List (Addr × Obj) → Nat → Prop) (Q : Flow → Shared → Prop) (n : Nat) (f : Flow) (s₃ : Shared) : Prop :=
  match f with
  | .next | .cont => ∃ h' tk m₂ news₂ n', s₃ = { s with heap := h', toks := tk } ∧ Fr h₀ L h' m₂ ∧ News h₀ L h' news₂ ∧ n' < n ∧ J n' m₂ news₂ tk
  | .brk => Q .next s₃
  | .ret v => Q (.ret v) s₃
theorem While_T {E : Value → Shared → Prop} {Q : Flow → Shared → Prop} {L : Addr} {test : Expr} {body : List Stmt} {pos : Pos} {m : Str → Option Value} {news : List (Addr × Obj)} (J : Nat → (Str → Option Value) → List (Addr × Obj) → Nat → Prop) {n₀ : Nat}
    (F : Fr h₀ L s.heap m) (N : News h₀ L s.heap news) (hJ : J n₀ m news s.toks)
    (turn : ∀ n m₁ news₁ h₁ tk₁, Fr h₀ L h₁ m₁ → News h₀ L h₁ news₁ → J n m₁ news₁ tk₁ →
      wpAny (model prog w) A (isTrue test env (eval test env)) (fun b s₂ =>
        if b = true then wpAny (model prog w) A (execs body env) (TurnW h₀ L s J Q n) E s₂ else Q .next s₂) E { s with heap := h₁, toks := tk₁ })
    (hE : PassesOwn (model prog w) A env E := by passes_own) :
    wpAny (model prog w) A (exec (.While test body [] pos) env) Q E s := by
  refine wpAny_While (codeAny_whileLoop (fun n s' => ∃ h₁ tk₁ m₁ news₁, s' = { s with heap := h₁, toks := tk₁ } ∧ Fr h₀ L h₁ m₁ ∧ News h₀ L h₁ news₁ ∧ J n m₁ news₁ tk₁) ?_ n₀ ⟨s.heap, s.toks, m, news, rfl, F, N, hJ⟩)
  rintro n s' ⟨h₁, tk₁, m₁, news₁, rfl, F₁, N₁, J₁⟩
  refine wpAny_mono (turn n m₁ news₁ h₁ tk₁ F₁ N₁ J₁) (fun b s₂ h₂ => ?_) hE
  cases b with
  | false =>
    simp only [Bool.false_eq_true, if_false] at h₂ ⊢
    exact wpAny_execs_nil h₂
  | true =>
    simp only [if_true] at h₂ ⊢
    refine wpAny_mono h₂ (fun f s₃ h₃ => ?_) hE
    have fin : (∃ h' tk m₂ news₂ n', s₃ = ({ s with heap := h', toks := tk } : Shared) ∧ Fr h₀ L h' m₂ ∧ News h₀ L h' news₂ ∧ n' < n ∧ J n' m₂ news₂ tk) →
        ∃ n', n' < n ∧ ∃ h₁ tk₁ m₁ news₁, s₃ = ({ s with heap := h₁, toks := tk₁ } : Shared) ∧ Fr h₀ L h₁ m₁ ∧ News h₀ L h₁ news₁ ∧ J n' m₁ news₁ tk₁ := by
      rintro ⟨h', tk, m₂, news₂, n', e, F₂, N₂, hn, J₂⟩
      exact ⟨n', hn, h', tk, m₂, news₂, e, F₂, N₂, J₂⟩
    cases f with
    | next => exact fin h₃
    | cont => exact fin h₃
    | brk => exact h₃
    | ret v => exact h₃
end
section
variable {prog : Program} {w : World} {A : Around} {s : Shared} {env : Env} {h₀ : Heap}
theorem iter_list {R : Result → Shared → Prop} {E : Value → Shared → Prop} {x : Str} {px : Pos} {body : List Stmt} {l : Addr} {vs : List Value} {nn : Nat} {m : Str → Option Value}
    {news : List (Addr × Obj)} (hh : A.handled = none) (hx : env.kindOf x = some .local)
    (hp : (env.scope.kind == .class || (env.scope.kind == .module && env.locals != env.globals)) = false)
    (hl : (l, listOf vs.toArray nn) ∈ news) (F : Fr h₀ env.locals s.heap m) (N : News h₀ env.locals s.heap news)
    (J : Nat → (Str → Option Value) → List (Addr × Obj) → Nat → Prop) (h0 : J 0 m news s.toks)
    (turn : ∀ i v m₁ news₁ h tk₁ tk I oI, vs[i]? = some v → oI.cls ≠ .type "tuple" → tk₁ ≤ tk → J i m₁ news₁ tk₁ → (∀ q ∈ news₁, q.1 ≠ I) → (l, listOf vs.toArray nn) ∈ news₁ →
      Fr h₀ env.locals h (fun y => if y = x then some v else m₁ y) → News h₀ env.locals h ((I, oI) :: news₁) →
      wpAny (model prog w) A (execs body env) (TurnT h₀ env.locals I oI [(l, listOf vs.toArray nn)] s (J (i + 1)) (fun f s' => R (.ok f) s')) (notedBy (model prog w) A env fun e s' => R (.error e) s') { s with heap := h, toks := tk })
    (hR : ∀ h' tk m' news', Fr h₀ env.locals h' m' → News h₀ env.locals h' news' → J vs.length m' news' tk → R (.ok .next) { s with heap := h', toks := tk }) :
    wpAny (model prog w) A (pyIter (.ref l)) (fun it s₂ => codeAny (model prog w) A (.forLoop (.Name x px) it body [] env) R s₂) E s := by
  have hol : s.heap.get? l = some (listOf vs.toArray nn) := (N _ hl).1
  have hls : s.heap.IsList l vs.toArray := ⟨_, hol, rfl, nn, rfl⟩
  have hne : l ≠ s.heap.objs.size := Nat.ne_of_lt (Heap.lt_size hol)
  refine wpAny_pyIter_list hls ?_
  have hlen : vs.toArray.size = vs.length := by simp
  have W := WkT.list (prog := prog) (w := w) hh s.heap.objs.size l hne vs.toArray
  rw [hlen] at W
  refine forLoop_T (ls := [(l, listOf vs.toArray nn)]) W hx hp (fun e => absurd F.ns.lt (e ▸ Nat.lt_irrefl _)) (next_is_new F) (fun p hp e => absurd (Heap.lt_size (N p hp).1) (e ▸ Nat.lt_irrefl _)) (fun p hp => (List.mem_singleton.mp hp) ▸ hl) ⟨⟨_, Heap.get?_push_size _ rfl, rfl, rfl⟩, hls.at fun o e => Heap.get?_push_of_some _ e⟩ (F.push _) (fun p hp => ⟨Heap.get?_push_of_some _ (N p hp).1, (N p hp).2⟩) J h0 ?_ hR
  intro i v m₁ news₁ h tk₁ tk₂ tk oI hi hcI hP h12 h23 hJ hq hls' F₁ N₁
  exact turn i v m₁ news₁ h tk₁ tk _ oI (by simpa using hP) hcI (Nat.le_trans h12 h23) hJ hq (hls' _ (.head _)) F₁ N₁
theorem iter_str {R : Result → Shared → Prop} {E : Value → Shared → Prop} {x : Str} {px : Pos} {body : List Stmt} {z : Str} {t : Tok} {m : Str → Option Value}
    {news : List (Addr × Obj)} (hh : A.handled = none) (hx : env.kindOf x = some .local)
    (hp : (env.scope.kind == .class || (env.scope.kind == .module && env.locals != env.globals)) = false)
    (F : Fr h₀ env.locals s.heap m) (N : News h₀ env.locals s.heap news)
    (J : Nat → (Str → Option Value) → List (Addr × Obj) → Nat → Prop) (h0 : J 0 m news s.toks)
    (turn : ∀ i c m₁ news₁ h tk₁ tk I oI, z.cps[i]? = some c → oI.cls ≠ .type "tuple" → tk₁ < tk → J i m₁ news₁ tk₁ → (∀ q ∈ news₁, q.1 ≠ I) →
      Fr h₀ env.locals h (fun y => if y = x then some (.str ⟨#[c]⟩ tk₁) else m₁ y) → News h₀ env.locals h ((I, oI) :: news₁) →
      wpAny (model prog w) A (execs body env) (TurnT h₀ env.locals I oI [] s (J (i + 1)) (fun f s' => R (.ok f) s')) (notedBy (model prog w) A env fun e s' => R (.error e) s') { s with heap := h, toks := tk })
    (hR : ∀ h' tk m' news', Fr h₀ env.locals h' m' → News h₀ env.locals h' news' → J z.cps.size m' news' tk → R (.ok .next) { s with heap := h', toks := tk }) :
    wpAny (model prog w) A (pyIter (.str z t)) (fun it s₂ => codeAny (model prog w) A (.forLoop (.Name x px) it body [] env) R s₂) E s := by
  have go : ∀ (o : Obj) (St : Nat → Heap → Prop), WkT prog w A s.heap.objs.size [] z.cps.size (fun i tk tk' v => tk < tk' ∧ ∃ c, z.cps[i]? = some c ∧ v = .str ⟨#[c]⟩ tk) St → St 0 (s.heap.push o) →
      codeAny (model prog w) A (.forLoop (.Name x px) (.ref s.heap.objs.size) body [] env) R { s with heap := s.heap.push o } := by
    intro o St W st
    refine forLoop_T (ls := []) W hx hp (fun e => absurd F.ns.lt (e ▸ Nat.lt_irrefl _)) (next_is_new F) (fun p hp e => absurd (Heap.lt_size (N p hp).1) (e ▸ Nat.lt_irrefl _)) (fun p hp => nomatch hp) st (F.push _) (fun p hp => ⟨Heap.get?_push_of_some _ (N p hp).1, (N p hp).2⟩) J h0 ?_ hR
    rintro i v m₁ news₁ h tk₁ tk₂ tk oI hi hcI ⟨h12, c, hc, rfl⟩ _ h23 hJ hq _ F₁ N₁
    exact turn i c m₁ news₁ h tk₁ tk _ oI hc hcI (Nat.lt_of_lt_of_le h12 h23) hJ hq F₁ N₁
  cases ha : z.cps.all (· < 128)
  · exact wpAny_pyIter_wide ha (go _ _ (WkT.strW hh _ z t) ⟨_, Heap.get?_push_size _ rfl, rfl, rfl⟩)
  · exact wpAny_pyIter_ascii ha (go _ _ (WkT.strA hh _ z t) ⟨_, Heap.get?_push_size _ rfl, rfl, rfl⟩)
end
section
variable {prog : Program} {w : World} {A : Around} {E : Value → Shared → Prop} {s : Shared} {h₀ : Heap} {L D : Addr} {m : Str → Option Value} {news news' : List (Addr × Obj)} {n : Nat}
theorem pop_last {us : List Value} {v : Value} {Q : Value → Shared → Prop} (F : Fr h₀ L s.heap m) (N : News h₀ L s.heap news) (U : Upd D (listOf (us ++ [v]).toArray n) (listOf us.toArray (n + 1)) news news') (hz : us.length ≤ 100000)
    (h : ∀ h', Fr h₀ L h' m → News h₀ L h' news' → Q v { s with heap := h' }) : wpAny (model prog w) A (call (.builtin "list.pop") [.ref D]) Q E s :=
  kl_pop F N (kpa_last v us) U (by simp [PySem.sizeLine_eq]; omega) h
end
end
local macro_rules | `(tactic| walk_at "call builtin:list.pop") => `(tactic| (k_here; k_dflt (refine' pop_last (by k_asm) (by k_asm) (by k_upd) (by first | with_reducible assumption | omega) ?_); intro h' F' N'))
section
inductive Sy where
  | lit (l : Nat)
  | neg
  | bin (k : Nat)
noncomputable def binI : Nat → Int
  | 0 => 19 | 1 => 18 | 2 => 32 | 3 => 20 | 4 => 29 | 5 => 27 | 6 => 28 | 7 => 30 | _ => 21
noncomputable def symI : Sy → Int
  | .lit l => 256 + (l : Int)
  | .neg => 31
  | .bin k => binI k
noncomputable def opB : Nat → Int → Int → Int
  | 0 => tb 0 0 0 1 | 1 => tb 0 1 1 1 | 2 => tb 0 1 1 0 | 3 => tb 0 1 0 0 | 4 => tb 1 1 0 1 | 5 => tb 1 0 0 1 | 6 => tb 0 1 1 0 | 7 => tb 1 0 1 1 | _ => tb 0 0 1 0
noncomputable def binA : Nat → Addr
  | 0 => 70 | 1 => 77 | 2 => 91 | 3 => 21 | 4 => 28 | 5 => 35 | 6 => 42 | 7 => 49 | _ => 56
structure RS where
  rows : List Row
  pile : List Int
  seen : List Int
noncomputable def stepS (r : RS) : Sy → Option RS
  | .lit l => if l < 4 then let n := nodeP r.rows l 0 1; some ⟨n.1, n.2 :: r.pile, r.seen ++ [n.2]⟩ else none
  | .neg => match r.pile with
    | x :: p => let n := joinP (tb 0 1 1 0) 4 r.rows x 1; some ⟨n.1, n.2 :: p, r.seen ++ [n.2]⟩
    | _ => none
  | .bin k => match r.pile with
    | y :: x :: p => let n := joinP (opB k) 4 r.rows x y; some ⟨n.1, n.2 :: p, r.seen ++ [n.2]⟩
    | _ => none
noncomputable def runS : List Sy → RS → Option RS
  | [], r => some r
  | s :: l, r => (stepS r s).bind (runS l)
theorem runS_snoc {s : Sy} : ∀ {l : List Sy} {r : RS}, runS (l ++ [s]) r = (runS l r).bind fun q => stepS q s
  | [], r => by simp [runS]
  | a :: l, r => by
    simp only [List.cons_append, runS]
    cases stepS r a with
    | none => rfl
    | some q => exact runS_snoc
structure RSok (r : RS) (i : Nat) : Prop where
  ok : RowsOk r.rows
  nd : ∀ x ∈ r.pile, Nd r.rows x
  sn : ∀ x ∈ r.seen, Nd r.rows x
  len : r.rows.length ≤ 16 * i
theorem opB_bit (k : Nat) (x y : Int) (_ : x = 0 ∨ x = 1) (_ : y = 0 ∨ y = 1) : opB k x y = 0 ∨ opB k x y = 1 := by
  unfold opB; split <;> exact tb_bit (by decide) (by decide) (by decide) (by decide) x y
theorem neg_bit (x y : Int) (_ : x = 0 ∨ x = 1) (_ : y = 0 ∨ y = 1) : tb 0 1 1 0 x y = 0 ∨ tb 0 1 1 0 x y = 1 := tb_bit (by decide) (by decide) (by decide) (by decide) x y
theorem lev4 {rows : List Row} (R : RowsOk rows) {n : Int} (h : Nd rows n) : 4 ≤ lev rows n + (4 : Nat) := by
  have := lev_le R h; omega
theorem stepS_ok {r q : RS} {i : Nat} {s : Sy} (h : RSok r i) (e : stepS r s = some q) : RSok q (i + 1) ∧ ∃ xs, q.rows = r.rows ++ xs := by
  have fin : ∀ {n : List Row × Int} {xs : List Row} {p : List Int}, n.1 = r.rows ++ xs → xs.length ≤ 16 → RowsOk n.1 → Nd n.1 n.2 → (∀ x ∈ p, Nd r.rows x) → RSok ⟨n.1, n.2 :: p, r.seen ++ [n.2]⟩ (i + 1) := by
    intro n xs p e1 l1 o1 n1 hp
    refine ⟨o1, ?_, ?_, ?_⟩
    · intro x hx
      rcases List.mem_cons.mp hx with rfl | hx
      · exact n1
      · exact e1 ▸ (hp x hx).mono
    · intro x hx
      rcases List.mem_append.mp hx with hx | hx
      · exact e1 ▸ (h.sn x hx).mono
      · rw [List.mem_singleton.mp hx]; exact n1
    · show n.1.length ≤ 16 * (i + 1)
      have := h.len
      rw [e1, List.length_append]; omega
  cases s with
  | lit l =>
    simp only [stepS] at e
    split at e
    · rename_i hl
      have e := (Option.some.inj e).symm
      subst e
      obtain ⟨xs, e1, l1, o1, n1, _⟩ := nodeP_ok h.ok (l := (l : Int)) (lo := 0) (hi := 1) (by omega) (by omega) (.inl rfl) (.inr (.inl rfl)) (by rw [lev_term (by decide)]; omega) (by rw [lev_term (by decide)]; omega)
      exact ⟨fin e1 (by omega) o1 n1 h.nd, xs, e1⟩
    · cases e
  | neg =>
    simp only [stepS] at e
    split at e
    · rename_i x p hp
      have e := (Option.some.inj e).symm
      subst e
      have hx := h.nd x (hp ▸ .head _)
      obtain ⟨xs, e1, l1, o1, n1, _⟩ := joinP_ok neg_bit 4 h.ok hx (.inr (.inl rfl) : Nd r.rows 1) (lev4 h.ok hx) (lev4 h.ok (.inr (.inl rfl)))
      exact ⟨fin e1 (by omega) o1 n1 fun z hz => h.nd z (hp ▸ .tail _ hz), xs, e1⟩
    · cases e
  | bin k =>
    simp only [stepS] at e
    split at e
    · rename_i y x p hp
      have e := (Option.some.inj e).symm
      subst e
      have hy := h.nd y (hp ▸ .head _)
      have hx := h.nd x (hp ▸ .tail _ (.head _))
      obtain ⟨xs, e1, l1, o1, n1, _⟩ := joinP_ok (opB_bit k) 4 h.ok hx hy (lev4 h.ok hx) (lev4 h.ok hy)
      exact ⟨fin e1 (by omega) o1 n1 fun z hz => h.nd z (hp ▸ .tail _ (.tail _ hz)), xs, e1⟩
    · cases e
noncomputable def IntsIn (f : Nat → Int) (tk : Nat) (vs : List Value) (xs : List Int) : Prop := ∃ ps : List (Int × Tok), vs = ps.map intV ∧ ps.map (·.1) = xs ∧ ∀ p ∈ ps, TkAt f tk p.1 p.2
theorem IntsIn.nil {f : Nat → Int} {tk : Nat} : IntsIn f tk [] [] := ⟨[], rfl, rfl, fun _ h => nomatch h⟩
theorem IntsIn.mono {f g : Nat → Int} {tk tk' : Nat} {vs : List Value} {xs : List Int} (h : IntsIn f tk vs xs) (hg : ∀ u, u < tk → g u = f u) (hk : tk ≤ tk') : IntsIn g tk' vs xs :=
  by obtain ⟨ps, h1, h2, h3⟩ := h; exact ⟨ps, h1, h2, fun p hp => (h3 p hp).mono hg hk⟩
theorem IntsIn.snoc {f : Nat → Int} {tk : Nat} {vs : List Value} {xs : List Int} {x : Int} {t : Tok} (h : IntsIn f tk vs xs) (ht : TkAt f tk x t) : IntsIn f tk (vs ++ [.int x t]) (xs ++ [x]) := by
  obtain ⟨ps, h1, h2, h3⟩ := h
  refine ⟨ps ++ [(x, t)], by rw [h1, List.map_append]; rfl, by rw [List.map_append, h2]; rfl, fun p hp => ?_⟩
  rcases List.mem_append.mp hp with hp | hp
  · exact h3 p hp
  · rw [List.mem_singleton.mp hp]; exact ht
theorem IntsIn.unsnoc {f : Nat → Int} {tk : Nat} {vs : List Value} {xs : List Int} {x : Int} (h : IntsIn f tk vs (xs ++ [x])) : ∃ us t, vs = us ++ [.int x t] ∧ IntsIn f tk us xs ∧ TkAt f tk x t := by
  obtain ⟨ps, h1, h2, h3⟩ := h
  have hne : ps ≠ [] := by rintro rfl; simp at h2
  have hs : ps = ps.dropLast ++ [ps.getLast hne] := (List.dropLast_concat_getLast hne).symm
  rw [hs, List.map_append] at h2
  have := List.append_inj' h2 rfl
  have hx : (ps.getLast hne).1 = x := by simpa using this.2
  refine ⟨ps.dropLast.map intV, (ps.getLast hne).2, ?_, ⟨ps.dropLast, rfl, this.1, fun p hp => h3 p (List.dropLast_subset _ hp)⟩, hx ▸ h3 _ (List.getLast_mem hne)⟩
  rw [h1, ← hx]
  conv => lhs; rw [hs]
  rw [List.map_append]; rfl
theorem IntsIn.unsnoc2 {f : Nat → Int} {tk : Nat} {vs : List Value} {xs : List Int} {x y : Int} (h : IntsIn f tk vs (xs ++ [x] ++ [y])) : ∃ us t t', vs = us ++ [.int x t] ++ [.int y t'] ∧ IntsIn f tk us xs ∧ TkAt f tk x t ∧ TkAt f tk y t' := by
  obtain ⟨us, t', e, h1, h2⟩ := h.unsnoc
  obtain ⟨ws, t, e', h3, h4⟩ := h1.unsnoc
  exact ⟨ws, t, t', by rw [e, e'], h3, h4, h2⟩
theorem IntsIn.length {f : Nat → Int} {tk : Nat} {vs : List Value} {xs : List Int} (h : IntsIn f tk vs xs) : vs.length = xs.length := by
  obtain ⟨ps, h1, h2, _⟩ := h
  rw [h1, ← h2]; simp
theorem RowsIn.less {f : Nat → Int} {tk : Nat} {T T' : List (Addr × Obj)} {vs : List Value} {rows : List Row} (h : RowsIn f tk T vs rows) (hT : ∀ p ∈ T, p ∈ T' ∨ p.2.cls ≠ .type "tuple") : RowsIn f tk T' vs rows :=
  ⟨h.1, fun i v r h1 h2 => by
    obtain ⟨a, n, ps, e, hm, r1, r2⟩ := h.2 i v r h1 h2
    refine ⟨a, n, ps, e, ?_, r1, r2⟩
    rcases hT _ hm with h | h
    · exact h
    · exact absurd rfl h⟩
theorem tkAt {f : Nat → Int} {tk t : Nat} {i : Int} (h0 : 0 < t) (h1 : t < tk) (h2 : f t = i) : TkAt f tk i t := ⟨Nat.ne_of_gt h0, h1, h2⟩
theorem lit_args {f : Nat → Int} {tk0 tks tk : Nat} {x : Int} (htq : tks ≤ tk) (htk : tk0 ≤ tks) (h0 : tk0 ≠ 0) : ∃ g, TkAt g (tk + 1 + 1 + 1) x tk ∧ TkAt g (tk + 1 + 1 + 1) 0 (tk + 1) ∧ TkAt g (tk + 1 + 1 + 1) 1 (tk + 1 + 1) ∧ ∀ u, u < tk0 → g u = f u := by
  refine ⟨setAt (setAt (setAt f tk x) (tk + 1) 0) (tk + 1 + 1) 1, tkAt (by omega) (by omega) ?_, tkAt (by omega) (by omega) ?_, tkAt (by omega) (by omega) ?_, fun u hu => ?_⟩
  · rw [setAt_low (tk := tk + 1) (by omega) _ (by omega), setAt_low (tk := tk + 1) (by omega) _ (by omega)]; exact setAt_same
  · rw [setAt_low (tk := tk + 1 + 1) (by omega) _ (by omega)]; exact setAt_same
  · exact setAt_same
  · rw [setAt_low (tk := tk0) (by omega) _ hu, setAt_low (tk := tk0) (by omega) _ hu, setAt_low (tk := tk0) (by omega) _ hu]
theorem one_arg {f : Nat → Int} {tk0 tks tk : Nat} {x : Int} (htq : tks ≤ tk) (htk : tk0 ≤ tks) (h0 : tk0 ≠ 0) : ∃ g, TkAt g (tk + 1) x tk ∧ ∀ u, u < tk0 → g u = f u :=
  ⟨setAt f tk x, tkAt (by omega) (by omega) setAt_same, setAt_low (by omega)⟩
theorem perm4 {α : Type} {a b c d : α} {tl TT : List α} : ∀ p ∈ a :: b :: c :: d :: (tl ++ TT), p ∈ a :: (tl ++ (b :: c :: d :: TT)) := by
  intro p hp
  simp only [List.mem_cons, List.mem_append] at hp ⊢
  rcases hp with h | h | h | h | h | h <;> simp [h]
theorem off_app {tl TT : List (Addr × Obj)} {a : Addr} (h1 : ∀ p ∈ tl, p.1 ≠ a) (h2 : ∀ p ∈ TT, p.1 ≠ a) : ∀ p ∈ tl ++ TT, p.1 ≠ a := by
  intro p hp
  rcases List.mem_append.mp hp with h | h
  · exact h1 p h
  · exact h2 p h
end
section
noncomputable def bodyAt (ss : List Stmt) (k : Nat) : List Stmt := (stAt ss k).2
set_option maxHeartbeats 4000000 in
theorem run_tail {w : World} {pl pa sa : Addr} {po : Obj} {pvs svs : List Value} {pn sn : Nat} {TT : List (Addr × Obj)} {nd : Int} {t : Tok}
    (ho2 : ∀ p ∈ TT, p.1 ≠ pa) (ho3 : ∀ p ∈ TT, p.1 ≠ sa) (hpa : @Ne Nat pl pa) (hps : @Ne Nat pl sa) (has : @Ne Nat pa sa)
    (B' : Below (ktrTop dp un gd cn cs L a ccd cl outer) base (envX cn cs L a ccd cl :: outer) g') (F' : Fr g' L' s.heap m') (X' : (KK w.params).In g') (T' : Top qv looseL mean mg mb g') (N' : News g' L' s.heap ((pl, po) :: (pa, listOf pvs.toArray pn) :: (sa, listOf svs.toArray sn) :: TT))
    (hm1 : m' (Str.ofString "node") = some (.int nd t)) (hm3 : m' (Str.ofString "pile") = some (.ref pa)) (hm4 : m' (Str.ofString "seen") = some (.ref sa))
    (hks : cs.kind = .function) (hdp : dp + 60 < recursionLimit) (hun : un + 400 < cLine) (hl1 : pvs.length ≤ 100000) (hl2 : svs.length ≤ 100000)
    (hret : ∀ pn' sn' h' tk', Fr g' L' h' m' → News g' L' h' ((pl, po) :: (pa, listOf (pvs ++ [Value.int nd t]).toArray pn') :: (sa, listOf (svs ++ [Value.int nd t]).toArray sn') :: TT) → s.toks ≤ tk' → Qf .next { s with heap := h', toks := tk' }) :
    wpAny (model Challenge.rw_wf0091_01.prog w) ((ktrTop dp un gd cn cs L a ccd cl outer).deeper (envOf (Str.ofString "_law_run") (fnOfStm 82).2.2 L' 254 (.ref 253))) (execs ((bodyAt (fnOfStm 82).2.1 3).drop 1) (envOf (Str.ofString "_law_run") (fnOfStm 82).2.2 L' 254 (.ref 253))) Qf E s := by
  with_reducible refine' execs_split (xs := [_, _]) (ys := []) ?q_e ?q_go
  case q_e => exact rfl
  obtain ⟨H, gs, dr, tks, os⟩ := s
  dsimp only at F' N' hret
  revert F' N' hret
  revert B' X' T'
  k_fill
  intro B' X' T' F' N' hret
  have hlow := tkLow tks
  wrow_steps
  refine ⟨wpAny_execs_nil ?_⟩
  rename News g' L' _ _ => kN
  rename Fr g' L' _ _ => kF
  rename tks ≤ _ => htf
  rw [List.push_toArray, List.push_toArray] at kN
  exact hret _ _ _ _ kF kN htf
end
section
theorem nine : ∀ k, k < 9 → (k = 0 ∨ k = 1 ∨ k = 2 ∨ k = 3 ∨ k = 4 ∨ k = 5 ∨ k = 6 ∨ k = 7 ∨ k = 8) := by decide
theorem deed_bin {w : World} {k : Nat} (h : k < 9) : Deed w (binA k) (opB k) := by
  rcases nine k h with rfl | rfl | rfl | rfl | rfl | rfl | rfl | rfl | rfl
  · exact deed_and_
  · exact deed_or_
  · exact deed_xor
  · exact deed_lt
  · exact deed_le
  · exact deed_eq
  · exact deed_ne
  · exact deed_ge
  · exact deed_gt
theorem binI_lt (k : Nat) : binI k < 256 := by unfold binI; split <;> decide
theorem binI_ne (k : Nat) : binI k ≠ 31 := by unfold binI; split <;> decide
set_option maxHeartbeats 4000000 in
theorem run_turn {w : World} {pl pa sa dd I : Addr} {oI od : Obj} {vs pvs svs : List Value} {n pn sn : Nat} {TT : List (Addr × Obj)} {f : Nat → Int} {tk0 : Nat} {r q : RS} {i : Nat} {kv : List (Int × Value)} {sym : Sy} {ts : Tok} (hok : RSok r i) (hi : i ≤ 1000) (hq : stepS r sym = some q)
    (hb : ∀ k, sym = .bin k → k < 9)
    (ho1 : ∀ p ∈ TT, p.1 ≠ pl) (ho2 : ∀ p ∈ TT, p.1 ≠ pa) (ho3 : ∀ p ∈ TT, p.1 ≠ sa) (hpa : @Ne Nat pl pa) (hps : @Ne Nat pl sa) (has : @Ne Nat pa sa) (hIp : @Ne Nat pl I) (hIa : @Ne Nat pa I) (hIs : @Ne Nat sa I)
    (hdd : (dd, od) ∈ TT) (hkv : od.IsDictOf (PySem.intKind Challenge.rw_wf0091_01.prog w) kv) (hval : ∀ k, k < 9 → valueAt kv (binI k) = some (.ref (binA k)))
    (hR : RowsIn f tk0 TT vs r.rows) (hP : IntsIn f tk0 pvs r.pile.reverse) (hS : IntsIn f tk0 svs r.seen)
    (B' : Below (ktrTop dp un gd cn cs L a ccd cl outer) base (envX cn cs L a ccd cl :: outer) g') (F' : Fr g' L' s.heap (fun y => if y = Str.ofString "symbol" then some (.int (symI sym) ts) else m' y)) (X' : (KK w.params).In g') (T' : Top qv looseL mean mg mb g') (N' : News g' L' s.heap ((pl, listOf vs.toArray n) :: (pa, listOf pvs.toArray pn) :: (sa, listOf svs.toArray sn) :: (I, oI) :: TT))
    (hm1 : m' (Str.ofString "pool") = some (.ref pl)) (hm2 : m' (Str.ofString "deeds") = some (.ref dd)) (hm3 : m' (Str.ofString "pile") = some (.ref pa)) (hm4 : m' (Str.ofString "seen") = some (.ref sa))
    (hks : cs.kind = .function) (hdp : dp + 60 < recursionLimit) (hun : un + 400 < cLine) (htk : tk0 ≤ s.toks) (h00 : tk0 ≠ 0) (hcI : oI.cls ≠ .type "tuple") (hIT : ∀ p ∈ TT, p.1 ≠ I) (hl1 : pvs.length ≤ 10000) (hl2 : svs.length ≤ 10000)
    (hret : ∀ tl vs' n' pvs' pn' svs' sn' g h' tk' m'', Fr g' L' h' m'' → News g' L' h' ((pl, listOf vs'.toArray n') :: (pa, listOf pvs'.toArray pn') :: (sa, listOf svs'.toArray sn') :: (I, oI) :: (tl ++ TT)) → s.toks ≤ tk' → (∀ p ∈ tl, p.1 ≠ pl ∧ p.1 ≠ pa ∧ p.1 ≠ sa ∧ p.1 ≠ I ∧ ∀ x ∈ TT, p.1 ≠ x.1) →
      RowsIn g tk' (tl ++ TT) vs' q.rows → IntsIn g tk' pvs' q.pile.reverse → IntsIn g tk' svs' q.seen → m'' (Str.ofString "pool") = some (.ref pl) → m'' (Str.ofString "deeds") = some (.ref dd) → m'' (Str.ofString "pile") = some (.ref pa) → m'' (Str.ofString "seen") = some (.ref sa) → Qf .next { s with heap := h', toks := tk' }) :
    wpAny (model Challenge.rw_wf0091_01.prog w) ((ktrTop dp un gd cn cs L a ccd cl outer).deeper (envOf (Str.ofString "_law_run") (fnOfStm 82).2.2 L' 254 (.ref 253))) (execs (bodyAt (fnOfStm 82).2.1 3) (envOf (Str.ofString "_law_run") (fnOfStm 82).2.2 L' 254 (.ref 253))) Qf E s := by
  with_reducible refine' execs_split (xs := [_]) (ys := (bodyAt (fnOfStm 82).2.1 3).drop 1) ?q_e ?q_go
  case q_e => exact rfl
  obtain ⟨H, gs, dr, tks, os⟩ := s
  dsimp only at F' N' htk hret
  revert F' N' hret htk
  revert B' X' T'
  k_fill
  intro B' X' T' F' N' htk hret
  have hlow := tkLow tks
  have i207 := inlineOk 207
  have i84 := inlineOk 84
  have ha2 : ∀ {X : List (Addr × Obj)}, (∀ p ∈ X, p.1 ≠ pa) → ∀ p ∈ (I, oI) :: X, p.1 ≠ pa := by
    intro X hX p hp
    rcases List.mem_cons.mp hp with rfl | hp
    · exact fun e => hIa e.symm
    · exact hX p hp
  have ha3 : ∀ {X : List (Addr × Obj)}, (∀ p ∈ X, p.1 ≠ sa) → ∀ p ∈ (I, oI) :: X, p.1 ≠ sa := by
    intro X hX p hp
    rcases List.mem_cons.mp hp with rfl | hp
    · exact fun e => hIs e.symm
    · exact hX p hp
  have hTa : ∀ {us : List Value} {k : Nat}, ∀ p ∈ (pa, listOf us.toArray k) :: (sa, listOf svs.toArray sn) :: (I, oI) :: TT, p.1 ≠ pl := by
    intro us k p hp
    simp only [List.mem_cons] at hp
    rcases hp with rfl | rfl | rfl | hp
    · exact fun e => hpa e.symm
    · exact fun e => hps e.symm
    · exact fun e => hIp e.symm
    · exact ho1 p hp
  have less : ∀ {g : Nat → Int} {tk k : Nat} {us ws : List Value} {rows : List Row} {tl : List (Addr × Obj)}, RowsIn g tk (tl ++ ((pa, listOf us.toArray k) :: (sa, listOf svs.toArray sn) :: (I, oI) :: TT)) ws rows → RowsIn g tk (tl ++ TT) ws rows := by
    intro g tk k us ws rows tl h
    refine h.less fun p hp => ?_
    simp only [List.mem_append, List.mem_cons] at hp ⊢
    rcases hp with h | rfl | rfl | rfl | h
    · exact .inl (.inl h)
    · exact .inr (show Value.type "list" ≠ Value.type "tuple" by decide)
    · exact .inr (show Value.type "list" ≠ Value.type "tuple" by decide)
    · exact .inr hcI
    · exact .inl (.inr h)
  cases sym with
  | lit l =>
    simp only [stepS] at hq
    split at hq
    case isFalse => cases hq
    rename_i hl4
    obtain rfl := (Option.some.inj hq).symm
    have y1 : (256 : Int) ≤ symI (.lit l) := by simp only [symI]; omega
    generalize hy : symI (.lit l) = y at y1 F'
    have hy2 : y - 256 = (l : Int) := by rw [← hy]; simp only [symI]; omega
    wrow_steps
    rename tks ≤ _ => htq
    rename News g' L' _ _ => kN
    obtain ⟨f2, a1, a2, a3, a4⟩ := lit_args (f := f) (x := y - 256) htq htk h00
    have hRa : RowsIn f2 tk0 ((pa, listOf pvs.toArray pn) :: (sa, listOf svs.toArray sn) :: (I, oI) :: TT) vs r.rows := hR.mono (fun p hp => .tail _ (.tail _ (.tail _ hp))) a4 (Nat.le_refl _)
    with_unfolding_all refine' con_use (un0 := 200) (dn := 10) ?q_B ?q_F ?q_X ?q_T ?q_k (node_con hTa (hRa.mono (fun _ h => h) (fun _ _ => rfl) ?q_le) a1 a2 a3 ?q_z) ?q_N ?q_hd ?q_hu ?q_tk ?_
    case q_B | q_F | q_X | q_T => k_asm
    case q_k => rfl
    case q_z => have := hok.len; omega
    case q_le => omega
    case q_N => exact kN
    case q_hd => ktr_room
    case q_hu => (show un + 3 + _ < cLine); omega
    case q_tk => (try dsimp only); omega
    intro v9 news' h9 tk9 F9 N9 hl9 hp9
    (try dsimp only at hl9)
    rw [hy2] at hp9
    obtain ⟨vs1, m1, tl1, g1, tt1, rfl, rfl, hoff1, hg1, hR1, hnode1⟩ := hp9
    have hoff2 : ∀ p ∈ tl1, p.1 ≠ pl ∧ p.1 ≠ pa ∧ p.1 ≠ sa ∧ p.1 ≠ I ∧ ∀ x ∈ TT, p.1 ≠ x.1 := fun p hp => ⟨(hoff1 p hp).1, (hoff1 p hp).2 _ (.head _), (hoff1 p hp).2 _ (.tail _ (.head _)), (hoff1 p hp).2 _ (.tail _ (.tail _ (.head _))), fun x hx => (hoff1 p hp).2 x (.tail _ (.tail _ (.tail _ hx)))⟩
    have kN9 := News.sub N9 perm4
    clear N9
    have hlow := tkLow tk9
    wrow_steps
    rename Fr g' L' _ _ => kF
    rename News g' L' _ _ => kN
    refine ⟨?_⟩
    have hR2 := less hR1
    refine run_tail (t := tt1) (nd := (nodeP r.rows l 0 1).2) (TT := (I, oI) :: (tl1 ++ TT)) (ha2 (off_app (fun p hp => (hoff2 p hp).2.1) ho2)) (ha3 (off_app (fun p hp => (hoff2 p hp).2.2.1) ho3)) hpa hps has B' kF X' T' kN ?q_1 ?q_2 ?q_3 hks hdp hun (by omega) (by omega) ?q_r
    case q_1 => with_unfolding_all rfl
    case q_2 => with_unfolding_all assumption
    case q_3 => with_unfolding_all assumption
    case q_r =>
      intro pn' sn' h8 tk8 F8 N8 hl8
      (try dsimp only at hl8)
      refine hret tl1 vs1 m1 _ pn' _ sn' g1 h8 tk8 _ F8 N8 (by omega) hoff2 (hR2.mono (fun _ h => h) (fun _ _ => rfl) (by omega)) ?q_u ?q_v ?q_4 ?q_5 ?q_6 ?q_7
      case q_u =>
        rw [List.reverse_cons]
        exact ((hP.mono (fun u hu => (hg1 u (by omega)).trans (a4 u hu)) (by omega)).snoc (hnode1.mono (fun _ _ => rfl) (by omega)))
      case q_v => exact ((hS.mono (fun u hu => (hg1 u (by omega)).trans (a4 u hu)) (by omega)).snoc (hnode1.mono (fun _ _ => rfl) (by omega)))
      case q_4 => with_unfolding_all assumption
      case q_5 => with_unfolding_all assumption
      case q_6 => with_unfolding_all assumption
      case q_7 => with_unfolding_all assumption
  | neg =>
    simp only [stepS] at hq
    split at hq
    case h_2 => cases hq
    rename_i x0 p0 hp0
    obtain rfl := (Option.some.inj hq).symm
    rw [hp0, List.reverse_cons] at hP
    have hnx := hok.nd x0 (hp0 ▸ .head _)
    obtain ⟨us, tx, rfl, hPu, htx⟩ := hP.unsnoc
    rw [List.length_append] at hl1
    have y1 : symI .neg = 31 := rfl
    rw [y1] at F'
    wrow_steps
    rename tks ≤ _ => htq
    rename News g' L' _ _ => kN
    obtain ⟨f2, a3, a4⟩ := one_arg (f := f) (x := 1) htq htk h00
    have hRa : RowsIn f2 tk0 ((pa, listOf us.toArray (pn + 1)) :: (sa, listOf svs.toArray sn) :: (I, oI) :: TT) vs r.rows := hR.mono (fun p hp => .tail _ (.tail _ (.tail _ hp))) a4 (Nat.le_refl _)
    with_unfolding_all refine' con_use (un0 := 340) (dn := 52) ?q_B ?q_F ?q_X ?q_T ?q_k (join_con deed_xor neg_bit 4 hTa (hRa.mono (fun _ h => h) (fun _ _ => rfl) ?q_le) hok.ok hnx (.inr (.inl rfl)) (lev4 hok.ok hnx) (lev4 hok.ok (.inr (.inl rfl))) ((htx.mono a4 (Nat.le_refl _)).mono (fun _ _ => rfl) ?q_le) a3 ?q_z) ?q_N ?q_hd ?q_hu ?q_tk ?_
    case q_B | q_F | q_X | q_T => k_asm
    case q_k => rfl
    case q_z => have := hok.len; omega
    case q_le => omega
    case q_N => exact kN
    case q_hd => ktr_room
    case q_hu => (show un + 3 + _ < cLine); omega
    case q_tk => (try dsimp only); omega
    intro v9 news' h9 tk9 F9 N9 hl9 hp9
    (try dsimp only at hl9)
    obtain ⟨vs1, m1, tl1, g1, tt1, rfl, rfl, hoff1, hg1, hR1, hnode1⟩ := hp9
    have hoff2 : ∀ p ∈ tl1, p.1 ≠ pl ∧ p.1 ≠ pa ∧ p.1 ≠ sa ∧ p.1 ≠ I ∧ ∀ x ∈ TT, p.1 ≠ x.1 := fun p hp => ⟨(hoff1 p hp).1, (hoff1 p hp).2 _ (.head _), (hoff1 p hp).2 _ (.tail _ (.head _)), (hoff1 p hp).2 _ (.tail _ (.tail _ (.head _))), fun x hx => (hoff1 p hp).2 x (.tail _ (.tail _ (.tail _ hx)))⟩
    have kN9 := News.sub N9 perm4
    clear N9
    have hlow := tkLow tk9
    wrow_steps
    rename Fr g' L' _ _ => kF
    rename News g' L' _ _ => kN
    refine ⟨?_⟩
    have hR2 := less hR1
    refine run_tail (t := tt1) (nd := (joinP (tb 0 1 1 0) 4 r.rows x0 1).2) (TT := (I, oI) :: (tl1 ++ TT)) (ha2 (off_app (fun p hp => (hoff2 p hp).2.1) ho2)) (ha3 (off_app (fun p hp => (hoff2 p hp).2.2.1) ho3)) hpa hps has B' kF X' T' kN ?q_1 ?q_2 ?q_3 hks hdp hun (by omega) (by omega) ?q_r
    case q_1 => with_unfolding_all rfl
    case q_2 => with_unfolding_all assumption
    case q_3 => with_unfolding_all assumption
    case q_r =>
      intro pn' sn' h8 tk8 F8 N8 hl8
      (try dsimp only at hl8)
      refine hret tl1 vs1 m1 _ pn' _ sn' g1 h8 tk8 _ F8 N8 (by omega) hoff2 (hR2.mono (fun _ h => h) (fun _ _ => rfl) (by omega)) ?q_u ?q_v ?q_4 ?q_5 ?q_6 ?q_7
      case q_u =>
        rw [List.reverse_cons]
        exact ((hPu.mono (fun u hu => (hg1 u (by omega)).trans (a4 u hu)) (by omega)).snoc (hnode1.mono (fun _ _ => rfl) (by omega)))
      case q_v => exact ((hS.mono (fun u hu => (hg1 u (by omega)).trans (a4 u hu)) (by omega)).snoc (hnode1.mono (fun _ _ => rfl) (by omega)))
      case q_4 => with_unfolding_all assumption
      case q_5 => with_unfolding_all assumption
      case q_6 => with_unfolding_all assumption
      case q_7 => with_unfolding_all assumption
  | bin k =>
    simp only [stepS] at hq
    split at hq
    case h_2 => cases hq
    rename_i y0 x0 p0 hp0
    obtain rfl := (Option.some.inj hq).symm
    rw [hp0, List.reverse_cons, List.reverse_cons] at hP
    have hny := hok.nd y0 (hp0 ▸ .head _)
    have hnx := hok.nd x0 (hp0 ▸ .tail _ (.head _))
    obtain ⟨us, tx, ty, rfl, hPu, htx, hty⟩ := hP.unsnoc2
    rw [List.length_append, List.length_append] at hl1
    have hl3 : (us ++ [Value.int x0 tx]).length ≤ 100000 := by rw [List.length_append]; simp only [List.length_cons, List.length_nil] at hl1 ⊢; omega
    have hl4 : us.length ≤ 100000 := by simp only [List.length_cons, List.length_nil] at hl1; omega
    have hk9 := hb k rfl
    have hvk := hval k hk9
    have y1 : binI k < 256 := binI_lt k
    have y2 : binI k ≠ 31 := binI_ne k
    have y3 : symI (.bin k) = binI k := rfl
    rw [y3] at F'
    clear y3
    generalize binI k = y at F' hvk y1 y2
    wrow_steps
    rename tks ≤ _ => htq
    rename News g' L' _ _ => kN
    have hRa : RowsIn f tk0 ((pa, listOf us.toArray (pn + 1 + 1)) :: (sa, listOf svs.toArray sn) :: (I, oI) :: TT) vs r.rows := hR.mono (fun p hp => .tail _ (.tail _ (.tail _ hp))) (fun _ _ => rfl) (Nat.le_refl _)
    with_unfolding_all refine' con_use (un0 := 340) (dn := 52) ?q_B ?q_F ?q_X ?q_T ?q_k (join_con (deed_bin hk9) (opB_bit k) 4 (tk0 := tk0) hTa hRa hok.ok hnx hny (lev4 hok.ok hnx) (lev4 hok.ok hny) htx hty ?q_z) ?q_N ?q_hd ?q_hu ?q_tk ?_
    case q_B | q_F | q_X | q_T => k_asm
    case q_k => rfl
    case q_z => have := hok.len; omega
    case q_N => exact kN
    case q_hd => ktr_room
    case q_hu => (show un + 3 + _ < cLine); omega
    case q_tk => (try dsimp only); omega
    intro v9 news' h9 tk9 F9 N9 hl9 hp9
    (try dsimp only at hl9)
    obtain ⟨vs1, m1, tl1, g1, tt1, rfl, rfl, hoff1, hg1, hR1, hnode1⟩ := hp9
    have hoff2 : ∀ p ∈ tl1, p.1 ≠ pl ∧ p.1 ≠ pa ∧ p.1 ≠ sa ∧ p.1 ≠ I ∧ ∀ x ∈ TT, p.1 ≠ x.1 := fun p hp => ⟨(hoff1 p hp).1, (hoff1 p hp).2 _ (.head _), (hoff1 p hp).2 _ (.tail _ (.head _)), (hoff1 p hp).2 _ (.tail _ (.tail _ (.head _))), fun x hx => (hoff1 p hp).2 x (.tail _ (.tail _ (.tail _ hx)))⟩
    have kN9 := News.sub N9 perm4
    clear N9
    have hlow := tkLow tk9
    wrow_steps
    rename Fr g' L' _ _ => kF
    rename News g' L' _ _ => kN
    refine ⟨?_⟩
    have hR2 := less hR1
    refine run_tail (t := tt1) (nd := (joinP (opB k) 4 r.rows x0 y0).2) (TT := (I, oI) :: (tl1 ++ TT)) (ha2 (off_app (fun p hp => (hoff2 p hp).2.1) ho2)) (ha3 (off_app (fun p hp => (hoff2 p hp).2.2.1) ho3)) hpa hps has B' kF X' T' kN ?q_1 ?q_2 ?q_3 hks hdp hun (by omega) (by omega) ?q_r
    case q_1 => with_unfolding_all rfl
    case q_2 => with_unfolding_all assumption
    case q_3 => with_unfolding_all assumption
    case q_r =>
      intro pn' sn' h8 tk8 F8 N8 hl8
      (try dsimp only at hl8)
      refine hret tl1 vs1 m1 _ pn' _ sn' g1 h8 tk8 _ F8 N8 (by omega) hoff2 (hR2.mono (fun _ h => h) (fun _ _ => rfl) (by omega)) ?q_u ?q_v ?q_4 ?q_5 ?q_6 ?q_7
      case q_u =>
        rw [List.reverse_cons]
        exact ((hPu.mono (fun u hu => hg1 u hu) (by omega)).snoc (hnode1.mono (fun _ _ => rfl) (by omega)))
      case q_v => exact ((hS.mono (fun u hu => hg1 u hu) (by omega)).snoc (hnode1.mono (fun _ _ => rfl) (by omega)))
      case q_4 => with_unfolding_all assumption
      case q_5 => with_unfolding_all assumption
      case q_6 => with_unfolding_all assumption
      case q_7 => with_unfolding_all assumption
end
section
noncomputable def RunPost (pl : Addr) (T : List (Addr × Obj)) (q : RS) (r : Value) (news' : List (Addr × Obj)) (tk' : Nat) : Prop :=
  ∃ (sa : Addr) (vs svs : List Value) (n sn : Nat) (tl : List (Addr × Obj)) (g : Nat → Int), r = .ref sa ∧ news' = (pl, listOf vs.toArray n) :: (sa, listOf svs.toArray sn) :: (tl ++ T) ∧ RowsIn g tk' (tl ++ T) vs q.rows ∧ IntsIn g tk' svs q.seen ∧ RSok q 1000
noncomputable def RunJ (syms : List Sy) (pl pa sa dd : Addr) (T1 : List (Addr × Obj)) (tk0 : Nat) (i : Nat) (m : Str → Option Value) (news : List (Addr × Obj)) (tk : Nat) : Prop :=
  ∃ (r : RS) (vs pvs svs : List Value) (n pn sn : Nat) (tl : List (Addr × Obj)) (f : Nat → Int), runS (syms.take i) ⟨[], [], []⟩ = some r ∧ RSok r i ∧ r.pile.length ≤ i ∧ r.seen.length ≤ i ∧ news = (pl, listOf vs.toArray n) :: (pa, listOf pvs.toArray pn) :: (sa, listOf svs.toArray sn) :: (tl ++ T1) ∧
    (∀ p ∈ tl, p.1 ≠ pl ∧ p.1 ≠ pa ∧ p.1 ≠ sa) ∧ RowsIn f tk (tl ++ T1) vs r.rows ∧ IntsIn f tk pvs r.pile.reverse ∧ IntsIn f tk svs r.seen ∧ tk0 ≤ tk ∧
    m (Str.ofString "pool") = some (.ref pl) ∧ m (Str.ofString "deeds") = some (.ref dd) ∧ m (Str.ofString "pile") = some (.ref pa) ∧ m (Str.ofString "seen") = some (.ref sa)
theorem stepS_pile {r q : RS} {s : Sy} (e : stepS r s = some q) : q.pile.length ≤ r.pile.length + 1 ∧ q.seen.length = r.seen.length + 1 := by
  cases s with
  | lit l =>
    simp only [stepS] at e
    split at e
    · obtain rfl := (Option.some.inj e).symm
      simp
    · cases e
  | neg =>
    simp only [stepS] at e
    split at e
    · rename_i x p hp
      obtain rfl := (Option.some.inj e).symm
      simp [hp]
    · cases e
  | bin k =>
    simp only [stepS] at e
    split at e
    · rename_i y x p hp
      obtain rfl := (Option.some.inj e).symm
      simp [hp]
    · cases e
theorem runS_take {r : RS} {q : RS} : ∀ {l : List Sy} {i : Nat}, runS l r = some q → ∃ p, runS (l.take i) r = some p ∧ ∀ s, l[i]? = some s → ∃ p', stepS p s = some p' ∧ runS (l.take (i + 1)) r = some p'
  | l, i, h => by
    have e1 : l = l.take i ++ l.drop i := (List.take_append_drop i l).symm
    have app : ∀ (a b : List Sy) (r : RS), runS (a ++ b) r = (runS a r).bind (runS b) := by
      intro a
      induction a with
      | nil => intro b r; rfl
      | cons s a ih =>
        intro b r
        simp only [List.cons_append, runS]
        cases stepS r s with
        | none => rfl
        | some p => exact ih b p
    rw [e1, app] at h
    cases hp : runS (l.take i) r with
    | none => rw [hp] at h; cases h
    | some p =>
      refine ⟨p, rfl, fun s hs => ?_⟩
      rw [hp] at h
      have hi : i < l.length := (List.getElem?_eq_some_iff.mp hs).1
      have hd : l.drop i = s :: l.drop (i + 1) := by rw [List.drop_eq_getElem_cons hi]; congr 1; exact (List.getElem?_eq_some_iff.mp hs).2
      rw [hd] at h
      have h' : (stepS p s).bind (runS (l.drop (i + 1))) = some q := h
      cases hs' : stepS p s with
      | none => rw [hs'] at h'; cases h'
      | some p' =>
        refine ⟨p', rfl, ?_⟩
        rw [List.take_add_one, hs, Option.toList_some, runS_snoc, hp]
        exact hs'
theorem runS_ok {r : RS} : ∀ {l : List Sy} {q : RS} {i : Nat}, RSok r i → runS l r = some q → RSok q (i + l.length)
  | [], q, i, h, e => by
    simp only [runS, Option.some.injEq] at e
    subst e; exact h
  | s :: l, q, i, h, e => by
    simp only [runS] at e
    cases hs : stepS r s with
    | none => rw [hs] at e; cases e
    | some p =>
      rw [hs] at e
      have := runS_ok (stepS_ok h hs).1 (l := l) e
      rw [List.length_cons, show i + (l.length + 1) = i + 1 + l.length by omega]
      exact this
theorem RSok.wide {r : RS} {i j : Nat} (h : RSok r i) (hij : i ≤ j) : RSok r j := ⟨h.ok, h.nd, h.sn, Nat.le_trans h.len (Nat.mul_le_mul_left _ hij)⟩
theorem rsok0 : RSok ⟨[], [], []⟩ 0 := ⟨⟨(fun _ _ h => by cases h), (fun _ _ h => by cases h), (fun _ _ h => by cases h), (fun _ _ h => by cases h), List.nodup_nil⟩, (fun _ h => by cases h), (fun _ h => by cases h), Nat.le_refl _⟩
theorem off_of_lt {D : Addr} {T : List (Addr × Obj)} (h : AllLt D T) : ∀ p ∈ T, p.1 ≠ D := fun p hp => Nat.ne_of_lt (allLt_mem h p hp)
theorem perm_run {α : Type} {a b c d : α} {T : List α} : ∀ p ∈ a :: b :: c :: d :: T, p ∈ c :: b :: d :: a :: T := by
  intro p hp
  simp only [List.mem_cons] at hp ⊢
  rcases hp with h | h | h | h | h <;> simp [h]
theorem perm_run2 {α : Type} {a b c i : α} {tl T : List α} : ∀ p ∈ a :: b :: c :: i :: (tl ++ T), p ∈ i :: a :: b :: c :: (tl ++ T) := by
  intro p hp
  simp only [List.mem_cons] at hp ⊢
  rcases hp with h | h | h | h | h <;> simp [h]
theorem perm_run3 {α : Type} {a b c i : α} {tl T : List α} : ∀ p ∈ i :: a :: b :: c :: (tl ++ T), p ∈ a :: b :: c :: i :: (tl ++ T) := by
  intro p hp
  simp only [List.mem_cons] at hp ⊢
  rcases hp with h | h | h | h | h <;> simp [h]
theorem perm_run4 {α : Type} {pl pa sa d : α} {tl T : List α} : ∀ p ∈ pl :: sa :: (([pa] ++ tl ++ [d]) ++ T), p ∈ pl :: pa :: sa :: (tl ++ (d :: T)) := by
  intro p hp
  simp only [List.mem_cons, List.mem_append, List.not_mem_nil, or_false] at hp ⊢
  rcases hp with h | h | ((h | h) | h) | h <;> simp [h]
set_option maxHeartbeats 4000000 in
theorem run_loop {w : World} {pl pa sa dd sy : Addr} {od : Obj} {kv : List (Int × Value)} {sn n : Nat} {T : List (Addr × Obj)} {tk0 : Nat} {syms : List Sy} {q : RS} {ps : List (Int × Tok)}
    (hkv : od.IsDictOf (PySem.intKind Challenge.rw_wf0091_01.prog w) kv) (hval : ∀ k, k < 9 → valueAt kv (binI k) = some (.ref (binA k)))
    (hT : ∀ p ∈ T, p.1 ≠ pl) (hs : (sy, listOf (ps.map intV).toArray sn) ∈ T) (hps : ps.map (·.1) = syms.map symI) (hq : runS syms ⟨[], [], []⟩ = some q) (hb : ∀ k, Sy.bin k ∈ syms → k < 9) (hlen : syms.length ≤ 1000) (h00 : tk0 ≠ 0)
    (hl1 : pl < dd ∧ AllLt dd T) (hl2 : dd < pa ∧ pl < pa ∧ AllLt pa T) (hl3 : pa < sa ∧ dd < sa ∧ pl < sa ∧ AllLt sa T)
    (B' : Below (ktrTop dp un gd cn cs L a ccd cl outer) base (envX cn cs L a ccd cl :: outer) g') (F' : Fr g' L' s.heap m') (X' : (KK w.params).In g') (T' : Top qv looseL mean mg mb g')
    (N' : News g' L' s.heap ((sa, listOf #[] 0) :: (pa, listOf #[] 0) :: (dd, od) :: (pl, listOf #[] n) :: T))
    (hm0 : m' (Str.ofString "symbols") = some (.ref sy)) (hm1 : m' (Str.ofString "pool") = some (.ref pl)) (hm2 : m' (Str.ofString "deeds") = some (.ref dd)) (hm3 : m' (Str.ofString "pile") = some (.ref pa)) (hm4 : m' (Str.ofString "seen") = some (.ref sa))
    (hks : cs.kind = .function) (hdp : dp + 60 < recursionLimit) (hun : un + 400 < cLine) (htk : tk0 ≤ s.toks)
    (hret : ∀ r news' h' tk' m'', Fr g' L' h' m'' → News g' L' h' news' → s.toks ≤ tk' → RunPost pl T q r news' tk' → Qf (.ret r) { s with heap := h', toks := tk' }) :
    wpAny (model Challenge.rw_wf0091_01.prog w) ((ktrTop dp un gd cn cs L a ccd cl outer).deeper (envOf (Str.ofString "_law_run") (fnOfStm 82).2.2 L' 254 (.ref 253))) (execs ((fnOfStm 82).2.1.drop 3) (envOf (Str.ofString "_law_run") (fnOfStm 82).2.2 L' 254 (.ref 253))) Qf E s := by
  have hne1 : @Ne Nat pl pa := Nat.ne_of_lt hl2.2.1
  have hne2 : @Ne Nat pl sa := Nat.ne_of_lt hl3.2.2.1
  have hne3 : @Ne Nat pa sa := Nat.ne_of_lt hl3.1
  have hTa : ∀ p ∈ (dd, od) :: T, p.1 ≠ pa := by
    intro p hp
    rcases List.mem_cons.mp hp with rfl | hp
    · exact Nat.ne_of_lt hl2.1
    · exact off_of_lt hl2.2.2 p hp
  have hTs : ∀ p ∈ (dd, od) :: T, p.1 ≠ sa := by
    intro p hp
    rcases List.mem_cons.mp hp with rfl | hp
    · exact Nat.ne_of_lt hl3.2.1
    · exact off_of_lt hl3.2.2.2 p hp
  have hTp : ∀ p ∈ (dd, od) :: T, p.1 ≠ pl := by
    intro p hp
    rcases List.mem_cons.mp hp with rfl | hp
    · exact Nat.ne_of_gt hl1.1
    · exact hT p hp
  have hlp : (ps.map intV).length = syms.length := by
    have := congrArg List.length hps
    simpa using this
  have key : ∀ (i : Nat) (v : Value), (ps.map intV)[i]? = some v → ∃ (t : Tok) (sym : Sy), v = Value.int (symI sym) t ∧ syms[i]? = some sym := by
    intro i v hv
    have h1 : (ps.map (·.1))[i]? = (syms.map symI)[i]? := by rw [hps]
    rw [List.getElem?_map] at hv
    obtain ⟨p, hp, rfl⟩ := Option.map_eq_some_iff.mp hv
    rw [List.getElem?_map, List.getElem?_map, hp] at h1
    obtain ⟨sym, hsym, e⟩ := Option.map_eq_some_iff.mp h1.symm
    exact ⟨p.2, sym, by rw [e]; rfl, hsym⟩
  conv => (arg 3; arg 1; whnf)
  refine wpAny_execs_cons (wpAny_For ?_ (fun _ => rfl))
  refine ld F' hm0 ?_
  refine iter_list (h₀ := g') (l := sy) (vs := ps.map intV) (nn := sn) rfl rfl rfl (.tail _ (.tail _ (.tail _ (.tail _ hs)))) F' (News.sub N' perm_run) (RunJ syms pl pa sa dd ((dd, od) :: T) s.toks) ?_ ?_ ?_
  · refine ⟨⟨[], [], []⟩, [], [], [], n, 0, 0, [], fun _ => 0, rfl, rsok0, Nat.le_refl _, Nat.le_refl _, rfl, (fun _ h => nomatch h), ⟨rfl, fun i v r h => by cases h⟩, IntsIn.nil, IntsIn.nil, Nat.le_refl _, hm1, hm2, hm3, hm4⟩
  · intro i v m₁ news₁ h tk₁ tk I oI hv hcI htk1 hJ hq1 hq2 F₁ N₁
    obtain ⟨r, vs, pvs, svs, n1, pn, sn1, tl, f, hr, hok, hl4, hl5, rfl, htl, hR, hP, hS, htk2, g1, g2, g3, g4⟩ := hJ
    obtain ⟨t, sym, rfl, hsym⟩ := key i v hv
    obtain ⟨p0, hp0, hstep⟩ := runS_take (i := i) hq
    rw [hr] at hp0
    obtain rfl := Option.some.inj hp0
    obtain ⟨p', hp', hr'⟩ := hstep sym hsym
    have hi : i < syms.length := (List.getElem?_eq_some_iff.mp hsym).1
    have hIT : ∀ p ∈ tl ++ (dd, od) :: T, p.1 ≠ I := fun p hp => hq1 p (.tail _ (.tail _ (.tail _ hp)))
    have hok' := (stepS_ok hok hp').1
    have hpl := stepS_pile hp'
    have hlv := hP.length
    have hls := hS.length
    rw [List.length_reverse] at hlv
    refine run_turn (TT := tl ++ (dd, od) :: T) (tk0 := tk₁) (i := i) hok (by omega) hp' (fun k e => hb k (e ▸ List.mem_of_getElem? hsym)) ?q_o1 ?q_o2 ?q_o3 hne1 hne2 hne3 (hq1 _ (.head _)) (hq1 _ (.tail _ (.head _))) (hq1 _ (.tail _ (.tail _ (.head _)))) (List.mem_append_right _ (.head _)) hkv hval hR hP hS B' F₁ X' T' (News.sub N₁ perm_run2) g1 g2 g3 g4 hks hdp hun htk1 (by omega) hcI hIT (by omega) (by omega) ?q_r
    case q_o1 => exact off_app (fun p hp => (htl p hp).1) hTp
    case q_o2 => exact off_app (fun p hp => (htl p hp).2.1) hTa
    case q_o3 => exact off_app (fun p hp => (htl p hp).2.2) hTs
    case q_r =>
      intro tl2 vs' n' pvs' pn' svs' sn' g h' tk' m'' F2 N2 hle hoff hR2 hP2 hS2 k1 k2 k3 k4
      (try dsimp only at hle)
      refine ⟨h', tk', m'', (pl, listOf vs'.toArray n') :: (pa, listOf pvs'.toArray pn') :: (sa, listOf svs'.toArray sn') :: ((tl2 ++ tl) ++ (dd, od) :: T), rfl, F2, ?q_n, ?q_i, ?q_s, p', vs', pvs', svs', n', pn', sn', tl2 ++ tl, g, hr', hok', by omega, by omega, rfl, ?q_f, ?q_R, hP2, hS2, by omega, k1, k2, k3, k4⟩
      case q_n => exact List.append_assoc tl2 tl ((dd, od) :: T) ▸ News.sub N2 perm_run3
      case q_i =>
        intro p hp
        simp only [List.mem_cons, List.append_assoc, List.mem_append] at hp
        rcases hp with rfl | rfl | rfl | hp | hp
        · exact hq1 (pl, listOf vs.toArray n1) (.head _)
        · exact hq1 (pa, listOf pvs.toArray pn) (.tail _ (.head _))
        · exact hq1 (sa, listOf svs.toArray sn1) (.tail _ (.tail _ (.head _)))
        · exact (hoff p hp).2.2.2.1
        · exact hIT p (by simpa using hp)
      case q_s =>
        intro p hp
        rw [List.mem_singleton.mp hp]
        exact .tail _ (.tail _ (.tail _ (List.mem_append_right _ (.tail _ hs))))
      case q_f =>
        intro p hp
        rcases List.mem_append.mp hp with hp | hp
        · exact ⟨(hoff p hp).1, (hoff p hp).2.1, (hoff p hp).2.2.1⟩
        · exact htl p hp
      case q_R => rw [List.append_assoc]; exact hR2
  · intro h' tk m'' news' F₁ N₁ hJ
    obtain ⟨r, vs, pvs, svs, n1, pn, sn1, tl, f, hr, hok, hl4, hl5, rfl, htl, hR, hP, hS, htk2, g1, g2, g3, g4⟩ := hJ
    rw [hlp, List.take_length, hq] at hr
    obtain rfl := Option.some.inj hr
    refine wpAny_execs_cons (wpAny_Return_some (ld F₁ g4 ?_))
    refine hret _ _ _ _ _ F₁ (News.sub N₁ perm_run4) ?q_t ⟨sa, vs, svs, n1, sn1, [(pa, listOf pvs.toArray pn)] ++ tl ++ [(dd, od)], f, rfl, rfl, ?q_R, hS, hok.wide (by omega)⟩
    case q_t => exact htk2
    case q_R => exact hR.mono (by intro p hp; simp only [List.mem_cons, List.mem_append, List.not_mem_nil, or_false] at hp ⊢; rcases hp with h | h | h <;> simp [h]) (fun _ _ => rfl) (Nat.le_refl _)
set_option maxHeartbeats 4000000 in
theorem run_con {w : World} {pl sy : Addr} {sn n : Nat} {T : List (Addr × Obj)} {tk0 : Nat} {syms : List Sy} {q : RS} {ps : List (Int × Tok)} (hT : ∀ p ∈ T, p.1 ≠ pl) (hs : (sy, listOf (ps.map intV).toArray sn) ∈ T) (hps : ps.map (·.1) = syms.map symI) (hq : runS syms ⟨[], [], []⟩ = some q) (hb : ∀ k, Sy.bin k ∈ syms → k < 9) (hlen : syms.length ≤ 1000) (h00 : tk0 ≠ 0) :
    Con w 254 [.ref sy, .ref pl] 100 1000 tk0 ((pl, listOf #[] n) :: T) (RunPost pl T q) := by
  unfold Con
  k_fill
  intro mean mg mb dp un gd cn cs a ccd cl outer A₀ base h₀ L m s Q E B F X N T' hks hdp hun htk hret
  refine wpAny_with_toks (Nat.le_refl _) ?_
  refine wpAny_call ?_
  refine code_def (name := Str.ofString "_law_run") (params := (fnOfStm 82).1) (body := (fnOfStm 82).2.1) (scope := (fnOfStm 82).2.2) (cdv := .ref 253) (binds := [(Str.ofString "symbols", .ref sy), (Str.ofString "pool", .ref pl)]) B F X N T' rfl rfl hks (by k_is) (by k_is) (by ktr_room) (BindsTo.of_eq rfl) (locs rfl) ?_ rfl rfl rfl (by decide)
  intro g' L' h' FG' F' N' B' X' T''
  with_reducible refine' execs_split (xs := [_, _, _]) (ys := (fnOfStm 82).2.1.drop 3) ?q_e ?q_go
  case q_e => exact rfl
  have hlow := tkLow s.toks
  wrow_steps
  refine ⟨?_⟩
  try dsimp only
  rename Obj.IsDictOf _ _ _ => hdict
  rename Fr g' L' _ _ => kF
  rename News g' L' _ _ => kN
  rename _ ∧ _ ∧ pl < _ ∧ AllLt _ T => hl3
  revert hl3
  rename _ ∧ pl < _ ∧ AllLt _ T => hl2
  revert hl2
  rename pl < _ ∧ AllLt _ T => hl1
  intro hl2 hl3
  rename s.toks ≤ _ => htq
  refine run_loop hdict ?q_v hT hs hps hq hb hlen h00 hl1 hl2 hl3 B' kF X' T'' kN ?q_0 ?q_1 ?q_2 ?q_3 ?q_4 hks (by omega) (by omega) (by dsimp only; omega) ?q_r
  case q_v =>
    intro k hk
    have : k = 0 ∨ k = 1 ∨ k = 2 ∨ k = 3 ∨ k = 4 ∨ k = 5 ∨ k = 6 ∨ k = 7 ∨ k = 8 := nine k hk
    rcases this with rfl | rfl | rfl | rfl | rfl | rfl | rfl | rfl | rfl <;> with_unfolding_all rfl
  case q_0 => with_unfolding_all rfl
  case q_1 => with_unfolding_all rfl
  case q_2 => with_unfolding_all rfl
  case q_3 => with_unfolding_all rfl
  case q_4 => with_unfolding_all rfl
  case q_r =>
    intro r news' h9 tk9 m'' F9 N9 hl9 hp9
    (try dsimp only at hl9)
    wrow_steps
    rename News h₀ L _ _ => kN
    rename Fr h₀ L _ _ => kF
    exact hret _ _ _ _ kF kN (by omega) hp9
end
section
noncomputable def TkOk (n : Nat) (t : Tok) : Prop := t ≠ 0 ∧ Nat.lt t n
theorem TkOk.mono {n k : Nat} {t : Tok} (h : TkOk n t) (hk : n ≤ k) : TkOk k t := ⟨h.1, Nat.lt_of_lt_of_le h.2 hk⟩
theorem TkOk.pos {n : Nat} {t : Tok} (h : TkOk n t) : 0 < n := Nat.lt_of_le_of_lt (Nat.zero_le _) h.2
theorem TkOk.fresh {n k : Nat} {t : Tok} (h : TkOk n t) (hk : n ≤ k) : TkOk (k + 1) k := ⟨Nat.ne_of_gt (Nat.lt_of_lt_of_le h.pos hk), Nat.lt_succ_self _⟩
theorem TkOk.above {n k : Nat} (h0 : 2600 ≤ n) (hk : n ≤ k) : TkOk (k + 1) k := ⟨Nat.ne_of_gt (Nat.lt_of_lt_of_le (Nat.lt_of_lt_of_le (by decide) h0) hk), Nat.lt_succ_self _⟩
theorem tk_const {k n : Nat} (h0 : 2600 ≤ k) (hk : k + 1 ≤ n) : TkOk n k := ⟨Nat.ne_of_gt (Nat.lt_of_lt_of_le (by decide) h0), hk⟩
theorem Str.append_empty {x y : Str} (h : (y.length == 0) = true) : x ++ y = x := by
  have h0 : y.cps = #[] := Array.eq_empty_of_size_eq_zero (by simpa [Str.length] using h)
  show Str.append x y = x
  cases x; simp [Str.append, h0]
theorem Str.empty_append {x y : Str} (h : (x.length == 0) = true) : x ++ y = y := by
  have h0 : x.cps = #[] := Array.eq_empty_of_size_eq_zero (by simpa [Str.length] using h)
  show Str.append x y = y
  cases y; simp [Str.append, h0]
section
variable {prog : Program} {w : World} {A : Around} {E : Value → Shared → Prop} {s : Shared} {x y : Str} {t u : Tok}
theorem made_add {Q : Value → Shared → Prop} (ht : TkOk s.toks t) (hu : TkOk s.toks u) (hsz : x.length + y.length ≤ 100000) (h : ∀ t' tk, s.toks ≤ tk → TkOk tk t' → (x ++ y).length = x.length + y.length → Q (.str (x ++ y) t') { s with toks := tk }) :
    (if x.length == 0 then Made.val (.str y u) else if y.length == 0 then Made.val (.str x t) else Made.str (x ++ y)).post Q s := by
  have hl : (x ++ y).length = x.length + y.length := Str.length_append x y
  by_cases hx : (x.length == 0) = true
  · rw [if_pos hx]
    have := h u s.toks (Nat.le_refl _) hu hl
    rw [Str.empty_append hx] at this
    exact this
  · rw [if_neg hx]
    by_cases hy : (y.length == 0) = true
    · rw [if_pos hy]
      have := h t s.toks (Nat.le_refl _) ht hl
      rw [Str.append_empty hy] at this
      exact this
    · rw [if_neg hy]
      exact ⟨by rw [hl, sizeLine_eq]; omega, h s.toks (s.toks + 1) (Nat.le_succ _) (ht.fresh (Nat.le_refl _)) hl⟩
theorem add_T {Q : Value → Shared → Prop} (ht : TkOk s.toks t) (hu : TkOk s.toks u) (hsz : x.length + y.length ≤ 100000) (h : ∀ t' tk, s.toks ≤ tk → TkOk tk t' → (x ++ y).length ≤ x.length + y.length → Q (.str (x ++ y) t') { s with toks := tk }) : wpAny (model prog w) A (binaryOp .Add (.str x t) (.str y u)) Q E s := PySem.P.add_str (made_add ht hu hsz fun t tk a b e => h t tk a b (Nat.le_of_eq e))
theorem iadd_T {Q : Value → Shared → Prop} (ht : TkOk s.toks t) (hu : TkOk s.toks u) (hsz : x.length + y.length ≤ 100000) (h : ∀ t' tk, s.toks ≤ tk → TkOk tk t' → (x ++ y).length ≤ x.length + y.length → Q (.str (x ++ y) t') { s with toks := tk }) : wpAny (model prog w) A (inplaceOp .Add (.str x t) (.str y u)) Q E s := PySem.P.iadd_str (made_add ht hu hsz fun t tk a b e => h t tk a b (Nat.le_of_eq e))
end
noncomputable def incrB : List Int → Bool
  | a :: b :: l => decide (a < b) && incrB (b :: l)
  | _ => true
theorem incr_nodup : ∀ {l : List Int}, incrB l = true → l.Nodup ∧ ∀ a b, l = a :: b → ∀ x ∈ b, a < x
  | [], _ => ⟨List.nodup_nil, (fun _ _ h => nomatch h)⟩
  | [a], _ => ⟨by simp, fun x y h => by cases h; intro z hz; cases hz⟩
  | a :: b :: l, h => by
    simp only [incrB, Bool.and_eq_true, decide_eq_true_eq] at h
    obtain ⟨h1, h2⟩ := incr_nodup h.2
    have h3 : ∀ x ∈ b :: l, a < x := by
      intro x hx
      rcases List.mem_cons.mp hx with rfl | hx
      · exact h.1
      · exact Int.lt_trans h.1 (h2 _ _ rfl x hx)
    refine ⟨List.nodup_cons.mpr ⟨fun hm => Int.lt_irrefl _ (h3 a hm), h1⟩, fun x y e => ?_⟩
    cases e; exact h3
theorem b3P_nodup : (b3P.map (·.1)).Nodup := (incr_nodup (by kernel_rfl)).1
noncomputable def kvBy (st : Nat) : Nat → List (Int × Str) → List (Int × Value)
  | _, [] => []
  | t, (i, s) :: l => (i, .str s (t + 1)) :: kvBy st (t + st) l
theorem ents_spec (prog : Program) (w : World) (st : Nat) : ∀ (l : List (Int × Str)) (t : Nat),
    (∀ e ∈ entsBy st t l, ∃ k, (PySem.intKind prog w).is k e.key = true ∧ e.hash = (PySem.intKind prog w).hash k) ∧ Pairs (PySem.intKind prog w) (entsBy st t l) (kvBy st t l) ∧ (kvBy st t l).map (·.1) = l.map (·.1)
  | [], _ => ⟨(fun _ h => nomatch h), .nil, rfl⟩
  | (i, s) :: l, t => by
    obtain ⟨hk, hp, hm⟩ := ents_spec prog w st l (t + st)
    have hi : (PySem.intKind prog w).is i (.int i t) = true := intKind_is prog w i t
    refine ⟨fun e he => ?_, .cons hi rfl hp, by simp [kvBy, hm]⟩
    rcases List.mem_cons.mp he with rfl | he
    · exact ⟨i, hi, rfl⟩
    · exact hk e he
theorem val_at (st k : Nat) (i : Int) : ∀ (l : List (Int × Str)) (t : Nat), t + st * l.length ≤ k → 1 ≤ st → 0 < t →
    match KTD.datumAt i l with
    | some s => ∃ t', valueAt (kvBy st t l) i = some (.str s t') ∧ TkOk (k + 2) t'
    | none => valueAt (kvBy st t l) i = none
  | [], _, _, _, _ => rfl
  | (j, s) :: l, t, hb, hs, h0 => by
    have hb' : t + st + st * l.length ≤ k := by rw [List.length_cons, Nat.mul_succ] at hb; omega
    have ih := val_at st k i l (t + st) hb' hs (by omega)
    by_cases h : i = j
    · subst h
      have e1 : KTD.datumAt i ((i, s) :: l) = some s := by simp [KTD.datumAt]
      rw [e1]
      exact ⟨t + 1, by simp [valueAt, kvBy], Nat.succ_ne_zero _, (show t + 1 < k + 2 by omega)⟩
    · have e1 : KTD.datumAt i ((j, s) :: l) = KTD.datumAt i l := by simp [KTD.datumAt, h]
      have e2 : valueAt (kvBy st t ((j, s) :: l)) i = valueAt (kvBy st (t + st) l) i := by
        have h' : ¬ j = i := fun q => h q.symm
        simp [valueAt, kvBy, h']
      rw [e1, e2]; exact ih
theorem datumAt_app {i : Int} : ∀ {l l' : List (Int × Str)}, KTD.datumAt i (l ++ l') = (KTD.datumAt i l).or (KTD.datumAt i l')
  | [], _ => by simp [KTD.datumAt]
  | (j, s) :: l, l' => by
    by_cases h : i = j
    · simp [KTD.datumAt, h]
    · simp [KTD.datumAt, h, datumAt_app (l := l)]
theorem valueAt_app {i : Int} {l l' : List (Int × Value)} : valueAt (l ++ l') i = (valueAt l i).or (valueAt l' i) := by
  simp only [valueAt, List.find?_append]
  cases l.find? (fun kv => decide (kv.1 = i)) <;> rfl
noncomputable def b3K : List (Int × Value) := kvBy 3 382 (b3P.take 646) ++ kvBy 2 2320 (b3P.drop 646)
theorem b3P_len : b3P.length = 650 := by kernel_rfl
theorem b3_val (i : Int) : match KTD.datumAt i b3P with
    | some s => ∃ t', valueAt b3K i = some (.str s t') ∧ TkOk 2600 t'
    | none => valueAt b3K i = none := by
  have h1 := val_at 3 2598 i (b3P.take 646) 382 (by rw [List.length_take, b3P_len]; omega) (by omega) (by omega)
  have h2 := val_at 2 2598 i (b3P.drop 646) 2320 (by rw [List.length_drop, b3P_len]; omega) (by omega) (by omega)
  have e : KTD.datumAt i b3P = (KTD.datumAt i (b3P.take 646)).or (KTD.datumAt i (b3P.drop 646)) := by rw [← datumAt_app, List.take_append_drop]
  rw [e, b3K, valueAt_app]
  cases hd : KTD.datumAt i (b3P.take 646) with
  | some s =>
    rw [hd] at h1
    obtain ⟨t', h1, h3⟩ := h1
    rw [h1]
    exact ⟨t', rfl, h3⟩
  | none =>
    rw [hd] at h1
    have h1' : valueAt (kvBy 3 382 (b3P.take 646)) i = none := h1
    rw [h1', Option.none_or, Option.none_or]
    exact h2
theorem pairs_app {prog : Program} {w : World} : ∀ {es es' : List DictEntry} {kv kv' : List (Int × Value)}, Pairs (PySem.intKind prog w) es kv → Pairs (PySem.intKind prog w) es' kv' → Pairs (PySem.intKind prog w) (es ++ es') (kv ++ kv') := by
  intro es es' kv kv' h h'
  induction h with
  | nil => exact h'
  | cons a b _ ih => exact .cons a b ih
theorem b3_dict (prog : Program) (w : World) (P : Params) : (ob138 P).IsDictOf (PySem.intKind prog w) b3K := by
  obtain ⟨h1, p1, m1⟩ := ents_spec prog w 3 (b3P.take 646) 382
  obtain ⟨h2, p2, m2⟩ := ents_spec prog w 2 (b3P.drop 646) 2320
  refine ⟨b3E.toArray, 650, ⟨rfl, rfl, rfl⟩, rfl, ?_, ?_, ?_⟩
  · intro e he
    rw [List.mem_toArray] at he
    rcases List.mem_append.mp he with he | he
    · exact h1 e he
    · exact h2 e he
  · exact pairs_app p1 p2
  · rw [b3K, List.map_append, m1, m2, ← List.map_append, List.take_append_drop]; exact b3P_nodup
theorem b3_news {w : World} {h h' : Heap} (X : (KK w.params).In h) (hk : ∀ b o, h.get? b = some o → h'.get? b = some o) : News ⟨#[], default⟩ 139 h' [(138, ob138 w.params)] := by
  intro p hp
  rw [List.mem_singleton.mp hp]
  exact ⟨hk _ _ (X 138 _ rfl), (show @Ne Nat 138 139 by decide), rfl⟩
noncomputable def b1L : List Int := [65024, 65025, 65026, 65027, 65028, 65029, 6150, 65030, 65031, 65032, 65033, 6155, 6156, 6157, 8203, 8204, 8205, 65034, 65035, 65036, 65037, 65038, 65039, 173, 847, 8288, 65279]
noncomputable def b1T : List Nat := [331, 332, 333, 334, 335, 336, 317, 337, 338, 339, 340, 318, 319, 320, 321, 322, 323, 341, 342, 343, 344, 345, 346, 315, 316, 324, 325]
noncomputable def mkE (k : Int) (t : Nat) : Int × Value := (k, .int k t)
theorem zip_all : ∀ (ks : List Int) (ts : List Nat), ∀ e ∈ List.zipWith mkE ks ts, ∃ k t, e = mkE k t ∧ k ∈ ks := by
  intro ks
  induction ks with
  | nil => intro ts e he; simp at he
  | cons k ks ih =>
    intro ts e he
    cases ts with
    | nil => simp at he
    | cons t ts =>
      rcases List.mem_cons.mp he with rfl | he
      · exact ⟨k, t, rfl, .head _⟩
      · obtain ⟨k', t', e1, h1⟩ := ih ts e he; exact ⟨k', t', e1, .tail _ h1⟩
theorem zip_has : ∀ (ks : List Int) (ts : List Nat), ks.length = ts.length → ∀ k ∈ ks, ∃ t, mkE k t ∈ List.zipWith mkE ks ts := by
  intro ks
  induction ks with
  | nil => intro ts _ k hk; cases hk
  | cons k ks ih =>
    intro ts hl x hx
    cases ts with
    | nil => cases hl
    | cons t ts =>
      rcases List.mem_cons.mp hx with rfl | hx
      · exact ⟨t, .head _⟩
      · obtain ⟨t', h⟩ := ih ts (Nat.succ.inj hl) x hx; exact ⟨t', .tail _ h⟩
theorem b1_at {w : World} {h : Heap} (X : (KK w.params).In h) : h.SetOf (PySem.intKind Challenge.rw_wf0091_01.prog w) 127 (fun k => b1L.contains k) 27 := by
  refine ⟨ob127 w.params, _, _, _, X 127 _ rfl, ⟨rfl, rfl, rfl⟩, rfl, ?_, ?_, by decide, by rfl, by rfl⟩
  · intro e he
    rw [List.toList_toArray] at he
    obtain ⟨k, t, rfl, hk⟩ := zip_all b1L b1T e he
    have h1 : (b1L.all fun k => k == (PySem.intKind Challenge.rw_wf0091_01.prog w).hash k) = true := by kernel_rfl
    exact ⟨⟨k, intKind_is _ _ _ _, beq_iff_eq.mp (List.all_eq_true.mp h1 k hk)⟩, rfl⟩
  · intro k
    rw [List.toList_toArray]
    show b1L.contains k = true ↔ ∃ e ∈ List.zipWith mkE b1L b1T, _
    rw [List.contains_iff_mem]
    constructor
    · intro h
      obtain ⟨t, h1⟩ := zip_has b1L b1T rfl k h
      exact ⟨_, h1, intKind_is _ _ _ _⟩
    · rintro ⟨e, he, h⟩
      obtain ⟨k', t', rfl, h1⟩ := zip_all b1L b1T e he
      simp only [mkE, PySem.intKind, Value.isInt, beq_iff_eq] at h
      exact h ▸ h1
noncomputable def inB1 (c : Nat) : Bool := b1L.contains (c : Int)
noncomputable def mapB3 (c : Nat) : Str := match KTD.datumAt (c : Int) b3P with
  | some s => s
  | none => Txt.lower ⟨#[c]⟩
section
variable {w : World} {A : Around} {E : Value → Shared → Prop} {s : Shared} {h₀ : Heap}
theorem get_b3 {c : Int} {tk : Tok} {Q : Value → Shared → Prop} (X : (KK w.params).In h₀) (hk : ∀ b o, h₀.get? b = some o → s.heap.get? b = some o)
    (h1 : ∀ x t, KTD.datumAt c b3P = some x → TkOk 2600 t → Q (.str x t) { s with toks := s.toks + 1 }) (h2 : KTD.datumAt c b3P = none → Q .none { s with toks := s.toks + 1 }) :
    wpAny (model Challenge.rw_wf0091_01.prog w) A (call (.builtin "dict.get") [.ref 138, .int c tk]) Q E s := by
  refine kdg_get1 (b3_news X hk) (.head _) (b3_dict _ _ _) (by decide) (intKind_is _ _ _ _) _ rfl ?_
  have hv := b3_val c
  cases hat : KTD.datumAt c b3P with
  | some x =>
    rw [hat] at hv
    obtain ⟨t', e, ht⟩ := hv
    rw [e]
    exact h1 x t' hat ht
  | none =>
    rw [hat] at hv
    have e : valueAt b3K c = none := hv
    rw [e]
    exact h2 hat
theorem in_b1 {c : Int} {tk : Tok} {Q : Value → Shared → Prop} (X : (KK w.params).In h₀) (hk : ∀ b o, h₀.get? b = some o → s.heap.get? b = some o) (h : Q (.bool (b1L.contains c)) { s with toks := s.toks + 1 }) :
    wpAny (model Challenge.rw_wf0091_01.prog w) A (compareOp .In (.int c tk) (.ref 127)) Q E s :=
  wpAny_inSet_of (intKind_is _ _ _ _) rfl (b1_at (X.keeps hk)) h
end
theorem method_b3 {w : World} {A : Around} {E : Value → Shared → Prop} {s : Shared} {h₀ : Heap} {pl : Sem Bool} {Q : Value × List Value → Shared → Prop} (X : (KK w.params).In h₀) (hk : ∀ b o, h₀.get? b = some o → s.heap.get? b = some o) (h : Q (.builtin "dict.get", [.ref 138]) s) : wpAny (model Challenge.rw_wf0091_01.prog w) A (getMethod (.ref 138) "get" pl) Q E s := kdg_method (b3_news X hk) (.head _) (b3_dict _ _ _) h
local macro_rules | `(tactic| walk_at "getMethod ref") => `(tactic| (k_here; k_dflt (refine' method_b3 (by k_asm) (by kt_keeps) ?_)))
local macro_rules | `(tactic| walk_at "call builtin:dict.get") => `(tactic| (k_here; k_dflt (refine' get_b3 (by k_asm) (by kt_keeps) ?_ ?_); all_goals (first | intro _ _ _ _ | intro _)))
local macro_rules | `(tactic| walk_at "compareOp In int ref") => `(tactic| (k_here; k_dflt (refine' in_b1 (by k_asm) (by kt_keeps) ?_)))
set_option maxHeartbeats 4000000 in
theorem b1_con {w : World} {news : List (Addr × Obj)} {c : Nat} {t : Tok} : Con w 137 [.str ⟨#[c]⟩ t] 3 60 0 news (fun r news' _ => news' = news ∧ r = .bool (inB1 c)) := by
  unfold Con
  k_fill
  intro mean mg mb dp un gd cn cs a ccd cl outer A₀ base h₀ L m s Q E B F X N T' hks hdp hun htk hret
  refine wpAny_with_toks (Nat.le_refl _) ?_
  refine wpAny_call ?_
  refine code_def (name := Str.ofString "in_table_b1") (params := (fnOfStm 18).1) (body := (fnOfStm 18).2.1) (scope := (fnOfStm 18).2.2) (cdv := .ref 136) (binds := [(Str.ofString "code", .str ⟨#[c]⟩ t)]) B F X N T' rfl rfl hks (by k_is) (by k_is) (by ktr_room) (BindsTo.of_eq rfl) (locs rfl) ?_ rfl rfl rfl (by decide)
  intro g' L' h' FG' F' N' B' X' T''
  conv => (arg 3; arg 1; whnf)
  have hlow := tkLow s.toks
  wrow_steps
  rename News h₀ L _ _ => kN
  rename Fr h₀ L _ _ => kF
  exact hret _ _ _ _ kF kN (by first | omega | (dsimp only at *; omega)) ⟨rfl, rfl⟩
set_option maxHeartbeats 4000000 in
theorem b3_con {w : World} {news : List (Addr × Obj)} {c : Nat} {t : Tok} : Con w 183 [.str ⟨#[c]⟩ t] 3 60 2600 news (fun r news' tk' => news' = news ∧ ∃ t', r = .str (mapB3 c) t' ∧ TkOk tk' t') := by
  unfold Con
  k_fill
  intro mean mg mb dp un gd cn cs a ccd cl outer A₀ base h₀ L m s Q E B F X N T' hks hdp hun htk hret
  refine wpAny_with_toks (Nat.le_refl _) ?_
  refine wpAny_call ?_
  refine code_def (name := Str.ofString "map_table_b3") (params := (fnOfStm 20).1) (body := (fnOfStm 20).2.1) (scope := (fnOfStm 20).2.2) (cdv := .ref 182) (binds := [(Str.ofString "code", .str ⟨#[c]⟩ t)]) B F X N T' rfl rfl hks (by k_is) (by k_is) (by ktr_room) (BindsTo.of_eq rfl) (locs rfl) ?_ rfl rfl rfl (by decide)
  intro g' L' h' FG' F' N' B' X' T''
  conv => (arg 3; arg 1; whnf)
  have hlow := tkLow s.toks
  wrow_steps
  · rename KTD.datumAt _ _ = some _ => hd
    rename TkOk 2600 _ => ht2
    rename s.toks ≤ _ => htq
    rename News h₀ L _ _ => kN
    rename Fr h₀ L _ _ => kF
    exact hret _ _ _ _ kF kN htq ⟨rfl, _, by rw [mapB3, hd], ht2.mono (Nat.le_trans htk htq)⟩
  · rename KTD.datumAt _ _ = none => hd
    refine SCL.lower (x := ⟨#[c]⟩) (by show 1 ≤ 5592405; decide) ?_
    intro _
    wrow_steps
    rename s.toks ≤ _ => hq2
    revert hq2
    rename s.toks ≤ _ => hq1
    intro hq2
    rename News h₀ L _ _ => kN
    rename Fr h₀ L _ _ => kF
    exact hret _ _ _ _ kF kN hq2 ⟨rfl, _, by rw [mapB3, hd], TkOk.above htk hq1⟩
theorem sp_beq (c : Nat) : ((⟨#[c]⟩ : Str) == Str.ofString " ") = decide (c = 32) := by
  rw [show Str.ofString " " = ⟨#[32]⟩ from by decide +kernel]
  by_cases h : c = 32
  · subst h; decide
  · rw [decide_eq_false h]
    exact beq_eq_false_iff_ne.mpr fun e => h (by injection e with e; simpa using e)
set_option maxHeartbeats 4000000 in
theorem c11_con {w : World} {news : List (Addr × Obj)} {c : Nat} {t : Tok} : Con w 190 [.str ⟨#[c]⟩ t] 3 60 0 news (fun r news' _ => news' = news ∧ r = .bool (decide (c = 32))) := by
  unfold Con
  k_fill
  intro mean mg mb dp un gd cn cs a ccd cl outer A₀ base h₀ L m s Q E B F X N T' hks hdp hun htk hret
  refine wpAny_with_toks (Nat.le_refl _) ?_
  refine wpAny_call ?_
  refine code_def (name := Str.ofString "in_table_c11") (params := (fnOfStm 21).1) (body := (fnOfStm 21).2.1) (scope := (fnOfStm 21).2.2) (cdv := .ref 189) (binds := [(Str.ofString "code", .str ⟨#[c]⟩ t)]) B F X N T' rfl rfl hks (by k_is) (by k_is) (by ktr_room) (BindsTo.of_eq rfl) (locs rfl) ?_ rfl rfl rfl (by decide)
  intro g' L' h' FG' F' N' B' X' T''
  conv => (arg 3; arg 1; whnf)
  have hlow := tkLow s.toks
  wrow_steps
  rename News h₀ L _ _ => kN
  rename Fr h₀ L _ _ => kF
  exact hret _ _ _ _ kF kN (by first | omega | (dsimp only at *; omega)) ⟨rfl, by rw [sp_beq]⟩
end
local macro_rules | `(tactic| walk_at "tk") => `(tactic| ((try dsimp only); first | assumption | exact TkOk.mono (by assumption) (by omega) | exact tk_const (by omega) (by omega)))
local macro_rules | `(tactic| walk_at "sl") => `(tactic| ((focus ((try dsimp only); first | assumption | exact TkOk.mono (by assumption) (by omega))); (focus ((try dsimp only); omega)); intro _ _ _ _ _ htkm _; (try dsimp only at htkm)))
local macro_rules | `(tactic| walk_at "binaryOp Add str str") => `(tactic| (k_here; refine' add_T ?_ ?_ ?_ ?_; (focus walk_at "tk"); (focus walk_at "tk"); (focus omega); intro _ _ htkm _ _; (try dsimp only at htkm)))
local macro_rules | `(tactic| walk_at "inplaceOp Add str str") => `(tactic| (k_here; refine' iadd_T ?_ ?_ ?_ ?_; (focus walk_at "tk"); (focus walk_at "tk"); (focus omega); intro _ _ htkm _ _; (try dsimp only at htkm)))
local macro_rules | `(tactic| walk_at "execs cons") => `(tactic| (k_here; with_reducible refine gen_cons (tkLow _) (Nat.le_refl _) ?_; intro tk9 htk9; (try dsimp only at htk9)))
local macro_rules | `(tactic| walk_at "execs nil") => `(tactic| (k_here; with_reducible refine gen_nil (tkLow _) (Nat.le_refl _) ?_; intro tk9 htk9; (try dsimp only at htk9)))
section
noncomputable def strV (p : Str × Tok) : Value := .str p.1 p.2
noncomputable def StrsIn (tk : Nat) (vs : List Value) (xs : List Str) : Prop := ∃ ps : List (Str × Tok), vs = ps.map strV ∧ ps.map (·.1) = xs ∧ ∀ p ∈ ps, TkOk tk p.2
theorem StrsIn.nil {tk : Nat} : StrsIn tk [] [] := ⟨[], rfl, rfl, fun _ h => nomatch h⟩
theorem StrsIn.mono {tk tk' : Nat} {vs : List Value} {xs : List Str} (h : StrsIn tk vs xs) (hk : tk ≤ tk') : StrsIn tk' vs xs :=
  by obtain ⟨ps, h1, h2, h3⟩ := h; exact ⟨ps, h1, h2, fun p hp => (h3 p hp).mono hk⟩
theorem StrsIn.snoc {tk : Nat} {vs : List Value} {xs : List Str} {x : Str} {t : Tok} (h : StrsIn tk vs xs) (ht : TkOk tk t) : StrsIn tk (vs ++ [.str x t]) (xs ++ [x]) := by
  obtain ⟨ps, h1, h2, h3⟩ := h
  refine ⟨ps ++ [(x, t)], by rw [h1, List.map_append]; rfl, by rw [List.map_append, h2]; rfl, fun p hp => ?_⟩
  rcases List.mem_append.mp hp with hp | hp
  · exact h3 p hp
  · rw [List.mem_singleton.mp hp]; exact ht
theorem StrsIn.length {tk : Nat} {vs : List Value} {xs : List Str} (h : StrsIn tk vs xs) : vs.length = xs.length := by
  obtain ⟨ps, h1, h2, _⟩ := h
  rw [h1, ← h2]; simp
noncomputable def rdStep (z : List Str × Str) (c : Nat) : List Str × Str := if c = 32 then (z.1 ++ [z.2], ⟨#[]⟩) else if inB1 c = true then z else (z.1, z.2 ++ mapB3 c)
noncomputable def rdAll (cs : List Nat) : List Str × Str := cs.foldl rdStep ([], ⟨#[]⟩)
theorem rdAll_snoc {cs : List Nat} {c : Nat} : rdAll (cs ++ [c]) = rdStep (rdAll cs) c := by simp [rdAll]
set_option maxHeartbeats 4000000 in
theorem read1_turn {w : World} {wa I : Addr} {oI : Obj} {us : List Value} {tc ts : Tok} {wn c tk0 : Nat} {TT : List (Addr × Obj)} {z : List Str × Str} (hU : StrsIn tk0 us z.1) (htc : TkOk tk0 tc) (h26 : 2600 ≤ tk0) (hz1 : z.1.length ≤ 1000) (hz2 : z.2.length ≤ 10000) (hc : (mapB3 c).length ≤ 4)
    (B' : Below (ktrTop dp un gd cn cs L a ccd cl outer) base (envX cn cs L a ccd cl :: outer) g') (F' : Fr g' L' s.heap (fun y => if y = Str.ofString "sign" then some (.str ⟨#[c]⟩ ts) else m' y)) (X' : (KK w.params).In g') (T' : Top qv looseL mean mg mb g')
    (N' : News g' L' s.heap ((wa, listOf (us ++ [Value.str z.2 tc]).toArray wn) :: TT)) (ho : ∀ p ∈ TT, p.1 ≠ wa)
    (hm1 : m' (Str.ofString "words") = some (.ref wa))
    (hks : cs.kind = .function) (hdp : dp + 60 < recursionLimit) (hun : un + 400 < cLine) (htk : tk0 ≤ s.toks)
    (hret : ∀ us' tc' wn' h' tk' m'', Fr g' L' h' m'' → News g' L' h' ((wa, listOf (us' ++ [Value.str (rdStep z c).2 tc']).toArray wn') :: TT) → s.toks ≤ tk' → StrsIn tk' us' (rdStep z c).1 → TkOk tk' tc' → m'' (Str.ofString "words") = some (.ref wa) → Qf .next { s with heap := h', toks := tk' }) :
    wpAny (model Challenge.rw_wf0091_01.prog w) ((ktrTop dp un gd cn cs L a ccd cl outer).deeper (envOf (Str.ofString "_law_read") (fnOfStm 79).2.2 L' 233 (.ref 232))) (execs (bodyAt (fnOfStm 79).2.1 1) (envOf (Str.ofString "_law_read") (fnOfStm 79).2.2 L' 233 (.ref 232))) Qf E s := by
  with_reducible refine' execs_split (xs := [_]) (ys := []) ?q_e ?q_go
  case q_e => exact rfl
  obtain ⟨H, gs, dr, tks, os⟩ := s
  dsimp only at F' N' hret htk
  revert F' N' hret htk
  revert B' X' T'
  k_fill
  intro B' X' T' F' N' htk hret
  have hlow := tkLow tks
  wrow_steps
  rename News g' L' _ _ => kN
  with_unfolding_all refine' con_use (tk0 := 0) (un0 := 60) (dn := 3) ?q_B ?q_F ?q_X ?q_T ?q_k (c11_con (c := c)) ?q_N ?q_hd ?q_hu (Nat.zero_le _) ?_
  case q_B | q_F | q_X | q_T => k_asm
  case q_k => rfl
  case q_N => exact kN
  case q_hd => ktr_room
  case q_hu => (first | ktr_units | ((show un + 3 + _ < cLine); omega))
  intro v9 news9 h9 tk9 F9 N9 hl9 hp9
  (try dsimp only at hl9)
  obtain ⟨rfl, rfl⟩ := hp9
  have hul := hU.length
  have hul2 : us.length ≤ 10000 := by omega
  by_cases hc32 : c = 32
  · rw [decide_eq_true hc32]
    generalize hws : us ++ [Value.str z.2 tc] = ws at N9
    have hwl : ws.length ≤ 10000 := by rw [← hws, List.length_append, List.length_singleton]; omega
    clear kN
    wrow_steps
    rename News g' L' _ _ => kN
    rename Fr g' L' _ _ => kF
    refine ⟨wpAny_execs_nil ?_⟩
    have e : rdStep z c = (z.1 ++ [z.2], ⟨#[]⟩) := if_pos hc32
    rw [e] at hret
    rw [List.push_toArray, ← hws] at kN
    exact hret _ _ _ _ _ _ kF kN (by omega) ((hU.snoc htc).mono (by omega)) ((TkOk.above (n := tks) (by omega) (by omega)).mono (by omega)) (by with_unfolding_all exact hm1)
  · rw [decide_eq_false hc32]
    clear kN
    wrow_steps
    rename News g' L' _ _ => kN
    with_unfolding_all refine' con_use (tk0 := 0) (un0 := 60) (dn := 3) ?q_B ?q_F ?q_X ?q_T ?q_k (b1_con (c := c)) ?q_N ?q_hd ?q_hu (Nat.zero_le _) ?_
    case q_B | q_F | q_X | q_T => k_asm
    case q_k => rfl
    case q_N => exact kN
    case q_hd => ktr_room
    case q_hu => (first | ktr_units | ((show un + 3 + _ < cLine); omega))
    intro v9 news9 h9 tk9 F9 N9 hl9 hp9
    (try dsimp only at hl9)
    obtain ⟨rfl, rfl⟩ := hp9
    by_cases hb : inB1 c = true
    · rw [hb]
      clear kN
      wrow_steps
      rename News g' L' _ _ => kN
      rename Fr g' L' _ _ => kF
      refine ⟨wpAny_execs_nil ?_⟩
      have e : rdStep z c = z := by rw [rdStep, if_neg hc32, if_pos hb]
      rw [e] at hret
      exact hret _ _ _ _ _ _ kF kN (by first | omega | (dsimp only at *; omega)) (hU.mono (by omega)) (htc.mono (by omega)) (by with_unfolding_all exact hm1)
    · rw [Bool.eq_false_iff.mpr hb]
      clear kN
      wrow_steps
      rename News g' L' _ _ => kN
      with_unfolding_all refine' con_use (tk0 := 2600) (un0 := 60) (dn := 3) ?q_B ?q_F ?q_X ?q_T ?q_k (b3_con (c := c)) ?q_N ?q_hd ?q_hu ?q_tk ?_
      case q_B | q_F | q_X | q_T => k_asm
      case q_k => rfl
      case q_N => exact kN
      case q_hd => ktr_room
      case q_hu => (first | ktr_units | ((show un + 3 + _ < cLine); omega))
      case q_tk => (try dsimp only); omega
      intro v9 news9 h9 tk9 F9 N9 hl9 hp9
      (try dsimp only at hl9)
      obtain ⟨rfl, tb, rfl, htb⟩ := hp9
      have htc9 : TkOk tk9 tc := htc.mono (by omega)
      generalize hmb : mapB3 c = y at hc hret
      have hy : y.length ≤ 4 := hc
      clear kN
      wrow_steps
      rename News g' L' _ _ => kN
      rename Fr g' L' _ _ => kF
      refine ⟨wpAny_execs_nil ?_⟩
      have e : rdStep z c = (z.1, z.2 ++ y) := by rw [rdStep, if_neg hc32, if_neg hb, hmb]
      rw [e] at hret
      rw [List.push_toArray] at kN
      exact hret _ _ _ _ _ _ kF kN (by first | omega | (dsimp only at *; omega)) (hU.mono (by omega)) (TkOk.mono (by assumption) (by omega)) (by with_unfolding_all exact hm1)
end
section
noncomputable def tokL : List (Str × Int) := [(Str.ofString "!", 54), (Str.ofString "!=", 28), (Str.ofString "%", 24), (Str.ofString "%=", 40), (Str.ofString "&", 19), (Str.ofString "&=", 41), (Str.ofString "(", 7), (Str.ofString ")", 8), (Str.ofString "*", 16), (Str.ofString "**", 35), (Str.ofString "**=", 46), (Str.ofString "*=", 38), (Str.ofString "+", 14), (Str.ofString "+=", 36), (Str.ofString ",", 12), (Str.ofString "-", 15), (Str.ofString "-=", 37), (Str.ofString "->", 51), (Str.ofString ".", 23), (Str.ofString "...", 52), (Str.ofString "/", 17), (Str.ofString "//", 47), (Str.ofString "//=", 48), (Str.ofString "/=", 39), (Str.ofString ":", 11), (Str.ofString ":=", 53), (Str.ofString ";", 13), (Str.ofString "<", 20), (Str.ofString "<<", 33), (Str.ofString "<<=", 44), (Str.ofString "<=", 29), (Str.ofString "=", 22), (Str.ofString "==", 27), (Str.ofString ">", 21), (Str.ofString ">=", 30), (Str.ofString ">>", 34), (Str.ofString ">>=", 45), (Str.ofString "@", 49), (Str.ofString "@=", 50), (Str.ofString "[", 9), (Str.ofString "]", 10), (Str.ofString "^", 32), (Str.ofString "^=", 43), (Str.ofString "{", 25), (Str.ofString "|", 18), (Str.ofString "|=", 42), (Str.ofString "}", 26), (Str.ofString "~", 31)]
noncomputable def tokD : List (Str × PyData) := tokL.map fun p => (p.1, PyData.int p.2)
theorem tok_at {w : World} {h : Heap} (X : (KK w.params).In h) : StrTab Challenge.rw_wf0091_01.prog w h 191 (tokD.map fun p => (PyData.str p.1, p.2)) := kt_tab_in _ w X (by kernel_rfl) (by decide +kernel) (by kernel_rfl)
section
variable {prog : Program} {w : World} {A : Around} {E : Value → Shared → Prop} {s : Shared}
theorem enum_sign {e it : Addr} {x : Str} {t : Tok} {i c : Nat} {old : Value} {Q : Option Value → Shared → Prop}
    (he : IsEnum s.heap e it i old) (hi : s.heap.IsStrIter it "str_ascii_iterator" x t i) (hc : x.cps[i]? = some c) (hne : e ≠ it)
    (hQ : ∀ h', IsEnumOut h' e it ((i : Int) + 1) (.str ⟨#[c]⟩ s.toks) s.heap.objs.size → h'.IsStrIter it "str_ascii_iterator" x t (i + 1) → h'.IsTuple s.heap.objs.size #[.int i (s.toks + 1), .str ⟨#[c]⟩ s.toks] →
      (∀ b o, b ≠ e → b ≠ it → s.heap.get? b = some o → h'.get? b = some o) → Q (some (.ref s.heap.objs.size)) { s with heap := h', toks := s.toks + 1 + 1 }) :
    wpAny (model prog w) A (pyNext (.ref e)) Q E s := by
  have hT : s.TypeIs (.ref e) "enumerate" := ⟨_, he, rfl⟩
  have hlt : e < s.heap.objs.size := Heap.lt_size he
  unfold pyNext
  refine wpAny_bind (wpAny_attempt (wpAny_callSpecial?_slot (name := Str.ofString "__next__") hT F.slot_enumerate_next (wpAny_call_entry F.slot_enumerate_next hT F.entry_enumerate_next ?_ (F.args_enumerate_next_1 _))))
  obtain ⟨H, gs, dr, tk, os⟩ := s
  show wpAny _ _ (field (.ref e) 2 >>= _) _ _ _
  refine wpAny_bind (wpAny_field he rfl (x := .ref it) rfl (wpAny_bind (wpAny_nextOf_ascii_item hi hc fun h₁ hi₁ s₁ => ?_)))
  have k₁ : ∀ b o, b ≠ it → H.get? b = some o → h₁.get? b = some o := fun b o hb => s₁.extBut b o hb
  have z₁ : h₁.objs.size = H.objs.size := s₁.1
  have e₁ := k₁ e _ hne he
  show wpAny _ _ (field (.ref e) 3 >>= _) _ _ _
  refine wpAny_bind (wpAny_field e₁ rfl (x := rawInt i) rfl ?_)
  show wpAny _ _ (field (.ref e) 4 >>= _) _ _ _
  refine wpAny_bind (wpAny_field e₁ rfl (x := .none) rfl ?_)
  show wpAny _ _ (mkInt i >>= _) _ _ _
  refine wpAny_bind (wpAny_mkInt ?_)
  show wpAny _ _ (setField (.ref e) 3 (rawInt ((i : Int) + 1)) >>= _) _ _ _
  refine wpAny_bind (wpAny_setField_rec e₁ (by simp) fun h₂ e₂ s₂ => ?_)
  show wpAny _ _ (setField (.ref e) 4 .none >>= _) _ _ _
  refine wpAny_bind (wpAny_setField_rec e₂ (by simp) fun h₃ e₃ s₃ => ?_)
  have z₃ : h₃.objs.size = H.objs.size := s₃.1.trans (s₂.1.trans z₁)
  have k₃ : ∀ b o, b ≠ e → h₁.get? b = some o → h₃.get? b = some o := fun b o hb x => s₃.extBut b o hb (s₂.extBut b o hb x)
  show wpAny _ _ (newTuple [.int i (tk + 1), .str ⟨#[c]⟩ tk] >>= _) _ _ _
  refine wpAny_bind (wpAny_newTuple ?_)
  show wpAny _ _ (Builtin.SmallTypes.ownedTupleIsFree (.ref e) >>= _) _ _ ⟨h₃.push _, gs, dr, tk + 1 + 1, os⟩
  have t₄ := Heap.get?_push_size h₃ (o := { cls := .type "tuple", data := .seq #[.int i (tk + 1), .str ⟨#[c]⟩ tk] }) rfl
  have k₄ : ∀ b o, h₃.get? b = some o → (h₃.push { cls := .type "tuple", data := .seq #[.int i (tk + 1), .str ⟨#[c]⟩ tk] }).get? b = some o := fun b o x => Heap.get?_push_of_some _ x
  generalize h₃.push { cls := .type "tuple", data := .seq #[.int i (tk + 1), .str ⟨#[c]⟩ tk] } = h₄ at t₄ k₄
  rw [z₃] at t₄
  show wpAny _ _ _ _ _ _
  rw [show h₃.objs.size = H.objs.size from z₃]
  have e₄ := k₄ e _ e₃
  refine wpAny_bind ?_
  unfold Builtin.SmallTypes.ownedTupleIsFree
  refine wpAny_bind (wpAny_field e₄ rfl (x := .none) rfl (wpAny_pure ?_))
  simp only [if_true]
  refine wpAny_bind (wpAny_rule (wpAny_bind (wpAny_field e₄ rfl (x := old) rfl (wpAny_bind (wpAny_setField_rec e₄ (by simp) fun h₅ e₅ s₅ => ?_)))))
  show wpAny _ _ (Builtin.SmallTypes.ownedTupleHandOut (.ref e) (.ref H.objs.size) >>= _) _ _ _
  refine wpAny_bind ?_
  unfold Builtin.SmallTypes.ownedTupleHandOut
  refine wpAny_bind (wpAny_setField_rec e₅ (by simp) fun h₆ e₆ s₆ => ?_)
  refine wpAny_setField_rec e₆ (by simp) fun h₇ e₇ s₇ => ?_
  have k₇ : ∀ b o, b ≠ e → h₄.get? b = some o → h₇.get? b = some o := fun b o hb x => s₇.extBut b o hb (s₆.extBut b o hb (s₅.extBut b o hb x))
  refine wpAny_bind (wpAny_letGo (wpAny_pure ⟨_, rfl, ?_⟩))
  refine wpAny_pure (hQ h₇ e₇ ?_ ⟨_, k₇ _ _ (Nat.ne_of_gt hlt) t₄, rfl, _, rfl⟩ fun b o h1 h2 x => k₇ b o h1 (k₄ b o (k₃ b o h1 (k₁ b o h2 x))))
  obtain ⟨o, ho, r⟩ := hi₁
  exact ⟨o, k₇ _ _ hne.symm (k₄ _ _ (k₃ _ _ hne.symm ho)), r⟩
end
section
variable {prog : Program} {w : World} {A : Around} {s : Shared} {env : Env} {h₀ : Heap}
theorem find_sign {R : Result → Shared → Prop} {xi xc : Str} {pk pv pt pr pq pf : Pos} {x1 : Nat} {test : Expr} {orelse : List Stmt} {e it : Addr} {x : Str} {t : Tok} {m : Str → Option Value} {pz : Nat → Bool} {k : Nat}
    (hh : A.handled = none) (hei : e ≠ it) (he : IsEnum s.heap e it 0 .none) (hit : s.heap.IsStrIter it "str_ascii_iterator" x t 0)
    (hxi : env.kindOf xi = some .local) (hxc : env.kindOf xc = some .local) (hne : xi ≠ xc) (hdi : (xi == ("__debug__" : Str)) = false)
    (hp : (env.scope.kind == .class || (env.scope.kind == .module && env.locals != env.globals)) = false) (hfn : env.scope.kind = .function)
    (hLe : env.locals ≠ e) (hLi : env.locals ≠ it) (hwe : h₀.get? e = none) (hwi : h₀.get? it = none) (F : Fr h₀ env.locals s.heap m)
    (hk : k < x.cps.size) (hyes : pz k = true) (hno : ∀ i, i < k → pz i = false)
    (test_ok : ∀ i c (u : Option Value) (tc : Nat) h (tk : Nat), x.cps[i]? = some c → s.toks ≤ tc → tc < tk → Fr h₀ env.locals h (fun y => if y = xc then some (.str ⟨#[c]⟩ tc) else if y = xi then u else m y) →
      wpAny (model prog w) A (isTrue test env (eval test env)) (fun b s₂ => b = pz i ∧ ∃ h' tk', s₂ = { s with heap := h', toks := tk' } ∧ tk ≤ tk' ∧ ∀ b o, h.get? b = some o → h'.get? b = some o) (notedBy (model prog w) A env fun e s' => R (.error e) s') { s with heap := h, toks := tk })
    (hR : ∀ t h' tk m', Fr h₀ env.locals h' m' → s.toks ≤ tk → R (.ok (.ret (.int k t))) { s with heap := h', toks := tk }) :
    codeAny (model prog w) A (.forLoop (.Tuple [.Name xi pk, .Name xc pv] x1 pt) (.ref e) [.If test [.Return (some (.Name xi pr)) pq] [] pf] orelse env) R s := by
  have find : ∀ (m' : Str → Option Value), (∀ y, y ≠ xi → y ≠ xc → m' y = m y) → ∀ (v0 v1 : Value), (fun y => if y = xc then some v1 else if y = xi then some v0 else m' y) = fun y => if y = xc then some v1 else if y = xi then some v0 else m y := by
    intro m' hm v0 v1
    funext y
    by_cases e1 : y = xc
    · simp [e1]
    · by_cases e2 : y = xi
      · simp [e2]
      · simp [e1, e2, hm y e2 e1]
  refine codeAny_forLoop_any
    (fun d s' => ∃ h' tk m' i, s' = { s with heap := h', toks := tk } ∧ (∃ old, IsEnum h' e it (i : Nat) old) ∧ h'.IsStrIter it "str_ascii_iterator" x t i ∧ Fr h₀ env.locals h' m' ∧ (∀ y, y ≠ xi → y ≠ xc → m' y = m y) ∧ s.toks ≤ tk ∧ i ≤ k ∧ d = k - i) ?_ k
    ⟨s.heap, s.toks, m, 0, rfl, ⟨_, he⟩, hit, F, (fun _ _ _ => rfl), Nat.le_refl _, Nat.zero_le _, rfl⟩
  rintro d s' ⟨H, tk, m', i, rfl, ⟨old, he'⟩, hit', F', hm, htk, hi, rfl⟩
  have hil : i < x.cps.size := by omega
  refine enum_sign (c := x.cps[i]) he' hit' (by simp [hil]) hei fun h₁ ho₁ hi₁ hT₁ hk₁ => ?_
  have hTe : H.objs.size ≠ e := Nat.ne_of_gt (Heap.lt_size he')
  have hTi : H.objs.size ≠ it := by obtain ⟨o, ho, _⟩ := hit'; exact Nat.ne_of_gt (Heap.lt_size ho)
  refine wpAny_letOwnedTupleGo_enum ho₁ fun h₂ he₂ hs₂ => ?_
  have k₂ : ∀ b o, b ≠ e → h₁.get? b = some o → h₂.get? b = some o := fun b o hb q => (hs₂.2 b hb).trans q
  have ht₂ : h₂.IsTuple H.objs.size #[.int i (tk + 1), .str ⟨#[x.cps[i]]⟩ tk] := hT₁.at fun o q => k₂ _ o hTe q
  refine wpAny_assign_Tuple hh ht₂ rfl rfl fun h₃ hx₃ => ?_
  replace hx₃ : Heap.ExtBut h₂.objs.size h₂ h₃ := hx₃
  have up₃ : ∀ b o, h₂.get? b = some o → h₃.get? b = some o := fun b o q => hx₃ b o (Nat.ne_of_lt (Heap.lt_size q)) q
  have old₃ : ∀ b o, b ≠ e → b ≠ it → H.get? b = some o → h₃.get? b = some o := fun b o h1 h2 q => up₃ b o (k₂ b o h1 (hk₁ b o h1 h2 q))
  have F₃ : Fr h₀ env.locals h₃ m' := ⟨F'.ns.at' fun o q => old₃ _ o hLe hLi q, fun b o q => old₃ b o (fun h => by rw [h, hwe] at q; cases q) (fun h => by rw [h, hwi] at q; cases q) (F'.keep b o q), F'.above⟩
  show wpAny _ A (do holding [_] (assign (.Name xi pk) env (.int i (tk + 1))); do holding [] (assign (.Name xc pv) env (.str ⟨#[x.cps[i]]⟩ tk)); pure ()) _ _ _
  refine wpAny_bind (wpAny_holding (wpAny_assign_Name (wpAny_storeName_local hxi F₃.ns (fun h₄ hn₄ hs₄ => ?_) hp)))
  replace hs₄ : Heap.SameBut env.locals h₃ h₄ := hs₄
  have F₄ := F₃.set hn₄ hs₄
  refine wpAny_bind (wpAny_holding (wpAny_assign_Name (wpAny_storeName_local hxc F₄.ns (fun h₅ hn₅ hs₅ => wpAny_pure ?_) hp)))
  replace hs₅ : Heap.SameBut env.locals h₄ h₅ := hs₅
  have F₅ := F₄.set hn₅ hs₅
  have up₅ : ∀ b o, b ≠ env.locals → h₃.get? b = some o → h₅.get? b = some o := fun b o hb q => hs₅.extBut b o hb (hs₄.extBut b o hb q)
  rw [find m' hm] at F₅
  refine wpAny_execs_cons (wpAny_If (wpAny_mono (test_ok i _ _ tk h₅ _ (by simp [hil]) htk (by dsimp only; omega) F₅) (fun b s₆ h₆ => ?_) fun _ _ q => q))
  obtain ⟨rfl, h', tk', rfl, htk', keep⟩ := h₆
  dsimp only at htk'
  have F₆ : Fr h₀ env.locals h' _ := ⟨F₅.ns.keeps keep, fun b o q => keep b o (F₅.keep b o q), F₅.above⟩
  cases hb : pz i with
  | true =>
    have hik : i = k := by
      rcases Nat.lt_or_ge i k with h | h
      · rw [hno i h] at hb; cases hb
      · omega
    subst hik
    simp only [if_true]
    refine wpAny_execs_cons (wpAny_Return_some (wpAny_Name (wpAny_loadName_local (v := .int i (tk + 1)) hfn hxi F₆.ns ?_ (hR (tk + 1) _ _ _ F₆ (by omega))) hdi))
    show (if xi = xc then some (Value.str ⟨#[x.cps[i]]⟩ tk) else if xi = xi then some (Value.int i (tk + 1)) else m xi) = some (Value.int i (tk + 1))
    rw [if_neg hne, if_pos rfl]
  | false =>
    have hik : i ≠ k := fun q => by rw [q, hyes] at hb; cases hb
    simp only [Bool.false_eq_true, if_false]
    refine wpAny_execs_nil (wpAny_execs_nil ?_)
    refine ⟨k - (i + 1), by omega, h', tk', _, i + 1, rfl, ⟨_, keep _ _ (up₅ _ _ hLe.symm (up₃ _ _ he₂))⟩, ?_, F₆, ?_, by omega, by omega, rfl⟩
    · obtain ⟨o, ho, r⟩ := hi₁
      exact ⟨o, keep _ _ (up₅ _ _ hLi.symm (up₃ _ _ (k₂ _ _ hei.symm ho))), r⟩
    · intro y e1 e2
      show (if y = xc then some (Value.str ⟨#[x.cps[i]]⟩ tk) else if y = xi then some (Value.int i (tk + 1)) else m y) = m y
      rw [if_neg e2, if_neg e1]
end
local macro_rules | `(tactic| walk_at "call type:enumerate") => `(tactic| (k_here; (with_reducible refine Stop.out ?_)))
theorem iter_ascii {x : Str} (h : x.cps.all (· < 128) = true) : strIterType x = "str_ascii_iterator" := by
  unfold strIterType; rw [if_pos h]
set_option maxHeartbeats 4000000 in
theorem index_sign {w : World} {news : List (Addr × Obj)} {x : Str} {t u : Tok} {c k : Nat} {tk0 : Nat} (hx : x.cps.all (· < 128) = true) (hk : k < x.cps.size) (hyes : x.cps[k]? = some c) (hno : ∀ i, i < k → x.cps[i]? ≠ some c) (hu0 : u ≠ 0) (hu : Nat.lt u tk0) :
    Con w 119 [.str x t, .str ⟨#[c]⟩ u] 3 100 tk0 news (fun r news' _ => news' = news ∧ ∃ t', r = .int k t') := by
  unfold Con
  k_fill
  intro mean mg mb dp un gd cn cs a ccd cl outer A₀ base h₀ L m s Q E B F X N T hks hdp hun htk0 hret
  have Xs := X.keeps F.keep
  have Ts := T.keeps F.keep
  refine wpAny_with_toks (Nat.le_refl _) ?_
  have ho := Xs 119 (ob119 w.params) rfl
  refine wpAny_call (call_plain (name := Str.ofString "indexOf") (params := (fnOfStm 15).1) (body := (fnOfStm 15).2.1) (scope := (fnOfStm 15).2.2) (binds := [(Str.ofString "a", .str x t), (Str.ofString "b", .str ⟨#[c]⟩ u)]) ?_ ho rfl Ts.nolimit ?_ rfl ?_ (fun h₁ F₁ => ?_) rfl rfl rfl ?_)
  · show dp < recursionLimit
    omega
  · exact codeRec_of Xs (by k_is)
  · exact locs rfl
  · have N₁ : News s.heap s.heap.objs.size h₁ [] := News.nil
    conv => (arg 3; arg 1; whnf)
    have hlow := tkLow s.toks
    wrow_steps
    refine wpAny_For ?_ (fun _ => rfl)
    wrow_steps
    have hL1 : s.heap.objs.size < h₁.objs.size := F₁.ns.lt
    refine ⟨?_⟩
    refine call_enumerate_str (s := { s with heap := h₁, toks := _ }) fun h₂ he hit hsz hkp => ?_
    dsimp only at he hit hsz hkp
    have F₂ : Fr s.heap s.heap.objs.size h₂ _ := ⟨F₁.ns.keeps hkp, fun b o e => hkp b o (F₁.keep b o e), F₁.above⟩
    refine wpAny_pyIter_enum he ?_
    rw [iter_ascii hx] at hit
    refine find_sign (h₀ := s.heap) (pz := fun i => decide (x.cps[i]? = some c)) (k := k) rfl (Nat.succ_ne_self _) he hit rfl rfl (by decide) (by decide) rfl rfl (Nat.ne_of_lt (Nat.lt_succ_of_lt hL1)) (Nat.ne_of_lt hL1) (Heap.get?_none_of_le (Nat.le_of_lt (Nat.lt_succ_of_lt hL1))) (Heap.get?_none_of_le (Nat.le_of_lt hL1)) F₂ hk (decide_eq_true hyes) (fun i hi => decide_eq_false (hno i hi)) ?_ ?_
    · intro i c' v tc h tk hi htc htc2 F₃
      have N₃ : News s.heap s.heap.objs.size h [] := News.nil
      dsimp only at htc
      have hle : tk0 ≤ tc := by omega
      have hlt : Nat.lt u tc := Nat.lt_of_lt_of_le hu hle
      have htu : (tc : Tok) ≠ u := Nat.ne_of_gt hlt
      have ht0 : (tc : Tok) ≠ 0 := Nat.ne_of_gt (Nat.lt_of_le_of_lt (Nat.zero_le u) hlt)
      wrow_steps
      refine is_of (same_str ht0 hu0 (fun e => absurd e htu) (none_booked (Xs.keeps F₃.keep)) fun b hb => ?_)
      have hcc : ((⟨#[c']⟩ : Str) = ⟨#[c]⟩) ↔ x.cps[i]? = some c := by
        rw [hi]
        constructor
        · intro e; injection e with e; simpa using e
        · intro e; rw [Option.some.inj e]
      cases b with
      | true =>
        wrow_steps
        all_goals first | exact (decide_eq_true (hcc.mp (hb rfl))).symm | rfl | exact ⟨_, _, rfl, by first | omega | (dsimp only; omega), fun _ _ e => e⟩
      | false =>
        wrow_steps
        rename (_ == _) = false => hq
        exact (decide_eq_false fun e => beq_eq_false_iff_ne.mp hq (hcc.mpr e)).symm
    · intro t h' tk m' F'
      dsimp only
      intro htk htk2
      exact hret _ _ _ _ (Fr.keeps_up F F') (fun p hp => ⟨F'.keep _ _ (N p hp).1, (N p hp).2⟩) htk2 ⟨rfl, _, rfl⟩
  · decide
noncomputable def tokV (x : Str) : Option Int := KTD.datumAt x tokL
theorem lookup_strD {k : Str} : ∀ {D : List (Str × PyData)}, PySem.Spec.lookup (PyData.str k) (D.map fun p => (PyData.str p.1, p.2)) = KTD.datumAt k D
  | [] => rfl
  | (i, d) :: D => by
    show (if PySem.Spec.same (PyData.str i) (PyData.str k) = true then some d else PySem.Spec.lookup (PyData.str k) (D.map fun p => (PyData.str p.1, p.2))) = (if decide (k = i) = true then some d else KTD.datumAt k D)
    rw [PyProof.V.same_str, lookup_strD]
    by_cases hx : k = i
    · subst hx; simp
    · have hx' : ¬ i = k := fun q => hx q.symm
      simp [hx, hx']
theorem datumAt_tok (x : Str) : ∀ l : List (Str × Int), KTD.datumAt x (l.map fun p => (p.1, PyData.int p.2)) = (KTD.datumAt x l).map PyData.int
  | [] => rfl
  | (y, i) :: l => by
    show (if decide (x = y) = true then some (PyData.int i) else KTD.datumAt x (l.map fun p => (p.1, PyData.int p.2))) = (if decide (x = y) = true then some i else KTD.datumAt x l).map PyData.int
    rw [datumAt_tok]
    split <;> rfl
section
variable {w : World} {A : Around} {E : Value → Shared → Prop} {s : Shared} {h₀ : Heap}
theorem tok_in {x : Str} {t : Tok} {Q : Value → Shared → Prop} (X : (KK w.params).In h₀) (hk : ∀ b o, h₀.get? b = some o → s.heap.get? b = some o) (h : Q (.bool (tokV x).isSome) { s with toks := s.toks + 1 }) :
    wpAny (model Challenge.rw_wf0091_01.prog w) A (compareOp .In (.str x t) (.ref 191)) Q E s := by
  obtain ⟨lo, kvs, ⟨o, es, ep, ho, r⟩, hf⟩ := tok_at X
  refine in_strTab ⟨lo, kvs, ⟨o, es, ep, hk _ _ ho, r⟩, hf⟩ ?_
  rw [lookup_strD, tokD, datumAt_tok, Option.isSome_map]
  exact h
theorem tok_item {x : Str} {t : Tok} {v : Int} {value slice : PySem.Expr} {Q : Value → Shared → Prop} (X : (KK w.params).In h₀) (hk : ∀ b o, h₀.get? b = some o → s.heap.get? b = some o) (hv : tokV x = some v) (h : ∀ t', Q (.int v t') { s with toks := s.toks + 1 })
    (hs : subscripted slice false (.ref 191) (.str x t) = operate [.ref 191, .str x t] (getItem (.ref 191) (.str x t)) := by with_unfolding_all rfl) (hg : ∀ r, letTemporaryGo value (.ref 191) r = pure () := by intro _; with_unfolding_all rfl) :
    wpAny (model Challenge.rw_wf0091_01.prog w) A (subscriptTail value slice (.ref 191) (.str x t)) Q E s := by
  obtain ⟨lo, kvs, ⟨o, es, ep, ho, r⟩, hf⟩ := tok_at X
  have e := lookup_strD (k := x) (D := tokD)
  rw [show KTD.datumAt x tokD = some (PyData.int v) by rw [tokD, datumAt_tok, show KTD.datumAt x tokL = some v from hv]; rfl] at e
  refine item_strTab_isSome ⟨lo, kvs, ⟨o, es, ep, hk _ _ ho, r⟩, hf⟩ (by rw [e]; rfl) (fun u hu => ?_) hs hg
  rw [e] at hu
  obtain ⟨t', rfl⟩ := PyProof.V.Flat.int_inv hu
  exact h t'
end
local macro_rules | `(tactic| walk_at "compareOp In str ref") => `(tactic| (k_here; k_dflt (refine' tok_in (by k_asm) (by kt_keeps) ?_)))
local macro_rules | `(tactic| walk_at "sh rs") => `(tactic| (k_here; with_reducible show wpAny _ _ (subscriptTail _ _ (Value.ref _) (Value.str _ _)) _ _ _))
local macro_rules | `(tactic| walk_at "subscriptTail") => `(tactic| (walk_at "sh rs"; k_dflt (refine' tok_item (by k_asm) (by kt_keeps) (by assumption) ?_ (by with_unfolding_all rfl) (by intro _; with_unfolding_all rfl)); intro _))
local macro_rules | `(tactic| walk_at "subscriptTail Name Name ref str") => `(tactic| (walk_at "sh rs"; k_dflt (refine' tok_item (by k_asm) (by kt_keeps) (by assumption) ?_ (by with_unfolding_all rfl) (by intro _; with_unfolding_all rfl)); intro _))
set_option maxHeartbeats 4000000 in
theorem contains_tok {w : World} {news : List (Addr × Obj)} {x : Str} {t : Tok} : Con w 98 [.ref 191, .str x t] 3 60 0 news (fun r news' _ => news' = news ∧ r = .bool (tokV x).isSome) := by
  unfold Con
  k_fill
  intro mean mg mb dp un gd cn cs a ccd cl outer A₀ base h₀ L m s Q E B F X N T' hks hdp hun htk hret
  refine wpAny_with_toks (Nat.le_refl _) ?_
  refine wpAny_call ?_
  refine code_def (name := Str.ofString "contains") (params := (fnOfStm 12).1) (body := (fnOfStm 12).2.1) (scope := (fnOfStm 12).2.2) (cdv := .ref 97) (binds := [(Str.ofString "a", .ref 191), (Str.ofString "b", .str x t)]) B F X N T' rfl rfl hks (by k_is) (by k_is) (by ktr_room) (BindsTo.of_eq rfl) (locs rfl) ?_ rfl rfl rfl (by decide)
  intro g' L' h' FG' F' N' B' X' T''
  conv => (arg 3; arg 1; whnf)
  have hlow := tkLow s.toks
  wrow_steps
  rename News h₀ L _ _ => kN
  rename Fr h₀ L _ _ => kF
  exact hret _ _ _ _ kF kN (by first | omega | (dsimp only at *; omega)) ⟨rfl, rfl⟩
set_option maxHeartbeats 4000000 in
theorem getitem_tok {w : World} {news : List (Addr × Obj)} {x : Str} {t : Tok} {v : Int} (hv : tokV x = some v) : Con w 112 [.ref 191, .str x t] 3 60 0 news (fun r news' _ => news' = news ∧ ∃ t', r = .int v t') := by
  unfold Con
  k_fill
  intro mean mg mb dp un gd cn cs a ccd cl outer A₀ base h₀ L m s Q E B F X N T' hks hdp hun htk hret
  refine wpAny_with_toks (Nat.le_refl _) ?_
  refine wpAny_call ?_
  refine code_def (name := Str.ofString "getitem") (params := (fnOfStm 14).1) (body := (fnOfStm 14).2.1) (scope := (fnOfStm 14).2.2) (cdv := .ref 111) (binds := [(Str.ofString "a", .ref 191), (Str.ofString "b", .str x t)]) B F X N T' rfl rfl hks (by k_is) (by k_is) (by ktr_room) (BindsTo.of_eq rfl) (locs rfl) ?_ rfl rfl rfl (by decide)
  intro g' L' h' FG' F' N' B' X' T''
  conv => (arg 3; arg 1; whnf)
  have hlow := tkLow s.toks
  wrow_steps
  rename News h₀ L _ _ => kN
  rename Fr h₀ L _ _ => kF
  exact hret _ _ _ _ kF kN (by first | omega | (dsimp only at *; omega)) ⟨rfl, _, rfl⟩
end
section
section
variable {prog : Program} {w : World} {A : Around} {E : Value → Shared → Prop} {s : Shared} {h₀ : Heap} {L : Addr} {m : Str → Option Value} {news : List (Addr × Obj)} {x : Str} {t : Tok} {Q : Value → Shared → Prop}
theorem made_slice {c : Prop} [Decidable c] {y z : Str} (hz : (if c then y else z).length ≤ 100000) (ht : TkOk s.toks t) (h : ∀ t' tk, s.toks ≤ tk → TkOk tk t' → Q (.str (if c then y else z) t') { s with toks := tk }) : (if c then Made.val (.str y t) else Made.str z).post Q s := by
  by_cases hc : c
  · rw [if_pos hc]
    have h' := h t s.toks (Nat.le_refl _) ht
    rw [if_pos hc] at h'
    exact h'
  · rw [if_neg hc]
    have h' := h s.toks (s.toks + 1) (Nat.le_succ _) (ht.fresh (Nat.le_refl _))
    rw [if_neg hc] at h' hz
    exact ⟨by rw [sizeLine_eq]; omega, h'⟩
theorem slice_ns_T {value slice : PySem.Expr} {j : Int} {uj : Tok} (F : Fr h₀ L s.heap m) (N : News h₀ L s.heap news) (hT : TkOk s.toks t) (hsz : x.length ≤ 100000)
    (h : ∀ h' t' tk, Fr h₀ L h' m → News h₀ L h' news → s.toks ≤ tk → TkOk tk t' → Q (.str (Txt.slice x none (some j)) t') { s with heap := h', toks := tk })
    (hs : subscripted slice false (.str x t) (.ref s.heap.objs.size) = operate [.ref s.heap.objs.size, .str x t] (getItem (.str x t) (.ref s.heap.objs.size)) := by with_unfolding_all rfl)
    (ht : ∀ r, letTemporaryGo value (.str x t) r = pure () := by intro _; with_unfolding_all rfl) :
    wpAny (model prog w) A (subscriptTail value slice (.str x t) (.ref s.heap.objs.size)) Q E { s with heap := s.heap.push { cls := .type "slice", data := .fields #[.none, .int j uj, .none] } } :=
  tail_of_ItemOn ⟨"str", _, PySem.F.slot_str_getitem.lookup, typeIs_str _ _ _, wpAny_getItem_str_slice (l := none) (u := some (j, uj)) (st := none) ⟨_, Heap.get?_push_size _ rfl, rfl, rfl⟩ rfl
    (made_slice (Nat.le_trans (Txt.slice_le x none (some j)) hsz) hT fun t' tk hk ho => h _ t' tk (F.push _) (fun p hp => ⟨Heap.get?_push_of_some _ (N p hp).1, (N p hp).2⟩) hk ho)⟩ hs ht
theorem slice_sn_T {value slice : PySem.Expr} {i : Int} {ui : Tok} (F : Fr h₀ L s.heap m) (N : News h₀ L s.heap news) (hT : TkOk s.toks t) (hsz : x.length ≤ 100000)
    (h : ∀ h' t' tk, Fr h₀ L h' m → News h₀ L h' news → s.toks ≤ tk → TkOk tk t' → Q (.str (Txt.slice x (some i) none) t') { s with heap := h', toks := tk })
    (hs : subscripted slice false (.str x t) (.ref s.heap.objs.size) = operate [.ref s.heap.objs.size, .str x t] (getItem (.str x t) (.ref s.heap.objs.size)) := by with_unfolding_all rfl)
    (ht : ∀ r, letTemporaryGo value (.str x t) r = pure () := by intro _; with_unfolding_all rfl) :
    wpAny (model prog w) A (subscriptTail value slice (.str x t) (.ref s.heap.objs.size)) Q E { s with heap := s.heap.push { cls := .type "slice", data := .fields #[.int i ui, .none, .none] } } :=
  tail_of_ItemOn ⟨"str", _, PySem.F.slot_str_getitem.lookup, typeIs_str _ _ _, wpAny_getItem_str_slice (l := some (i, ui)) (u := none) (st := none) ⟨_, Heap.get?_push_size _ rfl, rfl, rfl⟩ rfl
    (made_slice (Nat.le_trans (Txt.slice_le x (some i) none) hsz) hT fun t' tk hk ho => h _ t' tk (F.push _) (fun p hp => ⟨Heap.get?_push_of_some _ (N p hp).1, (N p hp).2⟩) hk ho)⟩ hs ht
end
local macro_rules | `(tactic| walk_at "sl") => `(tactic| ((focus ((try dsimp only); first | assumption | exact TkOk.mono (by assumption) (by omega))); (focus ((try dsimp only); omega)); intro _ _ _ _ _ htkm _; (try dsimp only at htkm)))
local macro_rules | `(tactic| walk_at "subscriptTail Name Slice str ref") => `(tactic| (k_here; (with_reducible rename Fr _ _ _ _ => F9); (with_reducible rename News _ _ _ _ => N9); refine' slice_ns_T (s := ⟨_, _, _, _, _⟩) F9 N9 ?_ ?_ ?_; walk_at "sl"))
local macro_rules | `(tactic| walk_at "subscriptTail Name Slice str ref") => `(tactic| (k_here; (with_reducible rename Fr _ _ _ _ => F9); (with_reducible rename News _ _ _ _ => N9); refine' slice_sn_T (s := ⟨_, _, _, _, _⟩) F9 N9 ?_ ?_ ?_; walk_at "sl"))
noncomputable def bodyIn (ss : List Stmt) (k j : Nat) : List Stmt := bodyAt (bodyAt ss k) j
noncomputable def filtAt (x : Str) : Option Nat := if x = ⟨#[102]⟩ then some 0 else if x = ⟨#[105]⟩ then some 1 else if x = ⟨#[108]⟩ then some 2 else if x = ⟨#[116]⟩ then some 3 else none
noncomputable def pieceOfS (x : Str) : Str := if (tokV (Txt.slice x none (some 2))).isSome = true then Txt.slice x none (some 2) else Txt.slice x none (some 1)
noncomputable def symOf (p : Str) : Option Int := match tokV p with
  | some v => some v
  | none => Option.map (fun k : Nat => 256 + (k : Int)) (filtAt p)
noncomputable def restS (x : Str) : Str := Txt.slice x (some ((pieceOfS x).length : Int)) none
theorem filt_is : (Str.ofString "filt") = ⟨#[102, 105, 108, 116]⟩ := by decide +kernel
theorem filtAt_spec {x : Str} {k : Nat} (h : filtAt x = some k) : ∃ c, x = ⟨#[c]⟩ ∧ k < 4 ∧ (Str.ofString "filt").cps[k]? = some c ∧ ∀ i, i < k → (Str.ofString "filt").cps[i]? ≠ some c := by
  rw [filt_is]
  unfold filtAt at h
  split at h
  · cases h; exact ⟨102, by assumption, by decide, by decide, fun i hi => absurd hi (Nat.not_lt_zero _)⟩
  split at h
  · cases h; exact ⟨105, by assumption, by decide, by decide, by decide⟩
  split at h
  · cases h; exact ⟨108, by assumption, by decide, by decide, by decide⟩
  split at h
  · cases h; exact ⟨116, by assumption, by decide, by decide, by decide⟩
  · cases h
set_option maxHeartbeats 4000000 in
theorem read2_piece {w : World} {sa : Addr} {svs : List Value} {x : Str} {sn tk0 : Nat} {tx : Tok} {TT : List (Addr × Obj)} (htx : TkOk tk0 tx) (hz : x.length ≤ 10000) (h26 : 2600 ≤ tk0)
    (B' : Below (ktrTop dp un gd cn cs L a ccd cl outer) base (envX cn cs L a ccd cl :: outer) g') (F' : Fr g' L' s.heap m') (X' : (KK w.params).In g') (T' : Top qv looseL mean mg mb g')
    (N' : News g' L' s.heap ((sa, listOf svs.toArray sn) :: TT))
    (hm2 : m' (Str.ofString "left") = some (.str x tx))
    (hks : cs.kind = .function) (hdp : dp + 60 < recursionLimit) (hun : un + 400 < cLine) (htk : tk0 ≤ s.toks)
    (hret : ∀ tp h' tk', Fr g' L' h' (fun y => if y = Str.ofString "piece" then some (.str (pieceOfS x) tp) else m' y) → News g' L' h' ((sa, listOf svs.toArray sn) :: TT) → s.toks ≤ tk' → TkOk tk' tp → (pieceOfS x).length ≤ x.length → Stop (wpAny (model Challenge.rw_wf0091_01.prog w) ((ktrTop dp un gd cn cs L a ccd cl outer).deeper (envOf (Str.ofString "_law_read") (fnOfStm 79).2.2 L' 233 (.ref 232))) (execs ((bodyIn (fnOfStm 79).2.1 3 1).drop 1) (envOf (Str.ofString "_law_read") (fnOfStm 79).2.2 L' 233 (.ref 232))) Qf E { s with heap := h', toks := tk' })) :
    wpAny (model Challenge.rw_wf0091_01.prog w) ((ktrTop dp un gd cn cs L a ccd cl outer).deeper (envOf (Str.ofString "_law_read") (fnOfStm 79).2.2 L' 233 (.ref 232))) (execs (bodyIn (fnOfStm 79).2.1 3 1) (envOf (Str.ofString "_law_read") (fnOfStm 79).2.2 L' 233 (.ref 232))) Qf E s := by
  with_reducible refine' execs_split (xs := [_]) (ys := (bodyIn (fnOfStm 79).2.1 3 1).drop 1) ?q_e ?q_go
  case q_e => exact rfl
  obtain ⟨H, gs, dr, tks, os⟩ := s
  dsimp only at F' N' htk hret
  revert F' N' htk hret
  revert B' X' T'
  k_fill
  intro B' X' T' F' N' htk hret
  have htx1 : TkOk tks tx := htx.mono htk
  have hl1 := Txt.slice_le x none (some 1)
  have hl2 := Txt.slice_le x none (some 2)
  wrow_steps
  rename News g' L' _ _ => kN
  with_unfolding_all refine' con_use (tk0 := 0) (un0 := 60) (dn := 3) ?q_B ?q_F ?q_X ?q_T ?q_k (contains_tok) ?q_N ?q_hd ?q_hu (Nat.zero_le _) ?_
  case q_B | q_F | q_X | q_T => k_asm
  case q_k => rfl
  case q_N => exact kN
  case q_hd => ktr_room
  case q_hu => (first | ktr_units | ((show un + 3 + _ < cLine); omega))
  intro v9 news9 h9 tk9 F9 N9 hl9 hp9
  (try dsimp only at hl9)
  obtain ⟨rfl, rfl⟩ := hp9
  clear kN
  cases hb : (tokV (Txt.slice x none (some 2))).isSome with
  | true =>
    have ep : pieceOfS x = Txt.slice x none (some 2) := if_pos hb
    rw [ep] at hret
    wrow_steps
    rename News g' L' _ _ => kN
    rename Fr g' L' _ _ => kF
    exact hret _ _ _ kF kN (by omega) (TkOk.mono (by assumption) (by omega)) hl2
  | false =>
    have ep : pieceOfS x = Txt.slice x none (some 1) := if_neg (by rw [hb]; exact Bool.false_ne_true)
    rw [ep] at hret
    wrow_steps
    rename News g' L' _ _ => kN
    rename Fr g' L' _ _ => kF
    exact hret _ _ _ kF kN (by omega) (TkOk.mono (by assumption) (by omega)) hl1
noncomputable def IntsV (vs : List Value) (xs : List Int) : Prop := ∃ ps : List (Int × Tok), vs = ps.map intV ∧ ps.map (·.1) = xs
theorem IntsV.nil : IntsV [] [] := ⟨[], rfl, rfl⟩
theorem IntsV.snoc {vs : List Value} {xs : List Int} {x : Int} {t : Tok} (h : IntsV vs xs) : IntsV (vs ++ [.int x t]) (xs ++ [x]) := by
  obtain ⟨ps, h1, h2⟩ := h
  exact ⟨ps ++ [(x, t)], by rw [h1, List.map_append]; rfl, by rw [List.map_append, h2]; rfl⟩
theorem IntsV.length {vs : List Value} {xs : List Int} (h : IntsV vs xs) : vs.length = xs.length := by
  obtain ⟨ps, h1, h2⟩ := h
  rw [h1, ← h2]; simp
set_option maxHeartbeats 4000000 in
theorem read2_if {w : World} {sa : Addr} {svs : List Value} {x p : Str} {sn tk0 : Nat} {tx tp : Tok} {TT : List (Addr × Obj)} {v : Int} (htx : TkOk tk0 tx) (htp : TkOk tk0 tp) (hz : x.length ≤ 10000) (hpz : p.length ≤ 10000) (hsl : svs.length ≤ 10000) (h26 : 2600 ≤ tk0) (hv : symOf p = some v)
    (B' : Below (ktrTop dp un gd cn cs L a ccd cl outer) base (envX cn cs L a ccd cl :: outer) g') (F' : Fr g' L' s.heap m') (X' : (KK w.params).In g') (T' : Top qv looseL mean mg mb g')
    (N' : News g' L' s.heap ((sa, listOf svs.toArray sn) :: TT)) (ho : ∀ p ∈ TT, p.1 ≠ sa)
    (hm1 : m' (Str.ofString "symbols") = some (.ref sa)) (hm2 : m' (Str.ofString "left") = some (.str x tx)) (hm3 : m' (Str.ofString "piece") = some (.str p tp))
    (hks : cs.kind = .function) (hdp : dp + 60 < recursionLimit) (hun : un + 400 < cLine) (htk : tk0 ≤ s.toks)
    (hret : ∀ tl tv sn' h' tk', Fr g' L' h' (fun y => if y = Str.ofString "left" then some (.str (Txt.slice x (some (p.length : Int)) none) tl) else m' y) → News g' L' h' ((sa, listOf (svs ++ [Value.int v tv]).toArray sn') :: TT) → s.toks ≤ tk' → TkOk tk' tl → Qf .next { s with heap := h', toks := tk' }) :
    wpAny (model Challenge.rw_wf0091_01.prog w) ((ktrTop dp un gd cn cs L a ccd cl outer).deeper (envOf (Str.ofString "_law_read") (fnOfStm 79).2.2 L' 233 (.ref 232))) (execs ((bodyIn (fnOfStm 79).2.1 3 1).drop 1) (envOf (Str.ofString "_law_read") (fnOfStm 79).2.2 L' 233 (.ref 232))) Qf E s := by
  with_reducible refine' execs_split (xs := [_, _]) (ys := []) ?q_e ?q_go
  case q_e => exact rfl
  obtain ⟨H, gs, dr, tks, os⟩ := s
  dsimp only at F' N' htk hret
  revert F' N' htk hret
  revert B' X' T'
  k_fill
  intro B' X' T' F' N' htk hret
  have htx1 : TkOk tks tx := htx.mono htk
  have htp1 : TkOk tks tp := htp.mono htk
  have i63 := inlineOk 63
  wrow_steps
  rename News g' L' _ _ => kN
  with_unfolding_all refine' con_use (tk0 := 0) (un0 := 60) (dn := 3) ?q_B ?q_F ?q_X ?q_T ?q_k (contains_tok) ?q_N ?q_hd ?q_hu (Nat.zero_le _) ?_
  case q_B | q_F | q_X | q_T => k_asm
  case q_k => rfl
  case q_N => exact kN
  case q_hd => ktr_room
  case q_hu => (first | ktr_units | ((show un + 3 + _ < cLine); omega))
  intro v9 news9 h9 tk9 F9 N9 hl9 hp9
  (try dsimp only at hl9)
  obtain ⟨rfl, rfl⟩ := hp9
  clear kN
  unfold symOf at hv
  cases hb : tokV p with
  | some u =>
    rw [hb] at hv
    obtain rfl := Option.some.inj hv
    rw [Option.isSome_some]
    wrow_steps
    rename News g' L' _ _ => kN
    with_unfolding_all refine' con_use (tk0 := 0) (un0 := 60) (dn := 3) ?q_B ?q_F ?q_X ?q_T ?q_k (getitem_tok hb) ?q_N ?q_hd ?q_hu (Nat.zero_le _) ?_
    case q_B | q_F | q_X | q_T => k_asm
    case q_k => rfl
    case q_N => exact kN
    case q_hd => ktr_room
    case q_hu => (first | ktr_units | ((show un + 3 + _ < cLine); omega))
    intro v9 news9 h9 tk9 F9 N9 hl9 hp9
    (try dsimp only at hl9)
    obtain ⟨rfl, tv, rfl⟩ := hp9
    clear kN
    wrow_steps
    refine ⟨wpAny_execs_nil ?_⟩
    rename News g' L' _ _ => kN
    rename Fr g' L' _ _ => kF
    rw [List.push_toArray] at kN
    exact hret _ _ _ _ _ kF kN (by omega) (TkOk.mono (by assumption) (by omega))
  | none =>
    rw [hb] at hv
    obtain ⟨k, hk, rfl⟩ := Option.map_eq_some_iff.mp hv
    obtain ⟨c, rfl, hk4, hc1, hc2⟩ := filtAt_spec hk
    rw [Option.isSome_none]
    wrow_steps
    rename News g' L' _ _ => kN
    with_unfolding_all refine' con_use (tk0 := tks) (un0 := 100) (dn := 3) ?q_B ?q_F ?q_X ?q_T ?q_k (index_sign (tk0 := tks) (c := c) (k := k) (by decide +kernel) (by rw [filt_is]; exact hk4) hc1 hc2 htp1.1 htp1.2) ?q_N ?q_hd ?q_hu ?q_tk ?_
    case q_B | q_F | q_X | q_T => k_asm
    case q_k => rfl
    case q_N => exact kN
    case q_hd => ktr_room
    case q_hu => (first | ktr_units | ((show un + 3 + _ < cLine); omega))
    case q_tk => (try dsimp only); omega
    intro v9 news9 h9 tk9 F9 N9 hl9 hp9
    (try dsimp only at hl9)
    obtain ⟨rfl, tv, rfl⟩ := hp9
    clear kN
    wrow_steps
    refine ⟨wpAny_execs_nil ?_⟩
    rename News g' L' _ _ => kN
    rename Fr g' L' _ _ => kF
    rw [List.push_toArray] at kN
    exact hret _ _ _ _ _ kF kN (by omega) (TkOk.mono (by assumption) (by omega))
end
section
inductive LexR : Str → List Int → Prop where
  | nil : LexR ⟨#[]⟩ []
  | cons {x : Str} {v : Int} {l : List Int} : x ≠ ⟨#[]⟩ → symOf (pieceOfS x) = some v → (restS x).length < x.length → LexR (restS x) l → LexR x (v :: l)
noncomputable def WhileJ (sa : Addr) (TT : List (Addr × Obj)) (pre all : List Int) (tk0 : Nat) (n : Nat) (m : Str → Option Value) (news : List (Addr × Obj)) (tk : Nat) : Prop :=
  ∃ (x : Str) (tx : Tok) (done rest : List Int) (svs : List Value) (sn : Nat), n = x.length ∧ LexR x rest ∧ pre ++ all = done ++ rest ∧ IntsV svs done ∧ news = (sa, listOf svs.toArray sn) :: TT ∧ TkOk tk tx ∧ tk0 ≤ tk ∧ m (Str.ofString "left") = some (.str x tx) ∧ m (Str.ofString "symbols") = some (.ref sa) ∧ x.length ≤ 10000
theorem LexR.of_nil {l : List Int} {x : Str} (h : LexR x l) (e : x = ⟨#[]⟩) : l = [] := by
  cases h with
  | nil => rfl
  | cons h _ _ _ => exact absurd e h
theorem LexR.of_ne {l : List Int} {x : Str} (h : LexR x l) (e : x ≠ ⟨#[]⟩) : ∃ v l', l = v :: l' ∧ symOf (pieceOfS x) = some v ∧ (restS x).length < x.length ∧ LexR (restS x) l' := by
  cases h with
  | nil => exact absurd rfl e
  | cons _ a b c => exact ⟨_, _, rfl, a, b, c⟩
set_option maxHeartbeats 4000000 in
theorem read_word {w : World} {sa : Addr} {svs : List Value} {x : Str} {sn tk0 : Nat} {tx : Tok} {TT : List (Addr × Obj)} {pre l : List Int} (hl : LexR x l) (htx : TkOk tk0 tx) (hz : x.length ≤ 10000) (hpl : pre.length + l.length ≤ 10000) (h26 : 2600 ≤ tk0) (hS : IntsV svs pre)
    (B' : Below (ktrTop dp un gd cn cs L a ccd cl outer) base (envX cn cs L a ccd cl :: outer) g') (F' : Fr g' L' s.heap (fun y => if y = Str.ofString "word" then some (.str x tx) else m' y)) (X' : (KK w.params).In g') (T' : Top qv looseL mean mg mb g')
    (N' : News g' L' s.heap ((sa, listOf svs.toArray sn) :: TT)) (ho : ∀ p ∈ TT, p.1 ≠ sa)
    (hm1 : m' (Str.ofString "symbols") = some (.ref sa))
    (hks : cs.kind = .function) (hdp : dp + 60 < recursionLimit) (hun : un + 400 < cLine) (htk : tk0 ≤ s.toks) (hE : PassesOwn (model Challenge.rw_wf0091_01.prog w) ((ktrTop dp un gd cn cs L a ccd cl outer).deeper (envOf (Str.ofString "_law_read") (fnOfStm 79).2.2 L' 233 (.ref 232))) (envOf (Str.ofString "_law_read") (fnOfStm 79).2.2 L' 233 (.ref 232)) E)
    (hret : ∀ svs' sn' h' tk' m'', Fr g' L' h' m'' → News g' L' h' ((sa, listOf svs'.toArray sn') :: TT) → s.toks ≤ tk' → IntsV svs' (pre ++ l) → m'' (Str.ofString "symbols") = some (.ref sa) → Qf .next { s with heap := h', toks := tk' }) :
    wpAny (model Challenge.rw_wf0091_01.prog w) ((ktrTop dp un gd cn cs L a ccd cl outer).deeper (envOf (Str.ofString "_law_read") (fnOfStm 79).2.2 L' 233 (.ref 232))) (execs (bodyAt (fnOfStm 79).2.1 3) (envOf (Str.ofString "_law_read") (fnOfStm 79).2.2 L' 233 (.ref 232))) Qf E s := by
  with_reducible refine' execs_split (xs := [_]) (ys := (bodyAt (fnOfStm 79).2.1 3).drop 1) ?q_e ?q_go
  case q_e => exact rfl
  obtain ⟨H, gs, dr, tks, os⟩ := s
  dsimp only at F' N' htk hret
  revert F' N' htk hret
  revert B' X' T' hE
  k_fill
  intro B' X' T' hE F' N' htk hret
  wrow_steps
  refine ⟨?_⟩
  try dsimp only
  rename News g' L' _ _ => kN
  rename Fr g' L' _ _ => kF
  conv => (arg 3; arg 1; whnf)
  refine wpAny_execs_cons (While_T (WhileJ sa TT pre l tks) (n₀ := x.length) kF kN ?q_J ?q_t hE)
  case q_J =>
    refine ⟨x, tx, pre, l, svs, sn, rfl, hl, rfl, hS, rfl, htx.mono (by (try dsimp only); omega), by (try dsimp only); omega, ?_, ?_, hz⟩
    · with_unfolding_all rfl
    · with_unfolding_all exact hm1
  case q_t =>
    intro n m₁ news₁ h₁ tk₁ F₁ N₁ hJ
    obtain ⟨y, ty, done, rest, svs1, sn1, rfl, hy, hall, hS1, rfl, hty, htk1, g1, g2, hyz⟩ := hJ
    have hempty : Str.ofString "" = ⟨#[]⟩ := by decide +kernel
    refine wpAny_mono (Q := fun b s₂ => b = decide (y ≠ ⟨#[]⟩) ∧ ∃ tk', tk₁ ≤ tk' ∧ s₂ = (⟨h₁, gs, dr, tk', os⟩ : Shared)) ?q_test (fun b s₂ hb => ?q_body) (fun _ _ e => e)
    case q_test =>
      have hlow := tkLow tk₁
      wrow_steps
      · rw [hempty]
        by_cases h : y = ⟨#[]⟩
        · subst h; decide
        · rw [decide_eq_true h]; exact bne_iff_ne.mpr h
      · (try dsimp only); omega
    case q_body =>
      obtain ⟨rfl, tk2, htk2, rfl⟩ := hb
      by_cases hyn : y = ⟨#[]⟩
      · rw [decide_eq_false (fun h => h hyn), if_neg Bool.false_ne_true]
        refine wpAny_execs_nil ?_
        have := hy.of_nil hyn
        subst this
        rw [List.append_nil] at hall
        exact hret _ _ _ _ _ F₁ N₁ (by omega) (hall ▸ hS1) g2
      · rw [decide_eq_true hyn, if_pos rfl]
        obtain ⟨v, rest', rfl, hv, hlt, hr⟩ := hy.of_ne hyn
        have hlen : done.length ≤ 10000 := by
          have := congrArg List.length hall
          simp only [List.length_append] at this
          omega
        refine read2_piece (tk0 := tk₁) hty hyz (by omega) B' F₁ X' T' N₁ g1 hks hdp hun (by (try dsimp only); omega) ?_
        intro tp h3 tk3 F3 N3 htk3 htp hpz
        dsimp only at htk3
        refine ⟨?_⟩
        refine read2_if (tk0 := tk3) (p := pieceOfS y) (v := v) (hty.mono (by omega)) htp hyz (by omega) (by rw [hS1.length]; exact hlen) (by omega) hv B' F3 X' T' N3 ho ?q_1 ?q_2 ?q_3 hks hdp hun (Nat.le_refl _) ?q_r
        case q_1 => with_unfolding_all exact g2
        case q_2 => with_unfolding_all exact g1
        case q_3 => with_unfolding_all rfl
        case q_r =>
          intro tl tv sn4 h4 tk4 F4 N4 htk4 htl
          dsimp only at htk4
          refine ⟨h4, tk4, _, _, (restS y).length, rfl, F4, N4, hlt, restS y, tl, done ++ [v], rest', _, sn4, rfl, hr, by rw [hall]; simp, hS1.snoc, rfl, htl, by omega, ?_, ?_, by omega⟩
          · with_unfolding_all rfl
          · with_unfolding_all exact g2
noncomputable def Read1J (cs : List Nat) (wa : Addr) (T : List (Addr × Obj)) (tk0 : Nat) (i : Nat) (m : Str → Option Value) (news : List (Addr × Obj)) (tk : Nat) : Prop :=
  ∃ (us : List Value) (tc : Tok) (wn : Nat), news = (wa, listOf (us ++ [Value.str (rdAll (cs.take i)).2 tc]).toArray wn) :: T ∧ StrsIn tk us (rdAll (cs.take i)).1 ∧ TkOk tk tc ∧ tk0 ≤ tk ∧ m (Str.ofString "words") = some (.ref wa)
noncomputable def Read2J (outs : List (List Int)) (sa : Addr) (T : List (Addr × Obj)) (tk0 : Nat) (i : Nat) (m : Str → Option Value) (news : List (Addr × Obj)) (tk : Nat) : Prop :=
  ∃ (svs : List Value) (sn : Nat), news = (sa, listOf svs.toArray sn) :: T ∧ IntsV svs (outs.take i).flatten ∧ tk0 ≤ tk ∧ m (Str.ofString "symbols") = some (.ref sa)
theorem rd_len {cs : List Nat} (h : ∀ c ∈ cs, (mapB3 c).length ≤ 4) : ∀ i, i ≤ cs.length → (rdAll (cs.take i)).1.length ≤ i ∧ (rdAll (cs.take i)).2.length ≤ 4 * i
  | 0, _ => by simp [rdAll]; decide
  | i + 1, hi => by
    have ih := rd_len h i (by omega)
    have hg : cs[i]? = some cs[i] := List.getElem?_eq_getElem (by omega)
    rw [List.take_add_one, hg, Option.toList_some, rdAll_snoc]
    have hc := h cs[i] (List.getElem_mem _)
    unfold rdStep
    split
    · refine ⟨by simp only [List.length_append, List.length_singleton]; omega, ?_⟩
      show (0 : Nat) ≤ _
      omega
    · split
      · exact ⟨by omega, by omega⟩
      · refine ⟨by (try dsimp only); omega, ?_⟩
        show ((rdAll (cs.take i)).2 ++ mapB3 cs[i]).length ≤ _
        rw [show ((rdAll (cs.take i)).2 ++ mapB3 cs[i]).length = (rdAll (cs.take i)).2.length + (mapB3 cs[i]).length from Str.length_append _ _]
        omega
theorem swap2 {α : Type} {a b : α} {l : List α} : ∀ p ∈ a :: b :: l, p ∈ b :: a :: l := by
  intro p hp
  simp only [List.mem_cons] at hp ⊢
  rcases hp with h | h | h <;> simp [h]
theorem off_cons {I : Addr} {o : Obj} {D : Addr} {T : List (Addr × Obj)} (h : @Ne Nat I D) (hT : ∀ p ∈ T, p.1 ≠ D) : ∀ p ∈ (I, o) :: T, p.1 ≠ D := by
  intro p hp
  rcases List.mem_cons.mp hp with rfl | hp
  · exact h
  · exact hT p hp
set_option maxHeartbeats 4000000 in
theorem read_loop2 {w : World} {wa sa : Addr} {vs : List Value} {wn tk0 : Nat} {T : List (Addr × Obj)} {ys : List Str} {outs : List (List Int)} (hU : StrsIn tk0 vs ys) (ho : outs.length = ys.length) (hlex : ∀ (i : Nat) (y : Str) (l : List Int), ys[i]? = some y → outs[i]? = some l → LexR y l) (hyz : ∀ y ∈ ys, y.length ≤ 10000) (hlen : outs.flatten.length ≤ 1000) (h26 : 2600 ≤ tk0)
    (hoT : ∀ p ∈ T, p.1 ≠ sa) (hws : @Ne Nat wa sa)
    (B' : Below (ktrTop dp un gd cn cs L a ccd cl outer) base (envX cn cs L a ccd cl :: outer) g') (F' : Fr g' L' s.heap m') (X' : (KK w.params).In g') (T' : Top qv looseL mean mg mb g')
    (N' : News g' L' s.heap ((sa, listOf #[] 0) :: (wa, listOf vs.toArray wn) :: T))
    (hm1 : m' (Str.ofString "words") = some (.ref wa)) (hm2 : m' (Str.ofString "symbols") = some (.ref sa))
    (hks : cs.kind = .function) (hdp : dp + 60 < recursionLimit) (hun : un + 400 < cLine) (htk : tk0 ≤ s.toks)
    (hret : ∀ (ps : List (Int × Tok)) sn' h' tk' m'', Fr g' L' h' m'' → News g' L' h' ((sa, listOf (ps.map intV).toArray sn') :: (wa, listOf vs.toArray wn) :: T) → s.toks ≤ tk' → ps.map (·.1) = outs.flatten → Qf (.ret (.ref sa)) { s with heap := h', toks := tk' }) :
    wpAny (model Challenge.rw_wf0091_01.prog w) ((ktrTop dp un gd cn cs L a ccd cl outer).deeper (envOf (Str.ofString "_law_read") (fnOfStm 79).2.2 L' 233 (.ref 232))) (execs ((fnOfStm 79).2.1.drop 3) (envOf (Str.ofString "_law_read") (fnOfStm 79).2.2 L' 233 (.ref 232))) Qf E s := by
  have hlv := hU.length
  conv => (arg 3; arg 1; whnf)
  refine wpAny_execs_cons (wpAny_For ?_ (fun _ => rfl))
  refine ld F' hm1 ?_
  refine iter_list (h₀ := g') (l := wa) (vs := vs) (nn := wn) rfl rfl rfl (.tail _ (.head _)) F' N' (Read2J outs sa ((wa, listOf vs.toArray wn) :: T) s.toks) ?_ ?_ ?_
  · exact ⟨[], 0, rfl, IntsV.nil, Nat.le_refl _, hm2⟩
  · intro i v m₁ news₁ h tk₁ tk I oI hv hcI htk1 hJ hq1 hq2 F₁ N₁
    obtain ⟨svs, sn, rfl, hS, hk, g2⟩ := hJ
    obtain ⟨ps, hps, hpx, hpt⟩ := hU
    have hv' := hv
    rw [hps, List.getElem?_map] at hv'
    obtain ⟨p, hp, rfl⟩ := Option.map_eq_some_iff.mp hv'
    have hy : ys[i]? = some p.1 := by rw [← hpx, List.getElem?_map, hp]; rfl
    have hi : i < ys.length := (List.getElem?_eq_some_iff.mp hy).1
    have hol : outs[i]? = some outs[i] := List.getElem?_eq_getElem (by omega)
    have hsum : (outs.take i).flatten.length + outs[i].length ≤ 1000 := by
      have e : outs = outs.take i ++ (outs[i] :: outs.drop (i + 1)) := by rw [← List.drop_eq_getElem_cons (by omega), List.take_append_drop]
      have e2 : outs.flatten.length = (outs.take i).flatten.length + (outs[i].length + (outs.drop (i + 1)).flatten.length) := by
        conv => lhs; rw [e]
        rw [List.flatten_append, List.length_append, List.flatten_cons, List.length_append]
      omega
    refine read_word (tk0 := tk0) (pre := (outs.take i).flatten) (l := outs[i]) (TT := (I, oI) :: (wa, listOf vs.toArray wn) :: T) (hlex i _ _ hy hol) (hpt _ (List.mem_of_getElem? hp)) (hyz _ (List.mem_of_getElem? hy)) (by omega) h26 hS B' F₁ X' T' (News.sub N₁ swap2) ?q_o g2 hks hdp hun (by (try dsimp only); omega) ?q_E ?q_r
    case q_o => exact off_cons (fun e => hq1 _ (.head _) e.symm) (off_cons hws hoT)
    case q_E => passes_own
    case q_r =>
      intro svs' sn' h' tk' m'' F2 N2 hle hS2 g3
      dsimp only at hle
      refine ⟨h', tk', m'', (sa, listOf svs'.toArray sn') :: (wa, listOf vs.toArray wn) :: T, rfl, F2, News.sub N2 swap2, ?_, ?_, svs', sn', rfl, ?_, by omega, g3⟩
      · intro q hq
        rcases List.mem_cons.mp hq with rfl | hq
        · exact hq1 (sa, listOf svs.toArray sn) (.head _)
        · exact hq1 q (.tail _ hq)
      · intro q hq
        rw [List.mem_singleton.mp hq]
        exact .tail _ (.head _)
      · rw [List.take_add_one, hol, Option.toList_some, List.flatten_append, List.flatten_singleton]
        exact hS2
  · intro h' tk m'' news' F₁ N₁ hJ
    obtain ⟨svs, sn, rfl, hS, hk, g2⟩ := hJ
    rw [List.take_of_length_le (by omega)] at hS
    obtain ⟨ps, rfl, hps⟩ := hS
    refine wpAny_execs_cons (wpAny_Return_some (ld F₁ g2 ?_))
    exact hret _ _ _ _ _ F₁ N₁ hk hps
theorem rd_words {cs : List Nat} (h : ∀ c ∈ cs, (mapB3 c).length ≤ 4) : ∀ i, i ≤ cs.length → ∀ y ∈ (rdAll (cs.take i)).1, y.length ≤ 4 * i
  | 0, _ => by simp [rdAll]
  | i + 1, hi => by
    have ih := rd_words h i (by omega)
    have hl := (rd_len h i (by omega)).2
    have hg : cs[i]? = some cs[i] := List.getElem?_eq_getElem (by omega)
    rw [List.take_add_one, hg, Option.toList_some, rdAll_snoc]
    unfold rdStep
    split
    · intro y hy
      rcases List.mem_append.mp hy with hy | hy
      · have := ih y hy; omega
      · rw [List.mem_singleton.mp hy]; omega
    · split
      · intro y hy; have := ih y hy; omega
      · intro y hy; have := ih y hy; omega
theorem rd_long {cs : List Nat} (h : ∀ c ∈ cs, (mapB3 c).length ≤ 4) (hl : cs.length ≤ 1000) : ∀ y ∈ (rdAll cs).1 ++ [(rdAll cs).2], y.length ≤ 10000 := by
  have h1 := rd_words h cs.length (Nat.le_refl _)
  have h2 := rd_len h cs.length (Nat.le_refl _)
  rw [List.take_length] at h1 h2
  intro y hy
  rcases List.mem_append.mp hy with hy | hy
  · have := h1 y hy; omega
  · rw [List.mem_singleton.mp hy]; omega
set_option maxHeartbeats 4000000 in
theorem read_mid {w : World} {wa : Addr} {vs : List Value} {wn tk0 : Nat} {T : List (Addr × Obj)} {ys : List Str} {outs : List (List Int)} (hU : StrsIn tk0 vs ys) (ho : outs.length = ys.length) (hlex : ∀ (i : Nat) (y : Str) (l : List Int), ys[i]? = some y → outs[i]? = some l → LexR y l) (hyz : ∀ y ∈ ys, y.length ≤ 10000) (hlen : outs.flatten.length ≤ 1000) (h26 : 2600 ≤ tk0)
    (B' : Below (ktrTop dp un gd cn cs L a ccd cl outer) base (envX cn cs L a ccd cl :: outer) g') (F' : Fr g' L' s.heap m') (X' : (KK w.params).In g') (T' : Top qv looseL mean mg mb g')
    (N' : News g' L' s.heap ((wa, listOf vs.toArray wn) :: T))
    (hm1 : m' (Str.ofString "words") = some (.ref wa))
    (hks : cs.kind = .function) (hdp : dp + 60 < recursionLimit) (hun : un + 400 < cLine) (htk : tk0 ≤ s.toks)
    (hret : ∀ (ps : List (Int × Tok)) sa sn' h' tk' m'', Fr g' L' h' m'' → News g' L' h' ((sa, listOf (ps.map intV).toArray sn') :: (wa, listOf vs.toArray wn) :: T) → s.toks ≤ tk' → ps.map (·.1) = outs.flatten → Qf (.ret (.ref sa)) { s with heap := h', toks := tk' }) :
    wpAny (model Challenge.rw_wf0091_01.prog w) ((ktrTop dp un gd cn cs L a ccd cl outer).deeper (envOf (Str.ofString "_law_read") (fnOfStm 79).2.2 L' 233 (.ref 232))) (execs ((fnOfStm 79).2.1.drop 2) (envOf (Str.ofString "_law_read") (fnOfStm 79).2.2 L' 233 (.ref 232))) Qf E s := by
  with_reducible refine' execs_split (xs := [_]) (ys := (fnOfStm 79).2.1.drop 3) ?q_e ?q_go
  case q_e => exact rfl
  obtain ⟨H, gs, dr, tks, os⟩ := s
  dsimp only at F' N' htk hret
  revert F' N' htk hret
  revert B' X' T'
  k_fill
  intro B' X' T' F' N' htk hret
  wrow_steps
  refine ⟨?_⟩
  try dsimp only
  rename wa < _ ∧ AllLt _ T => hl1
  rename News g' L' _ _ => kN
  rename Fr g' L' _ _ => kF
  refine read_loop2 hU ho hlex hyz hlen h26 (off_of_lt hl1.2) (Nat.ne_of_lt hl1.1) B' kF X' T' kN (by with_unfolding_all exact hm1) (by with_unfolding_all rfl) hks hdp hun (by (try dsimp only); omega) ?_
  intro ps sn' h' tk' m'' F2 N2 hle hps
  dsimp only at hle
  exact hret _ _ _ _ _ _ F2 N2 (by omega) hps
set_option maxHeartbeats 4000000 in
theorem read_loop1 {w : World} {wa : Addr} {x : Str} {tx t0 : Tok} {tk0 : Nat} {T : List (Addr × Obj)} {outs : List (List Int)} (hx : x.cps.size ≤ 1000) (hc : ∀ c ∈ x.cps.toList, (mapB3 c).length ≤ 4) (ho : outs.length = (rdAll x.cps.toList).1.length + 1)
    (hlex : ∀ (i : Nat) (y : Str) (l : List Int), ((rdAll x.cps.toList).1 ++ [(rdAll x.cps.toList).2])[i]? = some y → outs[i]? = some l → LexR y l) (hlen : outs.flatten.length ≤ 1000) (h26 : 2600 ≤ tk0)
    (ht0 : TkOk tk0 t0) (hyz : ∀ y ∈ (rdAll x.cps.toList).1 ++ [(rdAll x.cps.toList).2], y.length ≤ 10000) (hoT : ∀ p ∈ T, p.1 < wa)
    (B' : Below (ktrTop dp un gd cn cs L a ccd cl outer) base (envX cn cs L a ccd cl :: outer) g') (F' : Fr g' L' s.heap m') (X' : (KK w.params).In g') (T' : Top qv looseL mean mg mb g')
    (N' : News g' L' s.heap ((wa, listOf #[Value.str (Str.ofString "") t0] 0) :: T))
    (hm1 : m' (Str.ofString "words") = some (.ref wa)) (hm2 : m' (Str.ofString "text") = some (.str x tx))
    (hks : cs.kind = .function) (hdp : dp + 60 < recursionLimit) (hun : un + 400 < cLine) (htk : tk0 ≤ s.toks)
    (hret : ∀ (ps : List (Int × Tok)) sa sn' (vs : List Value) wn h' tk' m'', Fr g' L' h' m'' → News g' L' h' ((sa, listOf (ps.map intV).toArray sn') :: (wa, listOf vs.toArray wn) :: T) → s.toks ≤ tk' → ps.map (·.1) = outs.flatten → Qf (.ret (.ref sa)) { s with heap := h', toks := tk' }) :
    wpAny (model Challenge.rw_wf0091_01.prog w) ((ktrTop dp un gd cn cs L a ccd cl outer).deeper (envOf (Str.ofString "_law_read") (fnOfStm 79).2.2 L' 233 (.ref 232))) (execs ((fnOfStm 79).2.1.drop 1) (envOf (Str.ofString "_law_read") (fnOfStm 79).2.2 L' 233 (.ref 232))) Qf E s := by
  have hempty : Str.ofString "" = ⟨#[]⟩ := by decide +kernel
  conv => (arg 3; arg 1; whnf)
  refine wpAny_execs_cons (wpAny_For ?_ (fun _ => rfl))
  refine ld F' hm2 ?_
  refine iter_str (h₀ := g') (z := x) rfl rfl rfl F' N' (Read1J x.cps.toList wa T s.toks) ?_ ?_ ?_
  · exact ⟨[], t0, 0, by rw [hempty]; rfl, StrsIn.nil, ht0.mono htk, Nat.le_refl _, hm1⟩
  · intro i c m₁ news₁ h tk₁ tk I oI hci hcI htk1 hJ hq1 F₁ N₁
    obtain ⟨us, tc, wn, rfl, hU, htc, hk, g2⟩ := hJ
    have hi : i < x.cps.size := (Array.getElem?_eq_some_iff.mp hci).1
    have hci' : x.cps.toList[i]? = some c := by rw [Array.getElem?_toList]; exact hci
    have hl := rd_len hc i (by rw [Array.length_toList]; omega)
    refine read1_turn (I := I) (oI := oI) (tk0 := tk₁) (c := c) (TT := (I, oI) :: T) (z := rdAll (x.cps.toList.take i)) hU htc (by omega) (by omega) (by omega) (hc c (List.mem_of_getElem? hci')) B' F₁ X' T' (News.sub N₁ swap2) ?q_o g2 hks hdp hun (by (try dsimp only); omega) ?q_r
    case q_o => exact off_cons (fun e => hq1 _ (.head _) e.symm) (fun p hp => Nat.ne_of_lt (hoT p hp))
    case q_r =>
      intro us' tc' wn' h' tk' m'' F2 N2 hle hU2 htc2 g3
      dsimp only at hle
      have e : rdAll (x.cps.toList.take (i + 1)) = rdStep (rdAll (x.cps.toList.take i)) c := by rw [List.take_add_one, hci', Option.toList_some, rdAll_snoc]
      refine ⟨h', tk', m'', (wa, _) :: T, rfl, F2, News.sub N2 swap2, ?_, (fun q hq => nomatch hq), us', tc', wn', by rw [e], by rw [e]; exact hU2, htc2, by omega, g3⟩
      intro q hq
      rcases List.mem_cons.mp hq with rfl | hq
      · exact hq1 (wa, listOf (us ++ [Value.str (rdAll (x.cps.toList.take i)).2 tc]).toArray wn) (.head _)
      · exact hq1 q (.tail _ hq)
  · intro h' tk m'' news' F₁ N₁ hJ
    obtain ⟨us, tc, wn, rfl, hU, htc, hk, g2⟩ := hJ
    rw [List.take_of_length_le (by rw [Array.length_toList]; omega)] at hU N₁
    try dsimp only
    refine read_mid (tk0 := tk) (ys := (rdAll x.cps.toList).1 ++ [(rdAll x.cps.toList).2]) (hU.snoc htc) (by rw [ho]; simp) hlex hyz hlen (by omega) B' F₁ X' T' N₁ g2 hks hdp hun (Nat.le_refl _) ?_
    intro ps sa sn' h' tk' m'' F2 N2 hle hps
    dsimp only at hle
    exact hret _ _ _ _ _ _ _ _ F2 N2 (by omega) hps
set_option maxHeartbeats 4000000 in
theorem read_con {w : World} {x : Str} {tx : Tok} {T : List (Addr × Obj)} {tk0 : Nat} {outs : List (List Int)} (hx : x.cps.size ≤ 1000) (hc : ∀ c ∈ x.cps.toList, (mapB3 c).length ≤ 4) (ho : outs.length = (rdAll x.cps.toList).1.length + 1)
    (hlex : ∀ (i : Nat) (y : Str) (l : List Int), ((rdAll x.cps.toList).1 ++ [(rdAll x.cps.toList).2])[i]? = some y → outs[i]? = some l → LexR y l) (hlen : outs.flatten.length ≤ 1000) (h26 : 2600 ≤ tk0) :
    Con w 233 [.str x tx] 100 1000 tk0 T (fun r news' _ => ∃ (sa : Addr) (ps : List (Int × Tok)) (sn : Nat) (tl : List (Addr × Obj)), r = .ref sa ∧ news' = (sa, listOf (ps.map intV).toArray sn) :: (tl ++ T) ∧ ps.map (·.1) = outs.flatten) := by
  unfold Con
  k_fill
  intro mean mg mb dp un gd cn cs a ccd cl outer A₀ base h₀ L m s Q E B F X N T' hks hdp hun htk hret
  refine wpAny_with_toks (Nat.le_refl _) ?_
  refine wpAny_call ?_
  refine code_def (name := Str.ofString "_law_read") (params := (fnOfStm 79).1) (body := (fnOfStm 79).2.1) (scope := (fnOfStm 79).2.2) (cdv := .ref 232) (binds := [(Str.ofString "text", .str x tx)]) B F X N T' rfl rfl hks (by k_is) (by k_is) (by ktr_room) (BindsTo.of_eq rfl) (locs rfl) ?_ rfl rfl rfl (by decide)
  intro g' L' h' FG' F' N' B' X' T''
  with_reducible refine' execs_split (xs := [_]) (ys := (fnOfStm 79).2.1.drop 1) ?q_e ?q_go
  case q_e => exact rfl
  wrow_steps
  refine ⟨?_⟩
  try dsimp only
  rename ∀ p ∈ T, _ => hTl
  rename s.toks + _ ≤ _ => hk1
  have hk2 := Nat.le_trans (Nat.le_add_right _ _) hk1
  rename News g' L' _ _ => kN
  rename Fr g' L' _ _ => kF
  refine read_loop1 hx hc ho hlex hlen ?q_h ?q_t ?q_y hTl B' kF X' T'' kN (by with_unfolding_all rfl) (by with_unfolding_all rfl) hks (by omega) (by omega) (Nat.le_refl _) ?q_r
  case q_h => (try dsimp only); omega
  case q_t => exact (TkOk.above (n := s.toks) (by omega) (by omega)).mono (by (try dsimp only); omega)
  case q_y => exact rd_long hc (by rw [Array.length_toList]; exact hx)
  case q_r =>
    intro ps sa sn' vs wn h9 tk9 m'' F9 N9 hle hps
    dsimp only at hle
    wrow_steps
    rename News h₀ L _ _ => kN
    rename Fr h₀ L _ _ => kF
    exact hret _ _ _ _ kF kN (by omega) ⟨sa, ps, sn', [(_, _)], rfl, rfl, hps⟩
end
section
noncomputable def hidL : List Int := [173, 847, 6150, 6155, 6156, 6157, 8203, 8204, 8205, 8288, 65279] ++ rangeInts 65024 1 (65040 - 65024 : Int).toNat
theorem hid_lt (n : Int) : (n.fmod 28 - 1).toNat < hidL.length := by
  have h1 := Int.fmod_lt_of_pos n (show (0 : Int) < 28 by decide)
  have hlen : hidL.length = 27 := by decide +kernel
  omega
noncomputable def hidS (n : Int) : Str := if n.fmod 28 = 0 then ⟨#[]⟩ else ⟨#[(hidL.getD (n.fmod 28 - 1).toNat 0).toNat]⟩
noncomputable def startL : List Int := [119808, 119860, 119912, 120016, 120172, 120224, 120276, 120328, 120380, 120432]
noncomputable def spellS (c : Nat) (n : Int) : Str := if n.fmod 12 = 0 then ⟨#[c]⟩ else if n.fmod 12 = 1 then ⟨#[((c : Int) - 32).toNat]⟩ else ⟨#[(startL.getD (n.fmod 12 - 2).toNat 0 + (c : Int) - 97).toNat]⟩
theorem ints_at : ∀ {vs : List Value} {ns : List Int}, IntsAre vs ns → ∀ i, i < ns.length → ∃ t, vs[i]? = some (.int (ns.getD i 0) t) := by
  intro vs ns h
  induction h with
  | nil => exact fun i h => absurd h (Nat.not_lt_zero _)
  | cons n t _ ih =>
    intro i h
    cases i with
    | zero => exact ⟨t, rfl⟩
    | succ i => exact ih i (by simpa using h)
theorem hid_bound : ∀ k, 0 ≤ hidL.getD k 0 ∧ hidL.getD k 0 ≤ 1114111 := by
  intro k
  have h : ∀ x ∈ hidL, 0 ≤ x ∧ x ≤ 1114111 := by decide +kernel
  by_cases hk : k < hidL.length
  · rw [List.getD_eq_getElem?_getD, List.getElem?_eq_getElem hk]; exact h _ (List.getElem_mem _)
  · rw [List.getD_eq_getElem?_getD, List.getElem?_eq_none (by omega)]; decide
theorem start_bound : ∀ k, 0 ≤ startL.getD k 0 ∧ startL.getD k 0 ≤ 120432 := by
  intro k
  have h : ∀ x ∈ startL, 0 ≤ x ∧ x ≤ 120432 := by decide +kernel
  by_cases hk : k < startL.length
  · rw [List.getD_eq_getElem?_getD, List.getElem?_eq_getElem hk]; exact h _ (List.getElem_mem _)
  · rw [List.getD_eq_getElem?_getD, List.getElem?_eq_none (by omega)]; decide
theorem fmod_bound (n : Int) {k : Int} (hk : 0 < k) : 0 ≤ n.fmod k ∧ n.fmod k < k := ⟨Int.fmod_nonneg_of_pos n hk, Int.fmod_lt_of_pos n hk⟩
set_option maxHeartbeats 4000000 in
theorem unseen_con {w : World} {news : List (Addr × Obj)} {n : Int} {t : Tok} {tk0 : Nat} (h0 : 0 ≤ n) (h1 : n ≤ 100000) (h26 : 2600 ≤ tk0) : Con w 214 [.int n t] 10 200 tk0 news (fun r news' tk' => (∃ tl, news' = tl ++ news) ∧ ∃ t', r = .str (hidS n) t' ∧ TkOk tk' t') := by
  unfold Con
  k_fill
  intro mean mg mb dp un gd cn cs a ccd cl outer A₀ base h₀ L m s Q E B F X N T' hks hdp hun htk hret
  refine wpAny_with_toks (Nat.le_refl _) ?_
  refine wpAny_call ?_
  refine code_def (name := Str.ofString "_law_unseen") (params := (fnOfStm 76).1) (body := (fnOfStm 76).2.1) (scope := (fnOfStm 76).2.2) (cdv := .ref 213) (binds := [(Str.ofString "which", .int n t)]) B F X N T' rfl rfl hks (by k_is) (by k_is) (by ktr_room) (BindsTo.of_eq rfl) (locs rfl) ?_ rfl rfl rfl (by decide)
  intro g' L' h' FG' F' N' B' X' T''
  conv => (arg 3; arg 1; whnf)
  wrow_steps
  · rename s.toks + _ ≤ _ => hk1
    have hk2 := Nat.le_trans (Nat.le_add_right _ _) hk1
    clear hk1
    rename n.fmod 28 = 0 => hn
    rename News h₀ L _ _ => kN
    rename Fr h₀ L _ _ => kF
    have e : hidS n = Str.ofString "" := by rw [hidS, if_pos hn]; decide +kernel
    refine hret _ _ _ _ kF kN (by omega) ⟨⟨[], rfl⟩, _, by rw [e], TkOk.above (n := s.toks) (by omega) (by omega)⟩
  · rename CarriedAll _ _ => hcar
    have hi9 := ints_of_carried hcar
    clear hcar
    rename s.toks + _ ≤ _ => hk1
    have hk2 := Nat.le_trans (Nat.le_add_right _ _) hk1
    clear hk1
    rename n.fmod 28 ≠ 0 => hn
    rename News g' L' _ _ => kN
    rename Fr g' L' _ _ => kF
    rename Heap.IsList _ _ _ => hIL
    refine kmk_add_ints kF kN ⟨_, (kN _ (.head _)).1, rfl, 0, rfl⟩ hIL (by l_ints) hi9 ?_ (by decide +kernel)
    clear hIL hi9
    intro D us h2 F2 N2 l2 hI2
    clear l2
    have hf := fmod_bound n (k := 28) (by decide)
    obtain ⟨t9, h9⟩ := ints_at (show IntsAre us hidL from hI2) (n.fmod 28 - 1).toNat (hid_lt n)
    have hit : ItemAt us (n.fmod 28 - 1) (.int (hidL.getD (n.fmod 28 - 1).toNat 0) t9) := ⟨by omega, by omega, h9⟩
    have hbd := hid_bound (n.fmod 28 - 1).toNat
    have e : hidS n = ⟨#[(hidL.getD (n.fmod 28 - 1).toNat 0).toNat]⟩ := if_neg hn
    generalize hidL.getD (n.fmod 28 - 1).toNat 0 = z at hit hbd e
    clear hI2 h9
    wrow_steps
    rename News h₀ L _ _ => kN
    rename Fr h₀ L _ _ => kF
    rename s.toks ≤ _ => hq
    exact hret _ _ _ _ kF kN hq ⟨⟨[_, _], rfl⟩, _, by rw [e], Nat.succ_ne_zero _, Nat.lt_succ_self _⟩
set_option maxHeartbeats 4000000 in
theorem spelled_con {w : World} {news : List (Addr × Obj)} {n : Int} {c : Nat} {t u : Tok} {tk0 : Nat} (h0 : 0 ≤ n) (h1 : n ≤ 100000) (hc : 97 ≤ c ∧ c ≤ 122) (h26 : 2600 ≤ tk0) (hu : TkOk tk0 u) : Con w 221 [.str ⟨#[c]⟩ u, .int n t] 10 200 tk0 news (fun r news' tk' => (∃ tl, news' = tl ++ news) ∧ ∃ t', r = .str (spellS c n) t' ∧ TkOk tk' t') := by
  unfold Con
  k_fill
  intro mean mg mb dp un gd cn cs a ccd cl outer A₀ base h₀ L m s Q E B F X N T' hks hdp hun htk hret
  refine wpAny_with_toks (Nat.le_refl _) ?_
  refine wpAny_call ?_
  refine code_def (name := Str.ofString "_law_spelled") (params := (fnOfStm 77).1) (body := (fnOfStm 77).2.1) (scope := (fnOfStm 77).2.2) (cdv := .ref 220) (binds := [(Str.ofString "letter", .str ⟨#[c]⟩ u), (Str.ofString "which", .int n t)]) B F X N T' rfl rfl hks (by k_is) (by k_is) (by ktr_room) (BindsTo.of_eq rfl) (locs rfl) ?_ rfl rfl rfl (by decide)
  intro g' L' h' FG' F' N' B' X' T''
  conv => (arg 3; arg 1; whnf)
  wrow_steps
  · rename n.fmod 12 = 0 => hn
    rename s.toks ≤ _ => hq
    rename News h₀ L _ _ => kN
    rename Fr h₀ L _ _ => kF
    exact hret _ _ _ _ kF kN hq ⟨⟨[], rfl⟩, _, by rw [spellS, if_pos hn], hu.mono (Nat.le_trans htk hq)⟩
  · rename n.fmod 12 ≠ 0 => hn
    rename n.fmod 12 = 1 => hn2
    rename s.toks ≤ _ => hq
    rename News h₀ L _ _ => kN
    rename Fr h₀ L _ _ => kF
    exact hret _ _ _ _ kF kN hq ⟨⟨[], rfl⟩, _, by rw [spellS, if_neg hn, if_pos hn2], Nat.succ_ne_zero _, Nat.lt_succ_self _⟩
  · rename n.fmod 12 ≠ 1 => hn2
    rename n.fmod 12 ≠ 0 => hn
    have hbd := start_bound (n.fmod 12 - 2).toNat
    have e : spellS c n = ⟨#[(startL.getD (n.fmod 12 - 2).toNat 0 + (c : Int) - 97).toNat]⟩ := by rw [spellS, if_neg hn, if_neg hn2]
    have hz : [119808, 119860, 119912, 120016, 120172, 120224, 120276, 120328, 120380, 120432].getD (n.fmod 12 - 2).toNat 0 = startL.getD (n.fmod 12 - 2).toNat 0 := rfl
    rw [hz]
    clear hz
    generalize startL.getD (n.fmod 12 - 2).toNat 0 = z at hbd e
    wrow_steps
    rename News h₀ L _ _ => kN
    rename Fr h₀ L _ _ => kF
    rename s.toks ≤ _ => hq
    exact hret _ _ _ _ kF kN hq ⟨⟨[_], rfl⟩, _, by rw [e], Nat.succ_ne_zero _, Nat.lt_succ_self _⟩
end
local macro_rules | `(tactic| walk_at "is") => `(tactic| first | with_reducible assumption | with_unfolding_all assumption | with_unfolding_all rfl)
local macro_rules | `(tactic| walk_at "eval Name") => `(tactic| (k_here; name_kind "local"; k_dflt (refine' nameX_L (by k_asm) (by walk_at "is") ?_ (by rfl) (by rfl) (by decide); k_whole)))
local macro_rules | `(tactic| walk_at "subscriptTail Name Slice str ref") => `(tactic| (k_here; (with_reducible rename Fr _ _ _ _ => F9); (with_reducible rename News _ _ _ _ => N9); refine' slice_ns_T (s := ⟨_, _, _, _, _⟩) F9 N9 ?_ ?_ ?_; walk_at "sl"))
local macro_rules | `(tactic| walk_at "subscriptTail Name Slice str ref") => `(tactic| (k_here; (with_reducible rename Fr _ _ _ _ => F9); (with_reducible rename News _ _ _ _ => N9); refine' slice_sn_T (s := ⟨_, _, _, _, _⟩) F9 N9 ?_ ?_ ?_; walk_at "sl"))
local macro_rules | `(tactic| walk_at "mk") => `(tactic| first | with_reducible exact kmk_from (by l_ints) (by omega) | with_reducible exact kmk_run (by l_ints) (by omega) (by omega) | with_reducible exact kmk_upto (by l_ints) (by omega))
local macro_rules | `(tactic| walk_at "subscriptTail Name Slice ref ref") => `(tactic| (k_here; (with_reducible show wpAny _ _ (subscriptTail _ (PySem.Expr.Slice _ _ none _) _ _) _ _ _); k_dflt (refine' kmk_slice_ints (by k_asm) (by k_asm) (by kmk_list) (by kmk_part) (by kmk_part) (by l_ints) (by walk_at "mk") (by kmk_len) ?_ (by with_unfolding_all rfl) (by kmk_pure) (by kmk_size)); intro D9 ws9 h9 F9 N9 l9 hI9 hC9 hL9; (try k_lt l9)))
local macro_rules | `(tactic| walk_at "eval Name") => `(tactic| (k_here; name_kind "cell"; k_dflt (refine' nameX_C (by k_asm) (by rfl) (by k_mem) (by k_asm) ?_ (by rfl) (by rfl); k_whole)))
section
noncomputable def ConS (w : World) (scr : Addr) (its : List Value) (f : Addr) (vs : List Value) (dn un0 tk0 : Nat) (news : List (Addr × Obj)) (post : Value → List (Addr × Obj) → Nat → Prop) : Prop :=
  ∀ (mean : ExcName → Option Value) (mg mb : Str → Option Value) (dp un : Nat) (gd : Option (List Code)) (cn : Str) (cs : Scope) (a : Addr) (ccd : Value) (cl : List (Str × Addr)) (outer : List Env) (A₀ : Around) (base h₀ : Heap) (L : Addr) (m : Str → Option Value) (s : Shared) (Q E : Value → Shared → Prop),
    Below A₀ base outer h₀ → Fr h₀ L s.heap m → (KK w.params).In h₀ → News h₀ L s.heap news → Top qv looseL mean mg mb h₀ → cs.kind = .function → dp + dn < recursionLimit → un + un0 < cLine → tk0 ≤ s.toks → h₀.IsList scr its.toArray →
    (∀ r news' h' tk', Fr h₀ L h' m → News h₀ L h' news' → s.toks ≤ tk' → post r news' tk' → Q r { s with heap := h', toks := tk' }) →
    wpAny (model Challenge.rw_wf0091_01.prog w) (ktrTop dp un gd cn cs L a ccd cl outer) (call (.ref f) vs) Q E s
theorem loadX_L {M : Model} {A : Around} {E : Value → Shared → Prop} {s : Shared} {h₀ : Heap} {L a : Addr} {m : Str → Option Value} {cn : Str} {cs : Scope} {ccd : Value} {cl : List (Str × Addr)} {x : Str} {v : Value} {Q : Value → Shared → Prop} (F : Fr h₀ L s.heap m) (hv : m x = some v) (h : Q v s)
    (hk : cs.kind = .function := by rfl) (hx : (envX cn cs L a ccd cl).kindOf x = some .local := by rfl) :
    wpAny M A (loadName (envX cn cs L a ccd cl) x) Q E s := wpAny_loadName_local hk hx F.ns hv h
theorem len_at {prog : Program} {w : World} {A : Around} {E : Value → Shared → Prop} {s : Shared} {h₀ : Heap} {L l : Addr} {news : List (Addr × Obj)} {us : List Value} {n : Nat} {Q : Value → Shared → Prop} (N : News h₀ L s.heap news) (hm : (l, listOf us.toArray n) ∈ news) (hz : us.length ≤ 100000)
    (h : Q (.int us.length (s.toks + 1)) { s with toks := s.toks + 1 + 1 }) : wpAny (model prog w) A (call (.builtin "len") [.ref l]) Q E s :=
  PySem.Calls.call_len_list ⟨_, (N _ hm).1, rfl, n, rfl⟩ (by simp; omega) (by simpa using h)
local macro_rules | `(tactic| walk_at "mk") => `(tactic| first | with_reducible exact kmk_from (by l_ints) (by omega) | with_reducible exact kmk_run (by l_ints) (by omega) (by omega) | with_reducible exact kmk_upto (by l_ints) (by omega))
local macro_rules | `(tactic| walk_at "subscriptTail Name Slice ref ref") => `(tactic| (k_here; (with_reducible show wpAny _ _ (subscriptTail _ (PySem.Expr.Slice _ _ none _) _ _) _ _ _); k_dflt (refine' kmk_slice_ints (by k_asm) (by k_asm) (by kmk_list) (by kmk_part) (by kmk_part) (by l_ints) (by walk_at "mk") (by kmk_len) ?_ (by with_unfolding_all rfl) (by kmk_pure) (by kmk_size)); intro D9 ws9 h9 F9 N9 l9 hI9 hC9 hL9; (try k_lt l9)))
local macro_rules | `(tactic| walk_at "binaryOp Add ref ref") => `(tactic| (k_here; (with_reducible refine Stop.out ?_)))
local macro_rules | `(tactic| walk_at "call builtin:len") => `(tactic| (k_here; k_dflt (refine' len_at (by k_asm) (by k_mem) (by omega) ?_)))
noncomputable abbrev drEnv (L' : Addr) : Env := envOfC (Str.ofString "_law_drawn") (fnOfStm 78).2.2 L' 226 (.ref 225)
set_option maxHeartbeats 4000000 in
theorem drawn_b {w : World} {nl : Addr} {ys : List Value} {yn tk0 : Nat} {zs : List Int} {TT : List (Addr × Obj)} (hi : IntsAre ys zs) (hz : zs.length ≤ 6) (h26 : 2600 ≤ tk0)
    (B' : Below (ktrTop dp un gd cn cs L a ccd cl outer) base (envX cn cs L a ccd cl :: outer) g') (F' : Fr g' L' s.heap m') (X' : (KK w.params).In g') (T' : Top qv looseL mean mg mb g')
    (N' : News g' L' s.heap ((nl, listOf ys.toArray yn) :: TT))
    (hm1 : m' (Str.ofString "numbers") = some (.ref nl))
    (hks : cs.kind = .function) (hdp : dp + 60 < recursionLimit) (hun : un + 400 < cLine) (htk : tk0 ≤ s.toks)
    (hret : ∀ nl' ys' tl h' tk' m'', Fr g' L' h' m'' → News g' L' h' ((nl', listOf ys'.toArray 0) :: (tl ++ (nl, listOf ys.toArray yn) :: TT)) → s.toks ≤ tk' → IntsAre ys' (zs ++ ([236, 385, 978, 9, 11, 14] : List Int).drop zs.length) → m'' = (fun y => if y = Str.ofString "numbers" then some (.ref nl') else m' y) → (∀ p ∈ (nl, listOf ys.toArray yn) :: TT, p.1 < nl') → Stop (wpAny (model Challenge.rw_wf0091_01.prog w) ((ktrTop dp un gd cn cs L a ccd cl outer).deeper (drEnv L')) (execs ((fnOfStm 78).2.1.drop 2) (drEnv L')) Qf E { s with heap := h', toks := tk' })) :
    wpAny (model Challenge.rw_wf0091_01.prog w) ((ktrTop dp un gd cn cs L a ccd cl outer).deeper (drEnv L')) (execs ((fnOfStm 78).2.1.drop 1) (drEnv L')) Qf E s := by
  with_reducible refine' execs_split (xs := [_]) (ys := (fnOfStm 78).2.1.drop 2) ?q_e ?q_go
  case q_e => exact rfl
  obtain ⟨H, gs, dr, tks, os⟩ := s
  dsimp only at F' N' htk hret
  revert F' N' htk hret
  revert B' X' T'
  k_fill
  intro B' X' T' F' N' htk hret
  have hyl : ys.length = zs.length := hi.length
  wrow_steps
  refine ⟨?_⟩
  rename IntsAre _ (List.drop _ _) => hd
  rename _ < _ ∧ nl < _ ∧ AllLt _ TT => l2
  rename News g' L' _ _ => kN
  rename Fr g' L' _ _ => kF
  refine kmk_add_ints kF kN ⟨_, (kN _ (.tail _ (.tail _ (.head _)))).1, rfl, yn, rfl⟩ ⟨_, (kN _ (.head _)).1, rfl, 0, rfl⟩ hi hd ?_ ?_
  · intro D us h2 F2 N2 l3 hI2
    clear hd
    have l4 : ∀ p ∈ (nl, listOf ys.toArray yn) :: TT, p.1 < D := fun p hp => l3 p (.tail _ (.tail _ hp))
    clear l3 l2
    wrow_steps
    rename News g' L' _ _ => kN
    rename Fr g' L' _ _ => kF
    refine hret _ _ [] _ _ _ kF (News.sub kN ?_) (by omega) (by rw [← hyl]; exact hI2) rfl l4
    intro p hp
    rcases List.mem_cons.mp hp with rfl | hp
    · exact .head _
    · rcases List.mem_append.mp hp with hp | hp
      · exact absurd hp (List.not_mem_nil)
      · exact .tail _ (.tail _ (.tail _ hp))
  · show zs.length + (List.drop _ _).length ≤ _
    rw [List.length_drop]
    rw [sizeLine_eq]
    simp only [List.length_cons, List.length_nil]
    omega
end
local macro_rules | `(tactic| walk_at "call builtin:len") => `(tactic| (k_here; k_dflt (refine' len_at (by k_asm) (by k_mem) (by omega) ?_)))
local macro_rules | `(tactic| walk_at "loadName") => `(tactic| (k_here; k_dflt (refine' loadX_L (by k_asm) (by walk_at "is") ?_ (by rfl) (by rfl); k_whole)))
section
noncomputable def TabIn (T : List (Addr × Obj)) (v : Value) (tb : List Int) : Prop := ∃ (a : Addr) (n : Nat) (ps : List (Int × Tok)), v = .ref a ∧ (a, listOf (ps.map intV).toArray n) ∈ T ∧ ps.map (·.1) = tb
theorem TabIn.mono {T T' : List (Addr × Obj)} {v : Value} {tb : List Int} (h : TabIn T v tb) (hT : ∀ p ∈ T, p ∈ T') : TabIn T' v tb := by obtain ⟨a, n, ps, h1, h2, h3⟩ := h; exact ⟨a, n, ps, h1, hT _ h2, h3⟩
noncomputable def casesL : List (Str × List Int) := [(Str.ofString "f", [0, 0, 0, 0, 0, 0, 0, 0, 1, 1, 1, 1, 1, 1, 1, 1]), (Str.ofString "i", [0, 0, 0, 0, 1, 1, 1, 1, 0, 0, 0, 0, 1, 1, 1, 1]), (Str.ofString "l", [0, 0, 1, 1, 0, 0, 1, 1, 0, 0, 1, 1, 0, 0, 1, 1]), (Str.ofString "t", [0, 1, 0, 1, 0, 1, 0, 1, 0, 1, 0, 1, 0, 1, 0, 1])]
noncomputable def CasesOk (w : World) (T : List (Addr × Obj)) (dc : Addr) : Prop := ∃ (od : Obj) (kvs : List (Str × Value)), (dc, od) ∈ T ∧ od.IsDictOf (PySem.strKind Challenge.rw_wf0091_01.prog w) kvs ∧ ∀ p ∈ casesL, ∃ v, valueAt kvs p.1 = some v ∧ TabIn T v p.2
theorem CasesOk.mono {w : World} {T T' : List (Addr × Obj)} {dc : Addr} (h : CasesOk w T dc) (hT : ∀ p ∈ T, p ∈ T') : CasesOk w T' dc :=
  by obtain ⟨od, kvs, h1, h2, h3⟩ := h; exact ⟨od, kvs, hT _ h1, h2, fun p hp => by obtain ⟨v, h4, h5⟩ := h3 p hp; exact ⟨v, h4, h5.mono hT⟩⟩
theorem mem_mid {α : Type} {c : α} {tl T : List α} : ∀ p ∈ c :: (tl ++ T), p ∈ tl ++ (c :: T) := by
  intro p hp
  simp only [List.mem_cons, List.mem_append] at hp ⊢
  rcases hp with h | h | h <;> simp [h]
theorem mem_mid2 {α : Type} {c d : α} {tl T : List α} : ∀ p ∈ c :: d :: (tl ++ T), p ∈ tl ++ (c :: d :: T) := by
  intro p hp
  rcases List.mem_cons.mp hp with rfl | hp
  · exact List.mem_append_right _ (.head _)
  · rcases List.mem_cons.mp hp with rfl | hp
    · exact List.mem_append_right _ (.tail _ (.head _))
    · exact (List.mem_append.mp hp).elim (List.mem_append_left _) fun h => List.mem_append_right _ (.tail _ (.tail _ h))
noncomputable def Makes (w : World) (A : Around) (env : Env) (E : Value → Shared → Prop) (g : Heap) (L : Addr) (m : Str → Option Value) (e : PySem.Expr) (xs : List Int) : Prop :=
  ∀ (s : Shared) (TT : List (Addr × Obj)) (Q : Value → Shared → Prop), Fr g L s.heap m → News g L s.heap TT →
    (∀ D tl h' tk', Fr g L h' m → News g L h' (tl ++ TT) → s.toks ≤ tk' → (∃ us n, (D, listOf us.toArray n) ∈ tl ∧ IntsAre us xs) → (∀ p ∈ tl, ∀ q ∈ TT, @LT.lt Nat _ q.1 p.1) → Q (.ref D) { s with heap := h', toks := tk' }) →
    wpAny (model Challenge.rw_wf0091_01.prog w) A (eval e env) Q E s
section
variable {w : World} {A : Around} {env : Env} {E : Value → Shared → Prop} {g : Heap} {L : Addr} {m : Str → Option Value}
theorem makes_list {elts : List PySem.Expr} {pos : Pos} {xs : List Int} (us : Nat → List Value) (hu : ∀ t, IntsAre (us t) xs) (hz : xs.length ≤ sizeLine)
    (hs : ∀ (s : Shared) (Q : List Value → Shared → Prop), Q (us s.toks) { s with toks := s.toks + xs.length } → wpAny (model Challenge.rw_wf0091_01.prog w) A (spliced (backTo pos (starEach elts env))) Q E s) : Makes w A env E g L m (.List elts pos) xs :=
  fun s TT Q F N h => List_ (hs _ _ (newList_K F N (fun l h1 F1 N1 l1 => h l [_] _ _ F1 N1 (Nat.le_add_right _ _) ⟨_, 0, .head _, hu _⟩ (fun p hp q hq => by obtain rfl := List.mem_singleton.mp hp; exact l1 q hq)) (by rw [(hu _).length]; exact hz)))
theorem makes1 {a : Int} {k : Nat} {p pos : Pos} : Makes w A env E g L m (.List [.Constant (.int a) k p] pos) [a] :=
  makes_list (fun t => [.int a t]) (fun t => .cons _ _ .nil) (by rw [sizeLine_eq]; exact Nat.le_of_ble_eq_true rfl) fun s Q h => args_cons (wpAny_Constant_int (args_nil h)) rfl
theorem makes2 {a b : Int} {k k' : Nat} {p p' pos : Pos} : Makes w A env E g L m (.List [.Constant (.int a) k p, .Constant (.int b) k' p'] pos) [a, b] :=
  makes_list (fun t => [.int a t, .int b (t + 1)]) (fun t => .cons _ _ (.cons _ _ .nil)) (by rw [sizeLine_eq]; exact Nat.le_of_ble_eq_true rfl) fun s Q h => args_cons (wpAny_Constant_int (args_cons (wpAny_Constant_int (args_nil h)) rfl)) rfl
theorem makes4 {a b c d : Int} {k k' l l' : Nat} {p p' q q' pos : Pos} : Makes w A env E g L m (.List [.Constant (.int a) k p, .Constant (.int b) k' p', .Constant (.int c) l q, .Constant (.int d) l' q'] pos) [a, b, c, d] :=
  makes_list (fun t => [.int a t, .int b (t + 1), .int c (t + 2), .int d (t + 3)]) (fun t => .cons _ _ (.cons _ _ (.cons _ _ (.cons _ _ .nil)))) (by rw [sizeLine_eq]; exact Nat.le_of_ble_eq_true rfl) fun s Q h => args_cons (wpAny_Constant_int (args_cons (wpAny_Constant_int (args_cons (wpAny_Constant_int (args_cons (wpAny_Constant_int (args_nil h)) rfl)) rfl)) rfl)) rfl
theorem makes_mul {e : PySem.Expr} {xs : List Int} {n : Int} {k : Nat} {p pos : Pos} (he : Makes w A env E g L m e xs) (hn : 0 ≤ n ∧ n ≤ 8) (hx : xs.length ≤ 8) : Makes w A env E g L m (.BinOp e .Mult (.Constant (.int n) k p) pos) (List.replicate n.toNat xs).flatten :=
  fun s TT Q F N h => wpAny_BinOp (he s TT _ F N fun D tl h1 tk1 F1 N1 hk ⟨us, z, hm, hi⟩ ho => wpAny_Constant_int (KM.mul F1 N1 ⟨_, (N1 _ (List.mem_append_left _ hm)).1, rfl, z, rfl⟩ hi (by omega) (by omega)
    (by have h2 : n.toNat ≤ 8 := by omega
        rw [hi.length]; exact Nat.le_trans (Nat.mul_le_mul hx h2) (by decide))
    fun D2 h2 F2 N2 l2 hi2 _ _ _ _ _ => h D2 (_ :: tl) _ _ F2 N2 (Nat.le_trans hk (Nat.le_add_right _ _)) ⟨_, 0, .head _, hi2⟩ fun p hp q hq => by
      rcases List.mem_cons.mp hp with rfl | hp
      · exact l2 q (List.mem_append_right _ hq)
      · exact ho p hp q hq))
theorem makes_add {e f : PySem.Expr} {xs ys : List Int} {pos : Pos} (he : Makes w A env E g L m e xs) (hf : Makes w A env E g L m f ys) (hz : xs.length + ys.length ≤ 100) : Makes w A env E g L m (.BinOp e .Add f pos) (xs ++ ys) :=
  fun s TT Q F N h => wpAny_BinOp (he s TT _ F N fun D tl h1 tk1 F1 N1 hk ⟨us, z, hm, hi⟩ ho => hf _ _ _ F1 N1 fun D2 tl2 h2 tk2 F2 N2 hk2 ⟨vs, z2, hm2, hi2⟩ ho2 =>
    kmk_add_ints F2 N2 ⟨_, (N2 _ (List.mem_append_right _ (List.mem_append_left _ hm))).1, rfl, z, rfl⟩ ⟨_, (N2 _ (List.mem_append_left _ hm2)).1, rfl, z2, rfl⟩ hi hi2
      (fun D3 us3 h3 F3 N3 l3 hi3 => h D3 (_ :: (tl2 ++ tl)) _ _ F3 (by rw [← List.append_assoc] at N3; exact N3) (Nat.le_trans hk hk2) ⟨_, 0, .head _, hi3⟩ fun p hp q hq => by
        rcases List.mem_cons.mp hp with rfl | hp
        · exact l3 q (List.mem_append_right _ (List.mem_append_right _ hq))
        · rcases List.mem_append.mp hp with hp | hp
          · exact ho2 p hp q (List.mem_append_right _ hq)
          · exact ho p hp q hq) (by rw [sizeLine_eq]; omega))
end
theorem ints_pair {vs : List Value} {ns : List Int} (h : IntsAre vs ns) : ∃ ps : List (Int × Tok), vs = ps.map intV ∧ ps.map (·.1) = ns := by
  induction h with
  | nil => exact ⟨[], rfl, rfl⟩
  | cons x t _ ih => obtain ⟨ps, rfl, rfl⟩ := ih; exact ⟨(x, t) :: ps, rfl, rfl⟩
theorem tab_ints {T : List (Addr × Obj)} {a : Addr} {xs : List Int} (h : ∃ us n, (a, listOf us.toArray n) ∈ T ∧ IntsAre us xs) : TabIn T (.ref a) xs := by
  obtain ⟨us, n, hm, hi⟩ := h
  obtain ⟨ps, rfl, h2⟩ := ints_pair hi
  exact ⟨a, n, ps, rfl, hm, h2⟩
local macro_rules | `(tactic| walk_at "no row") => `(tactic| skip)
local macro_rules | `(tactic| walk_at "none") => `(tactic| skip)
local macro_rules | `(tactic| walk_at "eval BinOp") => `(tactic| (k_here; with_reducible refine Stop.out ?_))
set_option maxHeartbeats 4000000 in
theorem drawn_c {w : World} {oC : Obj} {v0 : Option Value} {tk0 : Nat} {TT : List (Addr × Obj)} (hoC : oC.data = .cell v0) (h26 : 2600 ≤ tk0)
    (B' : Below (ktrTop dp un gd cn cs L a ccd cl outer) base (envX cn cs L a ccd cl :: outer) g') (F' : Fr g' L' s.heap m') (X' : (KK w.params).In g') (T' : Top qv looseL mean mg mb g')
    (N' : News g' L' s.heap ((L' + 1, oC) :: TT)) (hT : ∀ p ∈ TT, p.1 ≠ L' + 1)
    (hks : cs.kind = .function) (hdp : dp + 60 < recursionLimit) (hun : un + 400 < cLine) (htk : tk0 ≤ s.toks)
    (hret : ∀ dc oC' tl h' tk', Fr g' L' h' m' → News g' L' h' ((L' + 1, oC') :: (tl ++ TT)) → s.toks ≤ tk' → oC'.data = .cell (some (.ref dc)) → CasesOk w tl dc → (∀ p ∈ tl, (L' : Nat) + 1 < p.1 ∧ ∀ q ∈ TT, @LT.lt Nat _ q.1 p.1) → Stop (wpAny (model Challenge.rw_wf0091_01.prog w) ((ktrTop dp un gd cn cs L a ccd cl outer).deeper (drEnv L')) (execs ((fnOfStm 78).2.1.drop 3) (drEnv L')) Qf E { s with heap := h', toks := tk' })) :
    wpAny (model Challenge.rw_wf0091_01.prog w) ((ktrTop dp un gd cn cs L a ccd cl outer).deeper (drEnv L')) (execs ((fnOfStm 78).2.1.drop 2) (drEnv L')) Qf E s := by
  with_reducible refine' execs_split (xs := [_]) (ys := (fnOfStm 78).2.1.drop 3) ?q_e ?q_go
  case q_e => exact rfl
  obtain ⟨H, gs, dr, tks, os⟩ := s
  dsimp only at F' N' htk hret
  revert F' N' htk hret
  revert B' X' T'
  k_fill
  intro B' X' T' F' N' htk hret
  wrow_steps
  rename_i d0 h0 o0 kF kN lo0 hd0 l1
  refine ⟨?_⟩
  refine makes_add (makes_mul makes1 (by decide) (by decide)) (makes_mul makes1 (by decide) (by decide)) (by decide) _ _ _ kF kN ?_
  intro d1 t1 h1 k1 F1 N1 hk1 hi1 ho1
  replace N1 := News.sub (l' := (_, _) :: (L' + 1, oC) :: (t1 ++ TT)) N1 mem_mid2
  clear kN kF
  dsimp only at hk1 ⊢
  k_steps
  rename News g' L' _ _ => kN
  rename Fr g' L' _ _ => kF
  refine ⟨?_⟩
  refine makes_mul (makes_add (makes_mul makes1 (by decide) (by decide)) (makes_mul makes1 (by decide) (by decide)) (by decide)) (by decide) (by decide) _ _ _ kF kN ?_
  intro d2 t2 h2 k2 F2 N2 hk2 hi2 ho2
  replace N2 := News.sub (l' := (_, _) :: (L' + 1, oC) :: (t2 ++ (t1 ++ TT))) N2 mem_mid2
  clear kN kF
  dsimp only at hk2 ⊢
  k_steps
  rename News g' L' _ _ => kN
  rename Fr g' L' _ _ => kF
  refine ⟨?_⟩
  refine makes_mul makes4 (by decide) (by decide) _ _ _ kF kN ?_
  intro d3 t3 h3 k3 F3 N3 hk3 hi3 ho3
  replace N3 := News.sub (l' := (_, _) :: (L' + 1, oC) :: (t3 ++ (t2 ++ (t1 ++ TT)))) N3 mem_mid2
  clear kN kF
  dsimp only at hk3 ⊢
  k_steps
  rename News g' L' _ _ => kN
  rename Fr g' L' _ _ => kF
  refine ⟨?_⟩
  refine makes_mul makes2 (by decide) (by decide) _ _ _ kF kN ?_
  intro d4 t4 h4 k4 F4 N4 hk4 hi4 ho4
  replace N4 := News.sub (l' := (_, _) :: (L' + 1, oC) :: (t4 ++ (t3 ++ (t2 ++ (t1 ++ TT))))) N4 mem_mid2
  clear kN kF
  dsimp only at hk4 ⊢
  k_steps
  have hoT : ∀ p ∈ t4 ++ (t3 ++ (t2 ++ t1)), (L' : Nat) + 1 < p.1 ∧ (∀ q ∈ TT, @LT.lt Nat _ q.1 p.1) ∧ p.1 ≠ d0 := by
    intro p hp
    rcases List.mem_append.mp hp with hp | hp
    · exact ⟨ho4 p hp _ (.tail _ (.head _)), fun q hq => ho4 p hp q (.tail _ (.tail _ (List.mem_append_right _ (List.mem_append_right _ (List.mem_append_right _ hq))))), Nat.ne_of_gt (ho4 p hp _ (.head _))⟩
    rcases List.mem_append.mp hp with hp | hp
    · exact ⟨ho3 p hp _ (.tail _ (.head _)), fun q hq => ho3 p hp q (.tail _ (.tail _ (List.mem_append_right _ (List.mem_append_right _ hq)))), Nat.ne_of_gt (ho3 p hp _ (.head _))⟩
    rcases List.mem_append.mp hp with hp | hp
    · exact ⟨ho2 p hp _ (.tail _ (.head _)), fun q hq => ho2 p hp q (.tail _ (.tail _ (List.mem_append_right _ hq))), Nat.ne_of_gt (ho2 p hp _ (.head _))⟩
    · exact ⟨ho1 p hp _ (.tail _ (.head _)), fun q hq => ho1 p hp q (.tail _ (.tail _ hq)), Nat.ne_of_gt (ho1 p hp _ (.head _))⟩
  clear ho1 ho2 ho3 ho4
  have hi1' := tab_ints hi1
  have hi2' := tab_ints hi2
  have hi3' := tab_ints hi3
  have hi4' := tab_ints hi4
  clear hi1 hi2 hi3 hi4
  have e : t4 ++ (t3 ++ (t2 ++ (t1 ++ TT))) = (t4 ++ (t3 ++ (t2 ++ t1))) ++ TT := by simp only [List.append_assoc]
  rw [e] at N4
  have s4 : ∀ p ∈ t4, p ∈ t4 ++ (t3 ++ (t2 ++ t1)) := fun p hp => List.mem_append_left _ hp
  have s3 : ∀ p ∈ t3, p ∈ t4 ++ (t3 ++ (t2 ++ t1)) := fun p hp => List.mem_append_right _ (List.mem_append_left _ hp)
  have s2 : ∀ p ∈ t2, p ∈ t4 ++ (t3 ++ (t2 ++ t1)) := fun p hp => List.mem_append_right _ (List.mem_append_right _ (List.mem_append_left _ hp))
  have s1 : ∀ p ∈ t1, p ∈ t4 ++ (t3 ++ (t2 ++ t1)) := fun p hp => List.mem_append_right _ (List.mem_append_right _ (List.mem_append_right _ hp))
  generalize t4 ++ (t3 ++ (t2 ++ t1)) = tl at N4 hoT s1 s2 s3 s4
  clear e
  have hcell : ∀ p ∈ tl ++ TT, p.1 ≠ (L' : Nat) + 1 := fun p hp => (List.mem_append.mp hp).elim (fun hp => Nat.ne_of_gt (hoT p hp).1) (hT p)
  refine kdn_made_str F4 N4 (.head ?_) hd0 rfl (show (casesL.map (·.1)).Nodup by decide +kernel) fun h5 o5 F5 N5 hd5 => ?_
  · intro p hp
    rcases List.mem_cons.mp hp with rfl | hp
    · exact Nat.ne_of_lt l1.1
    · exact (List.mem_append.mp hp).elim (fun hp => (hoT p hp).2.2) fun hp => Nat.ne_of_lt (allLt_mem l1.2 p hp)
  clear N4 F4
  dsimp only
  k_steps
  rename News g' L' _ _ => kN
  rename Fr g' L' _ _ => kF
  rename Obj.data _ = Data.cell (some _) => hdc
  refine hret _ _ (_ :: tl) _ _ kF (News.sub kN ?_) (by omega) hdc ⟨o5, _, .head _, hd5, ?_⟩ ?_
  · intro p hp
    rcases List.mem_cons.mp hp with rfl | hp
    · exact .tail _ (.head _)
    · rcases List.mem_cons.mp hp with rfl | hp
      · exact .head _
      · exact .tail _ (.tail _ hp)
  · intro p hp
    simp only [casesL, List.mem_cons, List.not_mem_nil, or_false] at hp
    rcases hp with rfl | rfl | rfl | rfl
    · exact ⟨_, by with_unfolding_all rfl, hi1'.mono fun p hp => .tail _ (s1 p hp)⟩
    · exact ⟨_, by with_unfolding_all rfl, hi2'.mono fun p hp => .tail _ (s2 p hp)⟩
    · exact ⟨_, by with_unfolding_all rfl, hi3'.mono fun p hp => .tail _ (s3 p hp)⟩
    · exact ⟨_, by with_unfolding_all rfl, hi4'.mono fun p hp => .tail _ (s4 p hp)⟩
  · intro p hp
    rcases List.mem_cons.mp hp with rfl | hp
    · exact ⟨l1.1, allLt_mem l1.2⟩
    · exact ⟨(hoT p hp).1, (hoT p hp).2.1⟩
end
section
noncomputable def rulesL : List (Str × List Int) := [(Str.ofString "&", [0, 0, 0, 1]), (Str.ofString "|", [0, 1, 1, 1]), (Str.ofString "^", [0, 1, 1, 0]), (Str.ofString "<", [0, 1, 0, 0]), (Str.ofString "<=", [1, 1, 0, 1]), (Str.ofString "==", [1, 0, 0, 1]), (Str.ofString "!=", [0, 1, 1, 0]), (Str.ofString ">=", [1, 0, 1, 1]), (Str.ofString ">", [0, 0, 1, 0]), (Str.ofString "~", [1, 0])]
noncomputable def RuleIn (tk : Nat) (T : List (Addr × Obj)) (v : Value) (r : Str × List Int) : Prop := ∃ (a : Addr) (n : Nat) (t : Tok) (tv : Value), v = .ref a ∧ (a, tupO [.str r.1 t, tv] n) ∈ T ∧ TabIn T tv r.2 ∧ TkOk tk t
theorem RuleIn.mono {tk tk' : Nat} {T T' : List (Addr × Obj)} {v : Value} {r : Str × List Int} (h : RuleIn tk T v r) (hT : ∀ p ∈ T, p ∈ T') (hk : tk ≤ tk') : RuleIn tk' T' v r :=
  by obtain ⟨a, n, t, tv, h1, h2, h3, h4⟩ := h; exact ⟨a, n, t, tv, h1, hT _ h2, h3.mono hT, h4.mono hk⟩
noncomputable def RulesOk (tk : Nat) (T : List (Addr × Obj)) (rl : Addr) : Prop := ∃ (n : Nat) (vs : List Value), (rl, listOf vs.toArray n) ∈ T ∧ ∀ (k : Nat) (r : Str × List Int), rulesL[k]? = some r → ∃ v, vs[k]? = some v ∧ RuleIn tk T v r
theorem RulesOk.mono {tk tk' : Nat} {T T' : List (Addr × Obj)} {rl : Addr} (h : RulesOk tk T rl) (hT : ∀ p ∈ T, p ∈ T') (hk : tk ≤ tk') : RulesOk tk' T' rl :=
  by obtain ⟨n, vs, h1, h2⟩ := h; exact ⟨n, vs, hT _ h1, fun k r hr => by obtain ⟨v, h3, h4⟩ := h2 k r hr; exact ⟨v, h3, h4.mono hT hk⟩⟩
noncomputable def intsAt : List Int → Nat → List Value
  | [], _ => []
  | x :: r, t => .int x t :: intsAt r (t + 1)
noncomputable def intsP : List Int → Nat → List (Int × Tok)
  | [], _ => []
  | x :: r, t => (x, t) :: intsP r (t + 1)
theorem intsAt_map : ∀ (xs : List Int) (t : Nat), intsAt xs t = (intsP xs t).map intV
  | [], _ => rfl
  | _ :: r, t => congrArg (List.cons _) (intsAt_map r (t + 1))
theorem intsP_fst : ∀ (xs : List Int) (t : Nat), (intsP xs t).map (·.1) = xs
  | [], _ => rfl
  | x :: r, t => congrArg (List.cons x) (intsP_fst r (t + 1))
noncomputable def intsEx : Nat → List Int → List PySem.Expr
  | _, [] => []
  | c, x :: r => .Constant (.int x) 0 ⟨124, c, 124, c + 1⟩ :: intsEx (c + 3) r
noncomputable def rowsEx : Nat → List (Str × List Int) → List PySem.Expr
  | _, [] => []
  | c, r :: l => .Tuple [.Constant (.str r.1) 0 ⟨124, c + 1, 124, c + r.1.length + 3⟩, .List (intsEx (c + r.1.length + 6) r.2) ⟨124, c + r.1.length + 5, 124, c + r.1.length + 5 + 3 * r.2.length⟩] 0 ⟨124, c, 124, c + r.1.length + 6 + 3 * r.2.length⟩ :: rowsEx (c + r.1.length + 8 + 3 * r.2.length) l
section
variable {M : Model} {A : Around} {env : Env} {E : Value → Shared → Prop} {pos : Pos}
theorem ints_wp : ∀ (xs : List Int) (c : Nat) {s : Shared} {Q : List Value → Shared → Prop}, Q (intsAt xs s.toks) { s with toks := s.toks + xs.length } → wpAny M A (spliced (backTo pos (starEach (intsEx c xs) env))) Q E s
  | [], _, _, _, h => args_nil h
  | _ :: r, _, s, _, h => args_cons (wpAny_Constant_int (ints_wp r _ (by rw [List.length_cons, Nat.add_comm r.length 1, ← Nat.add_assoc] at h; exact h))) rfl
end
theorem tab_at {T : List (Addr × Obj)} {a : Addr} {n : Nat} {xs : List Int} {t : Nat} (h : (a, listOf (intsAt xs t).toArray n) ∈ T) : TabIn T (.ref a) xs := ⟨a, n, intsP xs t, rfl, by rw [← intsAt_map]; exact h, intsP_fst xs t⟩
theorem intsAt_len : ∀ (xs : List Int) (t : Nat), (intsAt xs t).length = xs.length
  | [], _ => rfl
  | _ :: r, t => congrArg (· + 1) (intsAt_len r (t + 1))
theorem rows_wp {M : Model} {A : Around} {env : Env} {E : Value → Shared → Prop} {pos : Pos} {g : Heap} {L : Addr} {m : Str → Option Value} {tk0 : Nat} (h26 : 2600 ≤ tk0) : ∀ (rs : List (Str × List Int)) (c : Nat) {s : Shared} {TT : List (Addr × Obj)} {Q : List Value → Shared → Prop}, Fr g L s.heap m → News g L s.heap TT → tk0 ≤ s.toks → (∀ r ∈ rs, r.2.length ≤ 10) →
    (∀ vs tl h' tk', Fr g L h' m → News g L h' (tl ++ TT) → s.toks ≤ tk' → (∀ (k : Nat) (r : Str × List Int), rs[k]? = some r → ∃ v, vs[k]? = some v ∧ RuleIn tk' tl v r) → (∀ p ∈ tl, ∀ q ∈ TT, @LT.lt Nat _ q.1 p.1) → vs.length = rs.length → Q vs { s with heap := h', toks := tk' }) →
    wpAny M A (spliced (backTo pos (starEach (rowsEx c rs) env))) Q E s
  | [], c, s, TT, Q, F, N, _, _, h => args_nil (h [] [] _ _ F N (Nat.le_refl _) (fun k r e => by simp at e) (fun _ h => absurd h List.not_mem_nil) rfl)
  | r :: rest, c, s, TT, Q, F, N, ht, hl, h => by
    refine args_cons (Tuple_ (args_cons (PySem.Calls.Constant_str (args_cons (List_ (ints_wp r.2 _ (newList_K F N (fun l h1 F1 N1 l1 => args_nil (kup_newTuple F1 N1 (fun D h2 F2 N2 l2 => ?_) ?z2)) ?z1))) rfl)) rfl)) rfl
    case z1 =>
      have := hl r (.head _)
      rw [intsAt_len, sizeLine_eq]; omega
    case z2 => rw [sizeLine_eq]; exact Nat.le_of_ble_eq_true rfl
    refine rows_wp h26 rest _ F2 N2 (by dsimp only; omega) (fun x hx => hl x (.tail _ hx)) fun vs tl h' tk' F' N' hk hr ho hn => ?_
    dsimp only at hk
    have N9 : News g L h' ((tl ++ [(D, tupO [.str r.1 s.toks, .ref l] 0), (l, listOf (intsAt r.2 (s.toks + 1)).toArray 0)]) ++ TT) := by rw [List.append_assoc]; exact N'
    refine h (_ :: vs) _ h' tk' F' N9 (by omega) ?_ ?_ (congrArg (· + 1) hn)
    · intro k x e
      cases k with
      | zero =>
        obtain rfl := Option.some.inj e
        refine ⟨_, rfl, D, 0, s.toks, .ref l, rfl, List.mem_append_right _ (.head _), ?_, ?_⟩
        · exact tab_at (List.mem_append_right _ (.tail _ (.head _)))
        · exact (TkOk.above h26 ht).mono (by omega)
      | succ k =>
        obtain ⟨v, e1, h1⟩ := hr k x e
        exact ⟨v, e1, h1.mono (fun p hp => List.mem_append_left _ hp) (Nat.le_refl _)⟩
    · intro p hp q hq
      rcases List.mem_append.mp hp with hp | hp
      · exact ho p hp q (.tail _ (.tail _ hq))
      · rcases List.mem_cons.mp hp with rfl | hp
        · exact l2 q (.tail _ hq)
        · obtain rfl := List.mem_singleton.mp hp
          exact l1 q hq
theorem rules_stm : (fnOfStm 78).2.1.drop 3 = [.Assign [.Name (Str.ofString "rules") ⟨124, 4, 124, 9⟩] (.List (rowsEx 13 rulesL) ⟨124, 12, 124, 220⟩) ⟨124, 4, 124, 220⟩] ++ (fnOfStm 78).2.1.drop 4 := by kernel_rfl
set_option maxHeartbeats 4000000 in
theorem drawn_d {w : World} {tk0 : Nat} {TT : List (Addr × Obj)} (h26 : 2600 ≤ tk0)
    (B' : Below (ktrTop dp un gd cn cs L a ccd cl outer) base (envX cn cs L a ccd cl :: outer) g') (F' : Fr g' L' s.heap m') (X' : (KK w.params).In g') (T' : Top qv looseL mean mg mb g')
    (N' : News g' L' s.heap TT)
    (hks : cs.kind = .function) (hdp : dp + 60 < recursionLimit) (hun : un + 400 < cLine) (htk : tk0 ≤ s.toks)
    (hret : ∀ rl tl h' tk', Fr g' L' h' (fun y => if y = Str.ofString "rules" then some (.ref rl) else m' y) → News g' L' h' (tl ++ TT) → s.toks ≤ tk' → RulesOk tk' tl rl → (∀ p ∈ tl, ∀ q ∈ TT, @LT.lt Nat _ q.1 p.1) → Stop (wpAny (model Challenge.rw_wf0091_01.prog w) ((ktrTop dp un gd cn cs L a ccd cl outer).deeper (drEnv L')) (execs ((fnOfStm 78).2.1.drop 4) (drEnv L')) Qf E { s with heap := h', toks := tk' })) :
    wpAny (model Challenge.rw_wf0091_01.prog w) ((ktrTop dp un gd cn cs L a ccd cl outer).deeper (drEnv L')) (execs ((fnOfStm 78).2.1.drop 3) (drEnv L')) Qf E s := by
  with_reducible refine execs_split rules_stm ?_
  obtain ⟨H, gs, dr, tks, os⟩ := s
  dsimp only at F' N' htk hret
  with_reducible refine wpAny_execs_cons ?_
  with_reducible refine wpAny_Assign_Name (List_ ?_) ?q
  case q => rfl
  with_reducible refine rows_wp h26 rulesL 13 F' N' htk (by decide) fun vs tl h1 tk1 F1 N1 hk1 hr1 ho1 hn1 => ?_
  with_reducible refine newList_K F1 N1 (fun l h2 F2 N2 l2 => ?_) (by rw [hn1]; decide)
  refine storeX_L F2 N2 (fun h3 F3 N3 => ?_)
  refine wpAny_execs_nil ?_
  dsimp only at hk1
  refine hret l (_ :: tl) _ _ F3 N3 (by omega) ⟨0, vs, .head _, fun k r hk => ?_⟩ ?_
  · obtain ⟨v, h3, h4⟩ := hr1 k r hk
    exact ⟨v, h3, h4.mono (fun p hp => .tail _ hp) (by omega)⟩
  · intro p hp q hq
    rcases List.mem_cons.mp hp with rfl | hp
    · exact l2 q (List.mem_append_right _ hq)
    · exact ho1 p hp q hq
end
section
structure DS where
  text : Str
  pile : List (List Int)
  tables : List (List Int)
noncomputable def xAt (nums : List Int) (turn plen : Nat) : Int := if turn < 6 then nums.getD turn 0 else 2 + 4 * ((nums.sum + (plen : Int)).fmod 9)
noncomputable def TabsIn (T : List (Addr × Obj)) (vs : List Value) (tbs : List (List Int)) : Prop := vs.length = tbs.length ∧ ∀ (i : Nat) (v : Value) (tb : List Int), vs[i]? = some v → tbs[i]? = some tb → TabIn T v tb
theorem TabsIn.mono {T T' : List (Addr × Obj)} {vs : List Value} {tbs : List (List Int)} (h : TabsIn T vs tbs) (hT : ∀ p ∈ T, p ∈ T') : TabsIn T' vs tbs := ⟨h.1, fun i v tb h1 h2 => (h.2 i v tb h1 h2).mono hT⟩
theorem sum_T {prog : Program} {w : World} {A : Around} {E : Value → Shared → Prop} {s : Shared} {h₀ : Heap} {L l : Addr} {m : Str → Option Value} {news : List (Addr × Obj)} {us : List Value} {n : Nat} {ns : List Int} {Q : Value → Shared → Prop} (F : Fr h₀ L s.heap m) (N : News h₀ L s.heap news) (hh : A.handled = none) (hm : (l, listOf us.toArray n) ∈ news) (hi : IntsAre us ns)
    (h : ∀ h' tk t', Fr h₀ L h' m → News h₀ L h' news → s.toks ≤ tk → Q (.int ns.sum t') { s with heap := h', toks := tk }) : wpAny (model prog w) A (call (.builtin "sum") [.ref l]) Q E s :=
  wpAny_mono (wpAny_with_toks (Nat.le_refl _) (LSm.sum_ints (Q := fun v s' => s.toks ≤ s'.toks → Q v s') F N hh ⟨_, (N _ hm).1, rfl, n, rfl⟩ hi fun h' tk t' F' N' hk => h h' tk t' F' N' hk)) (fun _ _ q => q) fun _ _ e => e
local macro_rules | `(tactic| walk_at "call builtin:sum") => `(tactic| (k_here; k_dflt (refine' sum_T (by k_asm) (by k_asm) (by rfl) (by k_mem) (by assumption) ?_); intro _ _ _ F9 N9 htk9; (try dsimp only at htk9)))
set_option maxHeartbeats 4000000 in
theorem draw_x {w : World} {nl pa : Addr} {us pvs : List Value} {un1 pn turn tk0 : Nat} {nums : List Int} {tt : Tok} {TT : List (Addr × Obj)}
    (hi : IntsAre us nums) (hn6 : nums.length = 6) (hnb : 0 ≤ nums.sum ∧ nums.sum < 6000000) (hpl : pvs.length ≤ 1000) (ht : turn ≤ 12)
    (hnl : (nl, listOf us.toArray un1) ∈ TT) (hpa : (pa, listOf pvs.toArray pn) ∈ TT)
    (B' : Below (ktrTop dp un gd cn cs L a ccd cl outer) base (envX cn cs L a ccd cl :: outer) g') (F' : Fr g' L' s.heap m') (X' : (KK w.params).In g') (T' : Top qv looseL mean mg mb g')
    (N' : News g' L' s.heap TT)
    (hm1 : m' (Str.ofString "numbers") = some (.ref nl)) (hm3 : m' (Str.ofString "pile") = some (.ref pa)) (hm4 : m' (Str.ofString "turn") = some (.int turn tt))
    (hks : cs.kind = .function) (hdp : dp + 60 < recursionLimit) (hun : un + 400 < cLine)
    (hret : ∀ tx h' tk', Fr g' L' h' (fun y => if y = Str.ofString "x" then some (.int (xAt nums turn pvs.length) tx) else m' y) → News g' L' h' TT → s.toks ≤ tk' → Stop (wpAny (model Challenge.rw_wf0091_01.prog w) ((ktrTop dp un gd cn cs L a ccd cl outer).deeper (drEnv L')) (execs ((bodyAt (fnOfStm 78).2.1 8).drop 1) (drEnv L')) Qf E { s with heap := h', toks := tk' })) :
    wpAny (model Challenge.rw_wf0091_01.prog w) ((ktrTop dp un gd cn cs L a ccd cl outer).deeper (drEnv L')) (execs (bodyAt (fnOfStm 78).2.1 8) (drEnv L')) Qf E s := by
  with_reducible refine' execs_split (xs := [_]) (ys := (bodyAt (fnOfStm 78).2.1 8).drop 1) ?q_e ?q_go
  case q_e => exact rfl
  obtain ⟨H, gs, dr, tks, os⟩ := s
  dsimp only at F' N' hret
  revert F' N' hret
  revert B' X' T'
  k_fill
  intro B' X' T' F' N' hret
  by_cases h6 : turn < 6
  · have ex : xAt nums turn pvs.length = nums.getD turn 0 := if_pos h6
    obtain ⟨t9, h9⟩ := ints_at hi turn (by omega)
    have hit : ItemAt us (turn : Int) (.int (nums.getD turn 0) t9) := ⟨by omega, by omega, h9⟩
    wrow_steps
    rename News g' L' _ _ => kN
    rename Fr g' L' _ _ => kF
    rw [ex] at hret
    exact hret _ _ _ kF kN (by omega)
  · have ex : xAt nums turn pvs.length = 2 + 4 * ((nums.sum + (pvs.length : Int)).fmod 9) := if_neg h6
    wrow_steps
    rename News g' L' _ _ => kN
    rename Fr g' L' _ _ => kF
    rw [ex] at hret
    exact hret _ _ _ kF kN (by omega)
noncomputable def ruleOf (x : Int) : Str × List Int := rulesL.getD ((x.fdiv 4).fmod 10).toNat (⟨#[]⟩, [])
theorem ruleOf_at (x : Int) : rulesL[((x.fdiv 4).fmod 10).toNat]? = some (ruleOf x) := by
  have hf := fmod_bound (x.fdiv 4) (k := 10) (by decide)
  have hl : rulesL.length = 10 := rfl
  rw [ruleOf, List.getD_eq_getElem?_getD, List.getElem?_eq_getElem (by omega)]; rfl
set_option maxHeartbeats 4000000 in
theorem draw_sign {w : World} {rl : Addr} {turn tk0 : Nat} {x : Int} {tt tx : Tok} {oT : Obj} {vT : Option Value} {TT : List (Addr × Obj)}
    (hx : 0 ≤ x ∧ x < 1000000) (ht : turn ≤ 12) (h26 : 2600 ≤ tk0) (hrl : RulesOk tk0 TT rl) (hoT : oT.data = .cell vT)
    (B' : Below (ktrTop dp un gd cn cs L a ccd cl outer) base (envX cn cs L a ccd cl :: outer) g') (F' : Fr g' L' s.heap m') (X' : (KK w.params).In g') (T' : Top qv looseL mean mg mb g')
    (N' : News g' L' s.heap ((L' + 1 + 1, oT) :: TT)) (hcT : ∀ p ∈ TT, p.1 ≠ L' + 1 + 1)
    (hm2 : m' (Str.ofString "rules") = some (.ref rl)) (hm4 : m' (Str.ofString "turn") = some (.int turn tt)) (hm5 : m' (Str.ofString "x") = some (.int x tx))
    (hks : cs.kind = .function) (hdp : dp + 60 < recursionLimit) (hun : un + 400 < cLine) (htk : tk0 ≤ s.toks)
    (hret : ∀ t1 t2 t3 tv oT' h' tk', Fr g' L' h' (fun y => if y = Str.ofString "hidden" then some (.str (hidS (x.fdiv 192)) t3) else if y = Str.ofString "sign" then some (.str (ruleOf x).1 t2) else if y = Str.ofString "turn" then some (.int ((turn + 1 : Nat) : Int) t1) else m' y) → News g' L' h' ((L' + 1 + 1, oT') :: TT) → s.toks ≤ tk' → oT'.data = .cell (some tv) → TabIn TT tv (ruleOf x).2 → TkOk tk' t2 → TkOk tk' t3 →
      Stop (wpAny (model Challenge.rw_wf0091_01.prog w) ((ktrTop dp un gd cn cs L a ccd cl outer).deeper (drEnv L')) (execs ((bodyAt (fnOfStm 78).2.1 8).drop 4) (drEnv L')) Qf E { s with heap := h', toks := tk' })) :
    wpAny (model Challenge.rw_wf0091_01.prog w) ((ktrTop dp un gd cn cs L a ccd cl outer).deeper (drEnv L')) (execs ((bodyAt (fnOfStm 78).2.1 8).drop 1) (drEnv L')) Qf E s := by
  with_reducible refine' execs_split (xs := [_, _, _]) (ys := (bodyAt (fnOfStm 78).2.1 8).drop 4) ?q_e ?q_go
  case q_e => exact rfl
  obtain ⟨H, gs, dr, tks, os⟩ := s
  dsimp only at F' N' htk hret
  revert F' N' htk hret
  revert B' X' T'
  k_fill
  intro B' X' T' F' N' htk hret
  have hf := fmod_bound (x.fdiv 4) (k := 10) (by decide)
  obtain ⟨rn, rvs, hr1, hr2⟩ := hrl
  obtain ⟨rv, hr3, ra, rn2, rt, tv, rfl, hr4, hr5, hr6⟩ := hr2 _ _ (ruleOf_at x)
  have hit : ItemAt rvs ((x.fdiv 4).fmod 10) (.ref ra) := ⟨hf.1, by omega, hr3⟩
  have hr1' : (rl, listOf rvs.toArray rn) ∈ (L' + 1 + 1, oT) :: TT := .tail _ hr1
  wrow_steps
  have hd : 0 ≤ x.fdiv 192 ∧ x.fdiv 192 ≤ 100000 := by
    have e : x.fdiv 192 = x / 192 := Int.fdiv_eq_ediv_of_nonneg x (by decide)
    rw [e]; omega
  rename News g' L' _ _ => kN
  with_unfolding_all refine' con_use (tk0 := tks) (un0 := 200) (dn := 10) ?q_B ?q_F ?q_X ?q_T ?q_k (unseen_con (tk0 := tks) hd.1 hd.2 (by omega)) ?q_N ?q_hd ?q_hu ?q_tk ?_
  case q_B | q_F | q_X | q_T => k_asm
  case q_k => rfl
  case q_N => exact kN
  case q_hd => ktr_room
  case q_hu => (first | ktr_units | ((show un + 3 + _ < cLine); omega))
  case q_tk => (try dsimp only); omega
  intro v9 news9 h9 tk9 F9 N9 hl9 hp9
  (try dsimp only at hl9)
  obtain ⟨⟨tl, rfl⟩, t3, rfl, ht3⟩ := hp9
  wrow_steps
  rename News g' L' _ _ => kN
  rename Fr g' L' _ _ => kF
  rename Obj.data _ = Data.cell (some tv) => hdc
  exact hret _ _ _ _ _ _ _ kF (News.sub kN fun p hp => List.mem_append_right _ hp) (by omega) hdc hr5 (hr6.mono (by omega)) (ht3.mono (by omega))
end
section
noncomputable abbrev lsT (ys : List Value) : Obj := { cls := .type "list", data := .seq ys.toArray ys.length }
section
variable {prog : Program} {w : World} {A : Around} {E : Value → Shared → Prop} {s : Shared} {h₀ : Heap} {L : Addr} {env : Env}
theorem ListComp_T {elt iter : Expr} {x x₂ : Str} {px px₂ tp pos : Pos} {k1} {scope : Scope} {cl : List (Str × Addr)} {Q : Value → Shared → Prop}
    (hclos : closureFor scope env = pure cl) (hcell : ∀ y ∈ scope.names, y.2 ≠ .cell) (hkind : scope.kind = .function)
    (hnames : ∀ y ∈ scope.names, y.2 = .local → scope.names.lookup y.1 = some .local) (hx : scope.names.lookup x = some .local) (hx₂ : scope.names.lookup x₂ = some .local) (hxx : x ≠ x₂) (hh : A.handled = none)
    (hs : ∀ x, foldedSetIterable iter env x = pure x)
    (h : wpAny (model prog w) A (eval iter env) (fun xv s₁ => ∃ (I : Addr) (fp wr : List Addr) (n : Nat) (Pt : Nat → Array Value → Prop) (St : Nat → Heap → Prop) (Mid : Nat → Addr → Heap → Prop) (m : Str → Option Value) (news : List (Addr × Obj)) (G : Nat → Value → Prop),
      xv = .ref I ∧ WalksT prog w A I fp wr n Pt St Mid ∧ St 0 s₁.heap ∧ (∀ b ∈ fp, b < s₁.heap.objs.size) ∧ n ≤ sizeLine ∧ Fr h₀ L s₁.heap m ∧ News h₀ L s₁.heap news ∧ (∀ b ∈ wr, h₀.get? b = none ∧ b ≠ L ∧ ∀ p ∈ news, p.1 ≠ b) ∧
      (∀ i vals, Pt i vals → ∃ a b, vals = #[a, b] ∧ ∀ C oC s₂ m₂ (E' : Value → Shared → Prop), LCg.NsObj oC m₂ → m₂ x = some a → m₂ x₂ = some b → Fr h₀ L s₂.heap m → News h₀ L s₂.heap ((C, oC) :: news) →
        wpAny (model prog w) A (eval elt (compEnvC scope cl C env)) (fun y s₃ => G i y ∧ ∃ tk, s₂.toks ≤ tk ∧ s₃ = { s₂ with toks := tk }) E' s₂) ∧
      (∀ D ys h' tk, ys.length = n → (∀ (i : Nat) (y : Value), ys[i]? = some y → G i y) → Fr h₀ L h' m → News h₀ L h' ((D, lsT ys) :: news) → (∀ p ∈ news, @LT.lt Nat _ p.1 D) → s₁.toks ≤ tk → Q (.ref D) { s₁ with heap := h', toks := tk })) E s) :
    wpAny (model prog w) A (eval (.ListComp elt [⟨.Tuple [.Name x px, .Name x₂ px₂] k1 tp, iter, [], 0⟩] scope pos) env) Q E s := by
  rw [eval_ListComp]
  refine wpAny_comprehension_free (use := none) rfl hs hclos hkind hnames (wpAny_mono h (fun xv s₁ h₁ => ?_) fun _ _ e => e)
  obtain ⟨I, fp, wr, n, Pt, St, Mid, m, news, G, rfl, W, hst, hfp, hsz, F, N, hwr, helt, fin⟩ := h₁
  obtain ⟨H, gs, dr, tk₁, os⟩ := s₁
  dsimp only at hst hfp F N fin
  refine W.self 0 _ _ _ hst ?_
  refine wpAny_newObj_type (wpAny_newFunctionEnv hcell (by intro y hy; simp at hy) (fun h₁ hns₁ hsb₁ => ?_) hkind)
  dsimp only at hns₁ hsb₁ ⊢
  generalize hH2 : H.push { cls := .type "list", dict := none, data := .seq ([] : List Value).toArray } = H2 at hns₁ hsb₁ ⊢
  have hC : H2.objs.size = H.objs.size + 1 := by rw [← hH2, Heap.size_push]
  have hLlt : L < H.objs.size := F.ns.lt
  have old : ∀ b o, H.get? b = some o → h₁.get? b = some o := fun b o e => hsb₁.extBut b o (by rw [hC]; exact Nat.ne_of_lt (Nat.lt_succ_of_lt (Heap.lt_size e))) (Heap.get?_push_of_some _ (hH2 ▸ Heap.get?_push_of_some _ e))
  have hacc : h₁.get? H.objs.size = some (lsT []) := hsb₁.extBut _ _ (by rw [hC]; exact Nat.ne_of_lt (Nat.lt_succ_self _)) (Heap.get?_push_of_some _ (hH2 ▸ Heap.get?_push_size _ rfl))
  have hCD : H2.objs.size ≠ H.objs.size := by rw [hC]; exact Nat.succ_ne_self _
  have fresh : ∀ a, H.objs.size ≤ a → h₀.get? a = none := fun a ha => by
    cases e : h₀.get? a with
    | none => rfl
    | some o' => exact absurd (Heap.lt_size (F.keep a o' e)) (Nat.not_lt.mpr ha)
  have hD₀ := fresh _ (Nat.le_refl H.objs.size)
  have hC₀ := fresh H2.objs.size (by rw [hC]; exact Nat.le_succ _)
  have hDL : H.objs.size ≠ L := Nat.ne_of_gt hLlt
  have hCL : H2.objs.size ≠ L := by rw [hC]; exact Nat.ne_of_gt (Nat.lt_succ_of_lt hLlt)
  have hnD : ∀ p ∈ news, @LT.lt Nat _ p.1 H.objs.size := fun p hp => Heap.lt_size (N p hp).1
  have hDw : H.objs.size ∉ fp := fun hm => Nat.lt_irrefl _ (hfp _ hm)
  have hCw : H2.objs.size ∉ fp := fun hm => by have := hfp _ hm; rw [hC] at this; exact Nat.lt_irrefl _ (Nat.lt_of_succ_lt this)
  have stepW : ∀ {h h' : Heap} {ys : List Value} {m' : Str → Option Value}, (∀ b o, b ∉ wr → h.get? b = some o → h'.get? b = some o) → Fr h₀ L h m → h.Ns H2.objs.size m' → News h₀ L h ((H.objs.size, lsT ys) :: news) → Fr h₀ L h' m ∧ h'.Ns H2.objs.size m' ∧ News h₀ L h' ((H.objs.size, lsT ys) :: news) := by
    intro h h' ys m' hk F' hn' N'
    refine ⟨⟨F'.ns.at' fun o e => hk _ o (fun hm => (hwr _ hm).2.1 rfl) e, fun b o e => hk b o (fun hm => by rw [(hwr _ hm).1] at e; cases e) (F'.keep b o e), F'.above⟩, hn'.at' fun o e => hk _ o (fun hm => hCw (W.sub _ hm)) e, fun p hp => ⟨hk _ _ (fun hm => ?_) (N' p hp).1, (N' p hp).2⟩⟩
    rcases List.mem_cons.mp hp with rfl | hp
    · exact hDw (W.sub _ hm)
    · exact (hwr _ hm).2.2 p hp rfl
  have stepC : ∀ {h h' : Heap} {ys : List Value}, Heap.SameBut H2.objs.size h h' → Fr h₀ L h m → News h₀ L h ((H.objs.size, lsT ys) :: news) → Fr h₀ L h' m ∧ News h₀ L h' ((H.objs.size, lsT ys) :: news) := by
    intro h h' ys hk F' N'
    refine ⟨F'.change hk hCL hC₀, fun p hp => ⟨hk.extBut _ _ ?_ (N' p hp).1, (N' p hp).2⟩⟩
    rcases List.mem_cons.mp hp with rfl | hp
    · exact hCD.symm
    · rw [hC]; exact Nat.ne_of_lt (Nat.lt_succ_of_lt (hnD p hp))
  have loop : ∀ s₃ : Shared, s₃ = (⟨h₁, gs, dr, tk₁ + ([] : List (Str × Value)).length, os⟩ : Shared) →
      codeAny (model prog w) A (.compLoop (.ListComp elt [⟨.Tuple [.Name x px, .Name x₂ px₂] k1 tp, iter, [], 0⟩] scope pos) 0 (.ref I) (.ref H.objs.size) (compEnvC scope cl H2.objs.size env))
        (compPost (model prog w) A E none Q (.ref H.objs.size) H2.objs.size) s₃ := by
    rintro s₃ rfl
    refine LCp.codeAny_compLoop_pair
      (fun d s' => ∃ h' tk i ys m', s' = (⟨h', gs, dr, tk, os⟩ : Shared) ∧ i ≤ n ∧ d = n + 1 - i ∧ ys.length = i ∧ (∀ (j : Nat) (y : Value), ys[j]? = some y → G j y) ∧ St i h' ∧ Fr h₀ L h' m ∧ h'.Ns H2.objs.size m' ∧ News h₀ L h' ((H.objs.size, lsT ys) :: news) ∧ tk₁ ≤ tk) ?_ (n + 1)
      ⟨h₁, _, 0, [], _, rfl, Nat.zero_le _, rfl, rfl, (fun j y e => by simp at e), W.frame _ _ _ hst fun b _ o e => old b o e, F.keeps old, hns₁, fun p hp => ?_, Nat.le_add_right _ _⟩
    · rintro d s' ⟨h', tk, i, ys, m', rfl, hi, rfl, hyl, hys, hst', F', hn', N', htk⟩
      by_cases hlt : i < n
      · refine wpAny_with_toks (Nat.le_refl _) (W.item i _ _ _ hlt hst' fun T vals h₂ tk₂ hPt _ hT hMid hk₂ => fun htk₂ => ?_)
        obtain ⟨va, vb, rfl, hel⟩ := helt i vals hPt
        obtain ⟨F₂, hn₂, N₂⟩ := stepW hk₂ F' hn' N'
        refine W.go _ k1 tp i T _ _ _ hMid fun h₃ hst₃ hk₃ => ?_
        obtain ⟨F₃, hn₃, N₃⟩ := stepW hk₃ F₂ hn₂ N₂
        have ht₃ : h₃.IsTuple T #[va, vb] := hT.at fun o e => hk₃ T o (W.apart i T h₂ hMid) e
        refine wpAny_assign_Tuple hh ht₃ rfl rfl fun h₄ he₄ => ?_
        replace he₄ : Heap.ExtBut h₃.objs.size h₃ h₄ := he₄
        have up₄ : ∀ b o, h₃.get? b = some o → h₄.get? b = some o := fun b o e => he₄ b o (Nat.ne_of_lt (Heap.lt_size e)) e
        have F₄ := F₃.keeps up₄
        have N₄ : News h₀ L h₄ ((H.objs.size, lsT ys) :: news) := fun p hp => ⟨up₄ _ _ (N₃ p hp).1, (N₃ p hp).2⟩
        have hn₄ := hn₃.at' fun o e => up₄ _ o e
        have hst₄ : St (i + 1) h₄ := W.frame _ _ _ hst₃ fun b _ o e => up₄ b o e
        show wpAny _ A (do holding [vb] (assign (.Name x px) _ va); do holding [] (assign (.Name x₂ px₂) _ vb); pure ()) _ _ _
        refine wpAny_bind (wpAny_holding (wpAny_assign_Name (wpAny_storeName_local (lookup_relabel_local hx) hn₄ (fun h₅ hn₅ hs₅ => ?_) (by simp [compEnvC, relabel, hkind]))))
        replace hs₅ : Heap.SameBut H2.objs.size h₄ h₅ := hs₅
        obtain ⟨F₅, N₅⟩ := stepC hs₅ F₄ N₄
        refine wpAny_bind (wpAny_holding (wpAny_assign_Name (wpAny_storeName_local (lookup_relabel_local hx₂) hn₅ (fun h₆ hn₆ hs₆ => wpAny_pure ?_) (by simp [compEnvC, relabel, hkind]))))
        replace hs₆ : Heap.SameBut H2.objs.size h₅ h₆ := hs₆
        obtain ⟨F₆, N₆⟩ := stepC hs₆ F₅ N₅
        have hst₆ : St (i + 1) h₆ := W.frame _ _ _ hst₄ fun b hb o e => hs₆.extBut b o (fun q => hCw (q ▸ hb)) (hs₅.extBut b o (fun q => hCw (q ▸ hb)) e)
        dsimp only at htk₂
        obtain ⟨oC, heC, hoC⟩ := LCg.ns_obj hn₆
        refine wpAny_mono (hel H2.objs.size oC _ _ _ hoC ?_ ?_ F₆ (fun p hp => ?_)) (fun y s₄ h₄' => ?_) fun _ _ e => e
        · show (if x = x₂ then some vb else if x = x then some va else m' x) = some va
          rw [if_neg hxx, if_pos rfl]
        · show (if x₂ = x₂ then some vb else if x₂ = x then some va else m' x₂) = some vb
          rw [if_pos rfl]
        · rcases List.mem_cons.mp hp with rfl | hp
          · exact ⟨heC, hCL, hC₀⟩
          · exact N₆ p (.tail _ hp)
        obtain ⟨hG, tk₇, htk₇, rfl⟩ := h₄'
        dsimp only at htk₇
        refine append_at (hsz := by show ys.toArray.size ≤ sizeLine; rw [List.size_toArray, hyl]; exact Nat.le_trans hi hsz) (N₆ _ (.head _)).1 fun h₇ hs₇ hD₇ => ?_
        refine ⟨n + 1 - (i + 1), by omega, h₇, tk₇, i + 1, ys ++ [y], _, rfl, hlt, rfl, by rw [List.length_append, List.length_singleton, hyl], ?_, W.frame _ _ _ hst₆ fun b hb o e => hs₇.extBut b o (fun q => hDw (q ▸ hb)) e, F₆.change hs₇ hDL hD₀, hn₆.sameBut hs₇ hCD, fun p hp => ?_, by omega⟩
        · intro j z hz
          rcases Nat.lt_trichotomy j ys.length with hj | hj | hj
          · rw [List.getElem?_append_left hj] at hz; exact hys j z hz
          · subst hj
            rw [List.getElem?_append_right (Nat.le_refl _)] at hz
            simp at hz
            subst hz; rw [hyl]; exact hG
          · rw [List.getElem?_eq_none (by rw [List.length_append, List.length_singleton]; omega)] at hz; cases hz
        · rcases List.mem_cons.mp hp with rfl | hp
          · exact ⟨hD₇.trans (congrArg some (LCg.lst_snoc ys y)), hDL, hD₀⟩
          · exact ⟨hs₇.extBut _ _ (Nat.ne_of_lt (hnD p hp)) (N₆ p (.tail _ hp)).1, (N₆ p (.tail _ hp)).2⟩
      · obtain rfl : i = n := Nat.le_antisymm hi (Nat.not_lt.mp hlt)
        refine wpAny_with_toks (Nat.le_refl _) (W.done _ _ _ hst' fun h₂ tk₂ hk₂ => fun htk₂ => ?_)
        obtain ⟨F₂, hn₂, N₂⟩ := stepW hk₂ F' hn' N'
        dsimp only at htk₂
        refine ⟨m', hn₂, fun h₃ hs₃ => ?_⟩
        obtain ⟨F₃, N₃⟩ := stepC hs₃ F₂ N₂
        exact fin H.objs.size ys h₃ tk₂ hyl hys F₃ N₃ hnD (by omega)
    · rcases List.mem_cons.mp hp with rfl | hp
      · exact ⟨hacc, hDL, hD₀⟩
      · exact ⟨old _ _ (N p hp).1, (N p hp).2⟩
  exact codeAny_compStart_list (loop _ rfl) (W.self 0 _ _ _ (W.frame _ _ _ hst fun b _ o e => old b o e) (loop _ rfl))
end
end
section
local macro_rules | `(tactic| walk_at "call type:zip") => `(tactic| (k_here; (with_reducible refine Stop.out ?_)))
local macro_rules | `(tactic| walk_at "eval ListComp") => `(tactic| (k_here; (with_reducible refine Stop.out ?_)))
theorem tilde_ne {r : Str} : (r != Str.ofString "~") = decide (r ≠ Str.ofString "~") := by
  by_cases h : r = Str.ofString "~"
  · subst h; simp
  · rw [decide_eq_true h]; exact bne_iff_ne.mpr h
theorem ints_map : ∀ ps : List (Int × Tok), IntsAre (ps.map intV) (ps.map (·.1))
  | [] => .nil
  | p :: ps => .cons p.1 p.2 (ints_map ps)
noncomputable def ifBranch (ss : List Stmt) (k : Nat) : List Stmt := (stAt ss k).2
noncomputable def madeOf (ss : List Stmt) (k : Nat) : PySem.Expr := exAt (stAt ss k).1 0
noncomputable def binE : PySem.Expr := madeOf (ifBranch (bodyAt (fnOfStm 78).2.1 8) 4) 3
set_option maxHeartbeats 4000000 in
theorem bin_comp {w : World} {oT : Obj} {a1 a2 a3 : Addr} {n1 n2 n3 : Nat} {ps1 ps2 ps3 : List (Int × Tok)} {TT : List (Addr × Obj)} (hoT : oT.data = .cell (some (.ref a3)))
    (h1 : (a1, listOf (ps1.map intV).toArray n1) ∈ TT) (h2 : (a2, listOf (ps2.map intV).toArray n2) ∈ TT) (h3 : (a3, listOf (ps3.map intV).toArray n3) ∈ TT)
    (hl1 : ps1.length = 16) (hl2 : ps2.length = 16) (hl3 : ps3.length = 4) (hb1 : ∀ z ∈ ps1, z.1 = 0 ∨ z.1 = 1) (hb2 : ∀ z ∈ ps2, z.1 = 0 ∨ z.1 = 1)
    {dp un : Nat} {gd : Option (List Code)} {cn : Str} {cs : Scope} {a : Addr} {ccd : Value} {cl : List (Str × Addr)} {outer : List Env} {base g' : Heap} {L L' : Addr} {s : Shared} {mean : ExcName → Option Value} {mg mb m' : Str → Option Value} {Q : Value → Shared → Prop} {E : Value → Shared → Prop}
    (B' : Below (ktrTop dp un gd cn cs L a ccd cl outer) base (envX cn cs L a ccd cl :: outer) g') (F' : Fr g' L' s.heap m') (X' : (KK w.params).In g') (T' : Top qv looseL mean mg mb g')
    (N' : News g' L' s.heap ((L' + 1 + 1, oT) :: TT))
    (hm1 : m' (Str.ofString "first") = some (.ref a1)) (hm2 : m' (Str.ofString "second") = some (.ref a2))
    (hks : cs.kind = .function) (hdp : dp + 60 < recursionLimit) (hun : un + 400 < cLine)
    (hret : ∀ D ys h' tk, ys.length = 16 → (∀ (i : Nat) (y : Value), ys[i]? = some y → ∃ t, y = .int ((ps3.map (·.1)).getD (2 * (ps1.map (·.1)).getD i 0 + (ps2.map (·.1)).getD i 0).toNat 0) t) → Fr g' L' h' m' → News g' L' h' ((D, lsT ys) :: (L' + 1 + 1, oT) :: TT) → (∀ p ∈ (L' + 1 + 1, oT) :: TT, @LT.lt Nat _ p.1 D) → s.toks ≤ tk → Q (.ref D) { s with heap := h', toks := tk }) :
    wpAny (model Challenge.rw_wf0091_01.prog w) ((ktrTop dp un gd cn cs L a ccd cl outer).deeper (drEnv L')) (eval binE (drEnv L')) Q E s := by
  have e : binE = .ListComp _ _ _ _ := rfl
  rw [e]
  obtain ⟨H, gs, dr, tks, os⟩ := s
  dsimp only at F' N' hret
  refine ListComp_T (h₀ := g') (L := L') (cl := [(Str.ofString "truth", L' + 1 + 1)]) (by with_unfolding_all rfl) (by decide) rfl (by decide) rfl rfl (by decide) rfl (by intro _; rfl) ?_
  revert F' N' hret
  revert B' X' T'
  k_fill
  intro B' X' T' F' N' hret
  wrow_steps
  refine ⟨?_⟩
  have hh1 : H.IsList a1 (ps1.map intV).toArray := ⟨_, (N' _ (.tail _ h1)).1, rfl, n1, rfl⟩
  have hh2 : H.IsList a2 (ps2.map intV).toArray := ⟨_, (N' _ (.tail _ h2)).1, rfl, n2, rfl⟩
  refine zip_rows (s := ⟨H, _, _, _, _⟩) F' hh1 hh2 fun h' z TI TO i1 i2 D st F2 hk b1 b2 b3 b4 b5 => ?_
  refine ⟨z, [z, TI, TO, i1, i2, a1, a2], [z, TO, i1, i2], _, _, _, _, m', (L' + 1 + 1, oT) :: TT, fun i y => ∃ t, y = .int ((ps3.map (·.1)).getD (2 * (ps1.map (·.1)).getD i 0 + (ps2.map (·.1)).getD i 0).toNat 0) t, rfl, WalksT.zip2 rfl z TI TO i1 i2 a1 a2 D (ps1.map intV).toArray (ps2.map intV).toArray, st, ?_, ?_, F2, ?_, ?_, ?_, ?_⟩
  · intro b hb
    try dsimp only
    simp only [List.mem_cons, List.not_mem_nil, or_false] at hb
    obtain ⟨q1, q2, ⟨_, _, q3⟩, ⟨_, q4, _⟩, ⟨_, q5, _⟩, ⟨_, q6, _⟩, ⟨_, q7, _⟩⟩ := st
    rcases hb with rfl | rfl | rfl | rfl | rfl | rfl | rfl
    · exact Heap.lt_size q1
    · exact Heap.lt_size q2
    · exact Heap.lt_size q3
    · exact Heap.lt_size q4
    · exact Heap.lt_size q5
    · exact Heap.lt_size q6
    · exact Heap.lt_size q7
  · simp only [List.size_toArray, List.length_map, hl1, hl2]; decide
  · exact fun p hp => ⟨hk _ _ (N' p hp).1, (N' p hp).2⟩
  · have key : ∀ b : Addr, H.objs.size ≤ b → @LT.lt Nat _ L' b → g'.get? b = none ∧ b ≠ L' ∧ ∀ p ∈ (L' + 1 + 1, oT) :: TT, p.1 ≠ b := by
      intro b hb hb2
      refine ⟨?_, Nat.ne_of_gt hb2, fun p hp => Nat.ne_of_lt (Nat.lt_of_lt_of_le (Heap.lt_size (N' p hp).1) hb)⟩
      cases e : g'.get? b with
      | none => rfl
      | some o => exact absurd (Heap.lt_size (F'.keep b o e)) (Nat.not_lt.mpr hb)
    intro b hb
    simp only [List.mem_cons, List.not_mem_nil, or_false] at hb
    rcases hb with rfl | rfl | rfl | rfl
    · exact key _ b1 b5.1
    · exact key _ b2 b5.2.1
    · exact key _ b3 b5.2.2.1
    · exact key _ b4 b5.2.2.2
  · rintro i vals ⟨x, y, hx, hy, rfl⟩
    refine ⟨x, y, rfl, fun C oC s₂ m₂ E' hC hp hq F₂ N₂ => ?_⟩
    rw [List.getElem?_toArray, List.getElem?_map] at hx hy
    obtain ⟨⟨p, t1⟩, hp1, rfl⟩ := Option.map_eq_some_iff.mp hx
    obtain ⟨⟨q, t2⟩, hq1, rfl⟩ := Option.map_eq_some_iff.mp hy
    have e1 : (ps1.map (·.1)).getD i 0 = p := by rw [List.getD_eq_getElem?_getD, List.getElem?_map, hp1]; rfl
    have e2 : (ps2.map (·.1)).getD i 0 = q := by rw [List.getD_eq_getElem?_getD, List.getElem?_map, hq1]; rfl
    have b1' : p = 0 ∨ p = 1 := hb1 _ (List.mem_of_getElem? hp1)
    have b2' : q = 0 ∨ q = 1 := hb2 _ (List.mem_of_getElem? hq1)
    simp only [e1, e2]
    change m₂ (Str.ofString "p") = some (Value.int p t1) at hp
    change m₂ (Str.ofString "q") = some (Value.int q t2) at hq
    obtain ⟨t9, h9⟩ := ints_at (vs := ps3.map intV) (ns := ps3.map (·.1)) (ints_map ps3) (2 * p + q).toNat (by rw [List.length_map, hl3]; exact tn_lt (pq_lt b1' b2'))
    have hit : ItemAt (ps3.map intV) (2 * p + q) (.int ((ps3.map (·.1)).getD (2 * p + q).toNat 0) t9) := ⟨(pq_lt b1' b2').1, Int.lt_trans (pq_lt b1' b2').2 (by decide), h9⟩
    generalize (ps3.map (·.1)).getD (2 * p + q).toNat 0 = v at hit
    have h3' : (a3, listOf (ps3.map intV).toArray n3) ∈ (C, oC) :: (L' + 1 + 1, oT) :: TT := .tail _ (.tail _ h3)
    obtain ⟨H2, gs2, dr2, tk2, os2⟩ := s₂
    dsimp only at F₂ N₂
    wrow_steps
    all_goals ((try dsimp only); omega)
  · intro D2 ys h2 tk2 hyl hys F3 N3 hn3 htk3
    simp only [List.size_toArray, List.length_map, hl1, hl2] at hyl
    dsimp only at htk3
    exact hret D2 ys h2 tk2 hyl hys F3 N3 hn3 htk3
noncomputable def tab2 (tr f1 f2 : List Int) : List Int := (List.range 16).map fun i => tr.getD (2 * f1.getD i 0 + f2.getD i 0).toNat 0
theorem tab_of {ys : List Value} {f : Nat → Int} {n : Nat} (hl : ys.length = n) (h : ∀ (i : Nat) (y : Value), ys[i]? = some y → ∃ t, y = .int (f i) t) : ∃ ps : List (Int × Tok), ys = ps.map intV ∧ ps.map (·.1) = (List.range n).map f := by
  induction n generalizing ys with
  | zero =>
    obtain rfl := List.eq_nil_of_length_eq_zero hl
    exact ⟨[], rfl, rfl⟩
  | succ n ih =>
    have hne : ys ≠ [] := by rintro rfl; simp at hl
    have hd := (List.dropLast_concat_getLast hne).symm
    have hl2 : ys.dropLast.length = n := by simp [hl]
    obtain ⟨ps, h1, h2⟩ := ih hl2 (fun i y hy => by
      have hi : i < ys.dropLast.length := (List.getElem?_eq_some_iff.mp hy).1
      refine h i y ?_
      rw [hd, List.getElem?_append_left hi]
      exact hy)
    obtain ⟨t, ht⟩ := h n (ys.getLast hne) (by
      have e : ys[n]? = (ys.dropLast ++ [ys.getLast hne])[n]? := by rw [← hd]
      rw [e, List.getElem?_append_right (by omega)]
      simp [hl2])
    refine ⟨ps ++ [(f n, t)], ?_, ?_⟩
    · rw [hd, h1, ht, List.map_append]; rfl
    · rw [List.map_append, h2, List.range_succ, List.map_append]; rfl
end
section
theorem one_size (v : Value) : [v].length ≤ sizeLine := by show 1 ≤ sizeLine; decide +kernel
local macro_rules | `(tactic| walk_at "newList") => `(tactic| (k_here; k_dflt (refine' newList_K (hsz := one_size _) (by k_asm) (by k_asm) ?_; k_whole); intro l' h' F' N' l1; (try k_lt l1)))
local macro_rules | `(tactic| walk_at "call type:zip") => `(tactic| (k_here; (with_reducible refine Stop.out ?_)))
local macro_rules | `(tactic| walk_at "eval ListComp") => `(tactic| (k_here; (with_reducible refine Stop.out ?_)))
noncomputable def DrawPost (g' : Heap) (L' pa : Addr) (oT : Obj) (TT : List (Addr × Obj)) (m' : Str → Option Value) (tk0 : Nat) (text : Str) (us : List Value) (tabs : List (List Int)) (s : Shared) (P : Shared → Prop) : Prop :=
  ∀ (ma : Addr) (mvs : List Value) (mn pn' : Nat) (tt' : Tok) (tl : List (Addr × Obj)) (h' : Heap) (tk' : Nat) (m'' : Str → Option Value), Fr g' L' h' m'' → News g' L' h' ((pa, listOf us.toArray pn') :: (L' + 1 + 1, oT) :: (tl ++ TT)) → (ma, listOf mvs.toArray mn) ∈ tl → tk0 ≤ tk' → TabsIn (tl ++ TT) mvs tabs → TkOk tk' tt' →
    m'' (Str.ofString "text") = some (.str text tt') → m'' (Str.ofString "made") = some (.ref ma) → (∀ y, y ≠ Str.ofString "text" → y ≠ Str.ofString "made" → y ≠ Str.ofString "first" → y ≠ Str.ofString "second" → m'' y = m' y) →
    (∀ p ∈ tl, @Ne Nat pa p.1 ∧ @Ne Nat (L' + 1 + 1) p.1 ∧ ∀ q ∈ TT, @Ne Nat q.1 p.1) → P { s with heap := h', toks := tk' }
theorem perm5 {α : Type} {a b c d : α} {l : List α} : ∀ p ∈ d :: c :: ([a, b] ++ l), p ∈ a :: b :: c :: d :: l := by
  intro p hp
  simp only [List.mem_cons, List.mem_append, List.not_mem_nil, or_false] at hp ⊢
  rcases hp with h | h | (h | h) | h <;> simp [h]
set_option maxHeartbeats 4000000 in
theorem draw_bin {w : World} {pa : Addr} {us : List Value} {v1 v2 : Value} {pn tk0 : Nat} {x : Int} {tx tt th ts : Tok} {oT : Obj} {tv : Value} {TT : List (Addr × Obj)} {text sg hid : Str} {tr f1 f2 : List Int}
    (hx : 0 ≤ x ∧ x < 1000000) (hx4 : 1 < x.fmod 4) (hsg : (sg != Str.ofString "~") = true) (hul : us.length ≤ 1000) (h26 : 2600 ≤ tk0) (hoT : oT.data = .cell (some tv)) (htr : TabIn TT tv tr) (hf1 : TabIn TT v1 f1) (hf2 : TabIn TT v2 f2)
    (hl1 : f1.length = 16) (hl2 : f2.length = 16) (hb1 : ∀ z ∈ f1, z = 0 ∨ z = 1) (hb2 : ∀ z ∈ f2, z = 0 ∨ z = 1) (hl3 : tr.length = 4) (htz : text.length ≤ 10000) (hsz : sg.length ≤ 10) (hhz : hid.length ≤ 10)
    (htt : TkOk tk0 tt) (hth : TkOk tk0 th) (hts : TkOk tk0 ts)
    (B' : Below (ktrTop dp un gd cn cs L a ccd cl outer) base (envX cn cs L a ccd cl :: outer) g') (F' : Fr g' L' s.heap m') (X' : (KK w.params).In g') (T' : Top qv looseL mean mg mb g')
    (N' : News g' L' s.heap ((pa, listOf (us ++ [v1] ++ [v2]).toArray pn) :: (L' + 1 + 1, oT) :: TT)) (hcT : ∀ p ∈ TT, p.1 ≠ pa) (hcp : @Ne Nat pa (L' + 1 + 1))
    (hm1 : m' (Str.ofString "x") = some (.int x tx)) (hm2 : m' (Str.ofString "sign") = some (.str sg ts)) (hm3 : m' (Str.ofString "pile") = some (.ref pa)) (hm4 : m' (Str.ofString "hidden") = some (.str hid th)) (hm5 : m' (Str.ofString "text") = some (.str text tt))
    (hks : cs.kind = .function) (hdp : dp + 60 < recursionLimit) (hun : un + 400 < cLine) (htk : tk0 ≤ s.toks)
    (hret : DrawPost g' L' pa oT TT m' s.toks (text ++ (Str.ofString " " ++ Txt.slice sg none (some 1) ++ hid ++ Txt.slice sg (some 1) none)) us [tab2 tr f1 f2] s fun s' => Stop (wpAny (model Challenge.rw_wf0091_01.prog w) ((ktrTop dp un gd cn cs L a ccd cl outer).deeper (drEnv L')) (execs ((bodyAt (fnOfStm 78).2.1 8).drop 5) (drEnv L')) Qf E s')) :
    wpAny (model Challenge.rw_wf0091_01.prog w) ((ktrTop dp un gd cn cs L a ccd cl outer).deeper (drEnv L')) (execs ((bodyAt (fnOfStm 78).2.1 8).drop 4) (drEnv L')) Qf E s := by
  with_reducible refine' execs_split (xs := [_]) (ys := (bodyAt (fnOfStm 78).2.1 8).drop 5) ?q_e ?q_go
  case q_e => exact rfl
  obtain ⟨H, gs, dr, tks, os⟩ := s
  dsimp only at F' N' htk hret
  revert F' N' htk hret
  revert B' X' T'
  k_fill
  intro B' X' T' F' N' htk hret
  have htt1 := htt.mono htk
  have hth1 := hth.mono htk
  have hts1 := hts.mono htk
  have hs1 := Txt.slice_le sg none (some 1)
  have hs2 := Txt.slice_le sg (some 1) none
  have hsp : (Str.ofString " ").length = 1 := by decide +kernel
  have hw1 : (us ++ [v1]).length = us.length + 1 := by simp
  have hw2 : (us ++ [v1] ++ [v2]).length = us.length + 2 := by simp
  have hTp : ∀ p ∈ (L' + 1 + 1, oT) :: TT, p.1 ≠ pa := off_cons (fun e => hcp e.symm) hcT
  wrow_steps
  refine ⟨?_⟩
  rename News g' L' _ _ => kN
  rename Fr g' L' _ _ => kF
  obtain ⟨a1, n1, ps1, rfl, hm1', rfl⟩ := hf1
  obtain ⟨a2, n2, ps2, rfl, hm2', rfl⟩ := hf2
  obtain ⟨a3, n3, ps3, rfl, hm3', rfl⟩ := htr
  rename TkOk _ _ => htk7
  refine bin_comp (a1 := a1) (a2 := a2) (ps1 := ps1) (ps2 := ps2) (ps3 := ps3) (TT := (pa, listOf us.toArray (pn + 1 + 1)) :: TT) hoT (.tail _ hm1') (.tail _ hm2') (.tail _ hm3') (by simpa using hl1) (by simpa using hl2) (by simpa using hl3) (fun z hz => hb1 _ (List.mem_map_of_mem hz)) (fun z hz => hb2 _ (List.mem_map_of_mem hz)) B' kF X' T' (News.sub kN swap2) ?q_1 ?q_2 hks hdp hun ?q_r
  case q_1 => with_unfolding_all rfl
  case q_2 => with_unfolding_all rfl
  case q_r =>
    intro D ys h9 tk9 hyl hys F9 N9 hn9 htk9
    dsimp only at htk9
    clear kF kN
    wrow_steps
    rename News g' L' _ _ => kN
    rename Fr g' L' _ _ => kF
    rename @LT.lt Nat _ D _ ∧ _ ∧ _ ∧ AllLt _ TT => hlt
    obtain ⟨ps9, hys9, hps9⟩ := tab_of hyl hys
    subst hys9
    refine' hret _ [.ref D] 0 (pn + 1 + 1) _ [(_, listOf #[.ref D] 0), (D, lsT (ps9.map intV))] _ _ _ kF (News.sub kN ?p_1) ?p_0 (by omega) ?p_2 (htk7.mono (by omega)) ?p_3 ?p_4 ?p_5 ?p_6
    case p_4 => with_unfolding_all rfl
    case p_0 => exact .head _
    case p_1 => exact perm5
    case p_2 =>
      refine ⟨rfl, fun i v tb h1 h2 => ?_⟩
      match i, h1, h2 with
      | 0, h1, h2 =>
        cases h1; cases h2
        exact ⟨D, _, ps9, rfl, .tail _ (.head _), hps9⟩
      | i + 1, h1, h2 => exact nomatch h1
    case p_3 => with_unfolding_all rfl
    case p_5 =>
      intro y y1 y2 y3 y4
      simp [y1, y2, y3, y4]
    case p_6 =>
      intro p hp
      simp only [List.mem_cons, List.not_mem_nil, or_false] at hp
      rcases hp with rfl | rfl
      · exact ⟨Nat.ne_of_lt hlt.2.2.1, Nat.ne_of_lt hlt.2.1, fun q hq => Nat.ne_of_lt (allLt_mem hlt.2.2.2 q hq)⟩
      · exact ⟨Nat.ne_of_lt (hn9 _ (.tail _ (.head _))), Nat.ne_of_lt (hn9 _ (.head _)), fun q hq => Nat.ne_of_lt (hn9 _ (.tail _ (.tail _ hq)))⟩
end
section
section
variable {prog : Program} {w : World} {A : Around} {E : Value → Shared → Prop} {s : Shared} {h₀ : Heap} {L : Addr} {m : Str → Option Value} {env : Env}
open LCg LCt
theorem rest_inv {elt : Expr} {x : Str} {scope : Scope} {cl : List (Str × Addr)} {S : List (Addr × Obj) → Prop} {P : Nat → Value → Prop} {Fin : List Value → List (Addr × Obj) → Prop} {n : Nat} (Inv : Nat → List Value → List (Addr × Obj) → Prop)
    (step : ∀ i v I oI C oC D ys news m₂ h tk (E' : Value → Shared → Prop), i < n → Inv i ys news → P i v → NsObj oC m₂ → m₂ x = some v → Fr h₀ L h m → News h₀ L h ((I, oI) :: (C, oC) :: (D, lst ys) :: news) → Off3 I C D news → ((@Ne Nat I C) ∧ (@Ne Nat I D) ∧ (@Ne Nat C D)) →
      wpAny (model prog w) A (eval elt (compEnvC scope cl C env)) (CompEnd h₀ L m { s with heap := h, toks := tk } I oI C oC D (lst ys) S (fun y news' => Inv (i + 1) (ys ++ [y]) news')) E' { s with heap := h, toks := tk })
    (fin : ∀ ys news, Inv n ys news → Fin ys news) : ∀ (k i : Nat) (ys : List Value) (news : List (Addr × Obj)), i + k = n → Inv i ys news → CompRest prog w A h₀ L m env elt x scope cl s S P Fin k i ys news
  | 0, i, ys, news, hk, hI => fin _ _ (by have e : i = n := hk; exact e ▸ hI)
  | k + 1, i, ys, news, hk, hI => CompRest.succ fun v I oI C oC D m₂ h tk E' hP hC hx F N off ne =>
      wpAny_mono (step i v I oI C oC D ys news m₂ h tk E' (by omega) hI hP hC hx F N off ne) (fun y s₃ q => by obtain ⟨h', tk', news', e, F', N', off', hS, hI'⟩ := q; exact ⟨h', tk', news', e, F', N', off', hS, rest_inv Inv step fin k (i + 1) _ _ (by omega) hI'⟩) fun _ _ e => e
theorem restT_inv {ct elt : Expr} {x : Str} {scope : Scope} {cl : List (Str × Addr)} {S : List (Addr × Obj) → Prop} {P : Nat → Value → Prop} {Fin : List Value → List (Addr × Obj) → Prop} {n : Nat} (Inv : Nat → List Value → List (Addr × Obj) → Prop)
    (step : ∀ i v I oI C oC D ys news m₂ h tk (E' : Value → Shared → Prop), i < n → Inv i ys news → P i v → NsObj oC m₂ → m₂ x = some v → Fr h₀ L h m → News h₀ L h ((I, oI) :: (C, oC) :: (D, lst ys) :: news) → Off3 I C D news → ((@Ne Nat I C) ∧ (@Ne Nat I D) ∧ (@Ne Nat C D)) →
      wpAny (model prog w) A (isTrue ct (compEnvC scope cl C env) (eval ct (compEnvC scope cl C env))) (fun ok s' => if ok = true then
        wpAny (model prog w) A (eval elt (compEnvC scope cl C env)) (CompEnd h₀ L m { s with heap := h, toks := tk } I oI C oC D (lst ys) S (fun y news' => Inv (i + 1) (ys ++ [y]) news')) E' s'
        else CompEnd h₀ L m { s with heap := h, toks := tk } I oI C oC D (lst ys) S (fun _ news' => Inv (i + 1) ys news') Value.none s') E' { s with heap := h, toks := tk })
    (fin : ∀ ys news, Inv n ys news → Fin ys news) : ∀ (k i : Nat) (ys : List Value) (news : List (Addr × Obj)), i + k = n → Inv i ys news → CompRestT prog w A h₀ L m env ct elt x scope cl s S P Fin k i ys news
  | 0, i, ys, news, hk, hI => fin _ _ (by have e : i = n := hk; exact e ▸ hI)
  | k + 1, i, ys, news, hk, hI => CompRestT.succ fun v I oI C oC D m₂ h tk E' hP hC hx F N off ne =>
      wpAny_mono (step i v I oI C oC D ys news m₂ h tk E' (by omega) hI hP hC hx F N off ne) (fun ok s₃ q => by
        have key : ∀ {y : Value} {s₄ : Shared} {ys' : List Value}, CompEnd h₀ L m { s with heap := h, toks := tk } I oI C oC D (lst ys) S (fun y' news' => Inv (i + 1) (if ok = true then ys ++ [y'] else ys) news') y s₄ → CompEnd h₀ L m { s with heap := h, toks := tk } I oI C oC D (lst ys) S (fun y' news' => CompRestT prog w A h₀ L m env ct elt x scope cl s S P Fin k (i + 1) (if ok = true then ys ++ [y'] else ys) news') y s₄ :=
          fun q => by obtain ⟨h', tk', news', e, F', N', off', hS, hI'⟩ := q; exact ⟨h', tk', news', e, F', N', off', hS, restT_inv Inv step fin k (i + 1) _ _ (by omega) hI'⟩
        cases ok with
        | true => simp only [if_true] at q key ⊢; exact wpAny_mono q (fun y s₄ q' => key (ys' := ys) q') fun _ _ e => e
        | false => simp only [Bool.false_eq_true, if_false] at q key ⊢; exact key (ys' := ys) q) fun _ _ e => e
theorem off1_mem {D : Addr} (l : List (Addr × Obj)) : Off1 D l → ∀ p ∈ l, @Ne Nat p.1 D := by
  induction l with
  | nil => intro _ p hp; exact absurd hp (List.not_mem_nil)
  | cons q l ih =>
    intro h p hp
    rcases List.mem_cons.mp hp with rfl | hp
    · exact h.1
    · exact ih h.2 p hp
theorem ListComp_V {elt iter : Expr} {x : Str} {px : Pos} {scope : Scope} {cl : List (Str × Addr)} {pos : Pos} {Q : Value → Shared → Prop} (F₀ : Fr h₀ L s.heap m)
    (hclos : closureFor scope env = pure cl) (hcell : ∀ y ∈ scope.names, y.2 ≠ .cell) (hkind : scope.kind = .function)
    (hnames : ∀ y ∈ scope.names, y.2 = .local → scope.names.lookup y.1 = some .local) (hx : scope.names.lookup x = some .local)
    (hh : A.handled = none) {ax : Addr} {its : List Value} {k : Nat} {news : List (Addr × Obj)} (hm : (ax, listOf its.toArray k) ∈ news) (hsz : its.length ≤ 1000) (G : Nat → Value → Prop)
    (h : wpAny (model prog w) A (eval iter env) (fun xv s₁ => xv = .ref ax ∧ s.toks ≤ s₁.toks ∧ (∃ h tk, s₁ = { s with heap := h, toks := tk }) ∧ Fr h₀ L s₁.heap m ∧ News h₀ L s₁.heap news) E s)
    (step : ∀ i v C oC TT m₂ (s₂ : Shared) (E' : Value → Shared → Prop), its[i]? = some v → NsObj oC m₂ → m₂ x = some v → (∀ p ∈ news, p ∈ TT) → Fr h₀ L s₂.heap m → News h₀ L s₂.heap ((C, oC) :: TT) →
      wpAny (model prog w) A (eval elt (compEnvC scope cl C env)) (fun y s₃ => G i y ∧ ∃ h tk, s₃ = { s₂ with heap := h, toks := tk } ∧ Fr h₀ L h m ∧ News h₀ L h ((C, oC) :: TT)) E' s₂)
    (fin : ∀ D ys h tk, ys.length = its.length → (∀ (i : Nat) (y : Value), ys[i]? = some y → G i y) → Fr h₀ L h m → News h₀ L h ((D, lst ys) :: news) → (∀ p ∈ news, @Ne Nat p.1 D) → s.toks ≤ tk → Q (.ref D) { s with heap := h, toks := tk })
    (hs : ∀ x, foldedSetIterable iter env x = pure x := by intro _; rfl) :
    wpAny (model prog w) A (eval (.ListComp elt [⟨.Name x px, iter, [], 0⟩] scope pos) env) Q E s := by
  refine wpAny_mono (wpAny_with_toks (Nat.le_refl _) (ListComp_U (E := fun v s' => s.toks ≤ s'.toks → E v s') (Q := fun v s' => s.toks ≤ s'.toks → Q v s') F₀ hclos hcell hkind hnames hx ?_ hs)) (fun _ _ q => q) fun _ _ e => e
  refine wpAny_mono h (fun xv s₁ h₁ => ?_) fun _ _ e _ => e
  obtain ⟨rfl, htk₁, ⟨h₁, tk₁, rfl⟩, F, N⟩ := h₁
  refine CompSrc.ledger hh F N hm (Nat.le_trans (by simpa using hsz) (by rw [sizeLine_eq]; decide)) fun g => ?_
  refine rest_inv (n := its.toArray.size) (fun i ys news' => news' = news ∧ ys.length = i ∧ ∀ (j : Nat) (y : Value), ys[j]? = some y → G j y) ?_ ?_ _ 0 [] news (Nat.zero_add _) ⟨rfl, rfl, fun j y e => by simp at e⟩
  · rintro i v I oI C oC D ys news' m₂ h tk E' hi ⟨rfl, hyl, hys⟩ hP hC hx F N off ne
    rw [List.getElem?_toArray] at hP
    refine wpAny_mono (step i v C oC ((I, oI) :: (D, lst ys) :: news') m₂ _ E' hP hC hx (fun p hp => .tail _ (.tail _ hp)) F (News.sub N swap2)) (fun y s₃ q => ?_) fun _ _ e => e
    obtain ⟨hG, h', tk', rfl, F', N'⟩ := q
    refine ⟨h', tk', news', rfl, F', News.sub N' swap2, off, .inr ⟨_, hm, rfl, _, rfl⟩, rfl, by simp [hyl], fun j z hz => ?_⟩
    rcases Nat.lt_trichotomy j ys.length with hj | hj | hj
    · rw [List.getElem?_append_left hj] at hz; exact hys j z hz
    · subst hj
      rw [List.getElem?_append_right (Nat.le_refl _)] at hz
      simp at hz
      subst hz; rw [hyl]; exact hG
    · rw [List.getElem?_eq_none (by rw [List.length_append, List.length_singleton]; omega)] at hz; cases hz
  · rintro ys news' ⟨rfl, hyl, hys⟩
    intro D h tk F N off htk
    exact fin D ys h tk (by simpa using hyl) hys F N (off1_mem _ off) htk
end
end
section
theorem one_size' (v : Value) : [v].length ≤ sizeLine := one_size v
local macro_rules | `(tactic| walk_at "newList") => `(tactic| (k_here; k_dflt (refine' newList_K (hsz := one_size _) (by k_asm) (by k_asm) ?_; k_whole); intro l' h' F' N' l1; (try k_lt l1)))
local macro_rules | `(tactic| walk_at "eval ListComp") => `(tactic| (k_here; (with_reducible refine Stop.out ?_)))
noncomputable def elseOf (ss : List Stmt) (k : Nat) : List Stmt := match ss[k]? with
  | some (.If _ _ o _) => o
  | _ => []
noncomputable def negE : PySem.Expr := madeOf (ifBranch (elseOf (bodyAt (fnOfStm 78).2.1 8) 4) 0) 2
theorem wp_gen {M : Model} {A : Around} {X : Sem Value} {s : Shared} {Q E : Value → Shared → Prop} (h : ∀ Q2 : Value → Shared → Prop, (∀ y s', Q y s' → Stop (Q2 y s')) → wpAny M A X Q2 E s) : wpAny M A X Q E s := h Q fun _ _ q => ⟨q⟩
theorem neg_comp {w : World} {oT : Obj} {a1 a3 : Addr} {n1 n3 : Nat} {ps1 ps3 : List (Int × Tok)} {TT : List (Addr × Obj)} (hoT : oT.data = .cell (some (.ref a3)))
    (h1 : (a1, listOf (ps1.map intV).toArray n1) ∈ TT) (h3 : (a3, listOf (ps3.map intV).toArray n3) ∈ TT)
    (hl1 : ps1.length = 16) (hl3 : ps3.length = 2) (hb1 : ∀ z ∈ ps1, z.1 = 0 ∨ z.1 = 1)
    {dp un : Nat} {gd : Option (List Code)} {cn : Str} {cs : Scope} {a : Addr} {ccd : Value} {cl : List (Str × Addr)} {outer : List Env} {base g' : Heap} {L L' : Addr} {s : Shared} {mean : ExcName → Option Value} {mg mb m' : Str → Option Value} {Q : Value → Shared → Prop} {E : Value → Shared → Prop}
    (B' : Below (ktrTop dp un gd cn cs L a ccd cl outer) base (envX cn cs L a ccd cl :: outer) g') (F' : Fr g' L' s.heap m') (X' : (KK w.params).In g') (T' : Top qv looseL mean mg mb g')
    (N' : News g' L' s.heap ((L' + 1 + 1, oT) :: TT))
    (hm1 : m' (Str.ofString "first") = some (.ref a1))
    (hks : cs.kind = .function) (hdp : dp + 60 < recursionLimit) (hun : un + 400 < cLine)
    (hret : ∀ D ys h' tk, ys.length = 16 → (∀ (i : Nat) (y : Value), ys[i]? = some y → ∃ t, y = .int ((ps3.map (·.1)).getD (Int.toNat ((ps1.map (·.1)).getD i 0)) 0) t) → Fr g' L' h' m' → News g' L' h' ((D, lsT ys) :: (L' + 1 + 1, oT) :: TT) → (∀ p ∈ (L' + 1 + 1, oT) :: TT, @Ne Nat p.1 D) → s.toks ≤ tk → Q (.ref D) { s with heap := h', toks := tk }) :
    wpAny (model Challenge.rw_wf0091_01.prog w) ((ktrTop dp un gd cn cs L a ccd cl outer).deeper (drEnv L')) (eval negE (drEnv L')) Q E s := by
  have e : negE = .ListComp _ _ _ _ := rfl
  rw [e]
  obtain ⟨H, gs, dr, tks, os⟩ := s
  dsimp only at F' N' hret
  refine ListComp_V (news := (L' + 1 + 1, oT) :: TT) (cl := [(Str.ofString "truth", L' + 1 + 1)]) F' (by with_unfolding_all rfl) (by decide) rfl (by decide) rfl rfl (.tail _ h1) (by simp [hl1]) (fun i y => ∃ t, y = .int ((ps3.map (·.1)).getD (Int.toNat ((ps1.map (·.1)).getD i 0)) 0) t) ?_ ?_ ?_ (by intro _; rfl)
  · refine nameX_L (x := Str.ofString "first") (cn := Str.ofString "_law_drawn") (cs := (fnOfStm 78).2.2) (L := L') (a := 226) (ccd := .ref 225) F' hm1 ?_ rfl rfl (by decide)
    exact ⟨rfl, Nat.le_refl _, ⟨_, _, rfl⟩, F', N'⟩
  · intro i v C oC TT' m₂ s₂ E' hi hC hp hsub F₂ N₂
    rw [List.getElem?_map] at hi
    obtain ⟨⟨p, t1⟩, hp1, rfl⟩ := Option.map_eq_some_iff.mp hi
    have e1 : (ps1.map (·.1)).getD i 0 = p := by rw [List.getD_eq_getElem?_getD, List.getElem?_map, hp1]; rfl
    have b1' : p = 0 ∨ p = 1 := hb1 _ (List.mem_of_getElem? hp1)
    simp only [e1]
    change m₂ (Str.ofString "p") = some (Value.int p t1) at hp
    obtain ⟨t9, h9⟩ := ints_at (vs := ps3.map intV) (ns := ps3.map (·.1)) (ints_map ps3) p.toNat (by rw [List.length_map, hl3]; exact tn_lt (p_lt b1'))
    have hit : ItemAt (ps3.map intV) p (.int ((ps3.map (·.1)).getD p.toNat 0) t9) := ⟨(p_lt b1').1, Int.lt_trans (p_lt b1').2 (by decide), h9⟩
    generalize (ps3.map (·.1)).getD p.toNat 0 = v at hit
    have h3' : (a3, listOf (ps3.map intV).toArray n3) ∈ (C, oC) :: TT' := .tail _ (hsub _ (.tail _ h3))
    have hT' : (L' + 1 + 1, oT) ∈ (C, oC) :: TT' := .tail _ (hsub _ (.head _))
    have N₃ : News g' L' s₂.heap ((L' + 1 + 1, oT) :: (C, oC) :: TT') := fun p hp => by
      rcases List.mem_cons.mp hp with rfl | hp
      · exact N₂ _ hT'
      · exact N₂ _ hp
    obtain ⟨H2, gs2, dr2, tk2, os2⟩ := s₂
    dsimp only at F₂ N₂
    refine wp_gen fun Q2 hq => ?_
    clear N₂ hret
    dsimp only at N₃
    replace hq : ∀ h' tk', Fr g' L' h' m' → News g' L' h' ((L' + 1 + 1, oT) :: (C, oC) :: TT') → Stop (Q2 (.int v t9) { heap := h', gens := gs2, drawn := dr2, toks := tk', os := os2 }) := fun h' tk' F N => hq _ _ ⟨⟨_, rfl⟩, _, _, rfl, F, fun p hp => N p (.tail _ hp)⟩
    have h3'' : (a3, listOf (ps3.map intV).toArray n3) ∈ (L' + 1 + 1, oT) :: (C, oC) :: TT' := .tail _ h3'
    revert F₂ N₃
    revert B' X' T'
    k_fill
    intro B' X' T' F₂ N₃
    wrow_steps
    rename News g' L' _ _ => kN
    rename Fr g' L' _ _ => kF
    exact (hq _ _ kF kN).out
  · intro D ys h tk hyl hys F N hD htk
    exact hret D ys h tk (by simpa [hl1] using hyl) hys F N hD htk
noncomputable def tab1 (tr f1 : List Int) : List Int := (List.range 16).map fun i => tr.getD (Int.toNat (f1.getD i 0)) 0
set_option maxHeartbeats 4000000 in
theorem draw_neg {w : World} {pa : Addr} {us : List Value} {v1 : Value} {pn tk0 : Nat} {x : Int} {tx tt th ts : Tok} {oT : Obj} {tv : Value} {TT : List (Addr × Obj)} {text sg hid : Str} {tr f1 : List Int}
    (hx : 0 ≤ x ∧ x < 1000000) (hx4 : 1 < x.fmod 4) (hsg : (sg == Str.ofString "~") = true) (hsg1 : (sg != Str.ofString "~") = false) (hul : us.length ≤ 1000) (h26 : 2600 ≤ tk0) (hoT : oT.data = .cell (some tv)) (htr : TabIn TT tv tr) (hf1 : TabIn TT v1 f1)
    (hl1 : f1.length = 16) (hb1 : ∀ z ∈ f1, z = 0 ∨ z = 1) (hl3 : tr.length = 2) (htz : text.length ≤ 10000) (hhz : hid.length ≤ 10)
    (htt : TkOk tk0 tt) (hth : TkOk tk0 th) (hts : TkOk tk0 ts)
    (B' : Below (ktrTop dp un gd cn cs L a ccd cl outer) base (envX cn cs L a ccd cl :: outer) g') (F' : Fr g' L' s.heap m') (X' : (KK w.params).In g') (T' : Top qv looseL mean mg mb g')
    (N' : News g' L' s.heap ((pa, listOf (us ++ [v1]).toArray pn) :: (L' + 1 + 1, oT) :: TT)) (hcT : ∀ p ∈ TT, p.1 ≠ pa) (hcp : @Ne Nat pa (L' + 1 + 1))
    (hm1 : m' (Str.ofString "x") = some (.int x tx)) (hm2 : m' (Str.ofString "sign") = some (.str sg ts)) (hm3 : m' (Str.ofString "pile") = some (.ref pa)) (hm4 : m' (Str.ofString "hidden") = some (.str hid th)) (hm5 : m' (Str.ofString "text") = some (.str text tt))
    (hks : cs.kind = .function) (hdp : dp + 60 < recursionLimit) (hun : un + 400 < cLine) (htk : tk0 ≤ s.toks)
    (hret : DrawPost g' L' pa oT TT m' s.toks (text ++ (Str.ofString " ~" ++ hid)) us [tab1 tr f1] s fun s' => Stop (wpAny (model Challenge.rw_wf0091_01.prog w) ((ktrTop dp un gd cn cs L a ccd cl outer).deeper (drEnv L')) (execs ((bodyAt (fnOfStm 78).2.1 8).drop 5) (drEnv L')) Qf E s')) :
    wpAny (model Challenge.rw_wf0091_01.prog w) ((ktrTop dp un gd cn cs L a ccd cl outer).deeper (drEnv L')) (execs ((bodyAt (fnOfStm 78).2.1 8).drop 4) (drEnv L')) Qf E s := by
  with_reducible refine' execs_split (xs := [_]) (ys := (bodyAt (fnOfStm 78).2.1 8).drop 5) ?q_e ?q_go
  case q_e => exact rfl
  obtain ⟨H, gs, dr, tks, os⟩ := s
  dsimp only at F' N' htk hret
  revert F' N' htk hret
  revert B' X' T'
  k_fill
  intro B' X' T' F' N' htk hret
  have htt1 := htt.mono htk
  have hth1 := hth.mono htk
  have hts1 := hts.mono htk
  have hsp : (Str.ofString " ~").length = 2 := by decide +kernel
  have hw1 : (us ++ [v1]).length = us.length + 1 := by simp
  have hTp : ∀ p ∈ (L' + 1 + 1, oT) :: TT, p.1 ≠ pa := off_cons (fun e => hcp e.symm) hcT
  wrow_steps
  refine ⟨?_⟩
  rename News g' L' _ _ => kN
  rename Fr g' L' _ _ => kF
  obtain ⟨a1, n1, ps1, rfl, hm1', rfl⟩ := hf1
  obtain ⟨a3, n3, ps3, rfl, hm3', rfl⟩ := htr
  rename TkOk _ _ => htk7
  refine neg_comp (a1 := a1) (ps1 := ps1) (ps3 := ps3) (TT := (pa, listOf us.toArray (pn + 1)) :: TT) hoT (.tail _ hm1') (.tail _ hm3') (by simpa using hl1) (by simpa using hl3) (fun z hz => hb1 _ (List.mem_map_of_mem hz)) B' kF X' T' (News.sub kN swap2) ?q_1 hks hdp hun ?q_r
  case q_1 => with_unfolding_all rfl
  case q_r =>
    intro D ys h9 tk9 hyl hys F9 N9 hn9 htk9
    dsimp only at htk9
    clear kF kN
    wrow_steps
    rename News g' L' _ _ => kN
    rename Fr g' L' _ _ => kF
    rename @LT.lt Nat _ D _ ∧ _ ∧ _ ∧ AllLt _ TT => hlt
    obtain ⟨ps9, hys9, hps9⟩ := tab_of hyl hys
    subst hys9
    refine' hret _ [.ref D] 0 (pn + 1) _ [(_, listOf #[.ref D] 0), (D, lsT (ps9.map intV))] _ _ _ kF (News.sub kN ?p_1) ?p_0 (by omega) ?p_2 (htk7.mono (by omega)) ?p_3 ?p_4 ?p_5 ?p_6
    case p_4 => with_unfolding_all rfl
    case p_0 => exact .head _
    case p_1 => exact perm5
    case p_2 =>
      refine ⟨rfl, fun i v tb h1 h2 => ?_⟩
      match i, h1, h2 with
      | 0, h1, h2 =>
        cases h1; cases h2
        exact ⟨D, _, ps9, rfl, .tail _ (.head _), hps9⟩
      | i + 1, h1, h2 => exact nomatch h1
    case p_3 => with_unfolding_all rfl
    case p_5 =>
      intro y y1 y2 y3 y4
      simp [y1, y2, y3, y4]
    case p_6 =>
      intro p hp
      simp only [List.mem_cons, List.not_mem_nil, or_false] at hp
      rcases hp with rfl | rfl
      · exact ⟨Nat.ne_of_lt hlt.2.2.1, Nat.ne_of_lt hlt.2.1, fun q hq => Nat.ne_of_lt (allLt_mem hlt.2.2.2 q hq)⟩
      · exact ⟨(hn9 _ (.tail _ (.head _))), hn9 _ (.head _), fun q hq => hn9 _ (.tail _ (.tail _ hq))⟩
end
section
section
variable {prog : Program} {w : World} {A : Around} {E : Value → Shared → Prop} {s : Shared} {h₀ : Heap} {L : Addr} {m : Str → Option Value} {env : Env}
open LCg
theorem strit_st {tx : Str} {t : Tok} {I : Addr} {S : List (Addr × Obj) → Prop} : ∀ i (h h' : Heap) (o : Obj) (nw : List (Addr × Obj)), h.IsStrIter I "str_ascii_iterator" tx t i → h.get? I = some o → h'.get? I = some o → (∀ b o, h₀.get? b = some o → h'.get? b = some o) → News h₀ L h' nw → S nw → h'.IsStrIter I "str_ascii_iterator" tx t i :=
  fun i h h' o nw st e e' _ _ _ => by obtain ⟨o', q, r⟩ := st; rw [e] at q; cases q; exact ⟨o, e', r⟩
theorem Assign_ListComp_S {elt iter : Expr} {x y : Str} {px py : Pos} {scope : Scope} {cl : List (Str × Addr)} {pos spos : Pos} {Q : Flow → Shared → Prop} (hLe : env.locals = L)
    (hsw : swapsWith (.ListComp elt [⟨.Name x px, iter, [], 0⟩] scope pos) (some (.Name y py)) spos.line env = pure true)
    (hclos : closureFor scope env = pure cl) (hcell : ∀ z ∈ scope.names, z.2 ≠ .cell) (hkind : scope.kind = .function)
    (hnames : ∀ z ∈ scope.names, z.2 = .local → scope.names.lookup z.1 = some .local) (hx : scope.names.lookup x = some .local)
    (hy : env.kindOf y = some .local) (hp : (env.scope.kind == .class || (env.scope.kind == .module && env.locals != env.globals)) = false)
    (h : wpAny (model prog w) A (eval iter env) (fun xv s₁ => ∃ tx t news, xv = .str tx t ∧ tx.cps.all (· < 128) = true ∧ A.handled = none ∧ Fr h₀ L s₁.heap m ∧ News h₀ L s₁.heap news ∧ tx.cps.size ≤ sizeLine ∧
      ∀ s₂ : Shared, (∃ h, s₂ = { s₁ with heap := h }) → CompRest prog w A h₀ L m env elt x scope cl s₂ (fun _ => True) (SignAt tx) (FinA h₀ L m s₂ y Q) tx.cps.size 0 [] news) E s)
    (hs : ∀ x, foldedSetIterable iter env x = pure x := by intro _; rfl) :
    wpAny (model prog w) A (exec (.Assign [.Name y py] (.ListComp elt [⟨.Name x px, iter, [], 0⟩] scope pos) spos) env) Q E s := by
  subst hLe
  rw [exec_Assign_Name_used _ _ _ _ hsw]
  refine wpAny_bind (wpAny_standAt (wpAny_bind ?_))
  show wpAny _ A (do let _ ← comprehension (.ListComp elt [⟨.Name x px, iter, [], 0⟩] scope pos) scope env _ (newList []) false (eval iter env) (some (assign (.Name y py) env))) _ _ s
  refine wpAny_bind (wpAny_mono (wpAny_comprehension_free (use := some (assign (.Name y py) env)) (Q := fun _ s' => Q .next s') rfl hs hclos hkind hnames
    (wpAny_mono h (fun xv s₁ h₁ => ?_) fun _ _ e => e)) (fun _ s' hq => wpAny_pure (wpAny_pure hq)) fun _ _ e => e)
  obtain ⟨tx, t, news, rfl, ha, hh, F, N, hsz, R⟩ := h₁
  refine wpAny_pyIter_ascii ha ?_
  refine block_U (Walks.strAscii hh s₁.heap.objs.size tx t) hsz (fun i h st => by obtain ⟨o, e, _⟩ := st; exact ⟨o, e⟩) strit_st hcell hkind hx ⟨_, Heap.get?_push_size _ rfl, rfl, rfl⟩ (fun b hb => ?_)
    (F.keeps fun _ _ e => Heap.get?_push_of_some _ e) (N.grown fun _ _ e => Heap.get?_push_of_some _ e) (Nat.ne_of_lt F.ns.lt) (next_is_new F) (fun p hp => Nat.ne_of_lt (Heap.lt_size (N p hp).1)) trivial (R _ ⟨_, rfl⟩) ?_
  · rw [List.mem_singleton.mp hb]
    show s₁.heap.objs.size < (s₁.heap.push _).objs.size
    rw [Heap.size_push]; exact Nat.lt_succ_self _
  · intro D C h' tk m' ys news' F' N' o1 hn hC₀ hD₀ hCL hDL hCD offC fin
    show wpAny _ A (assign (.Name y py) env (.ref D)) _ _ _
    refine wpAny_assign_Name (wpAny_storeName_local hy F'.ns (fun h₂ hn₂ hs₂ => ?_) hp)
    have hL₀ : h₀.get? env.locals = none := Heap.get?_none_of_le F'.above
    have F₂ : Fr h₀ env.locals h₂ (fun z => if z = y then some (.ref D) else m z) := ⟨hn₂, fun b o e => hs₂.extBut b o (fun q => by rw [q, hL₀] at e; cases e) (F'.keep b o e), F'.above⟩
    refine ⟨m', hn.sameBut hs₂ hCL, fun h'' hs'' => fin D h'' _ (F₂.change hs'' hCL hC₀) (fun p hp => ?_) o1⟩
    have z : h₂.get? p.1 = some p.2 := hs₂.extBut _ _ (N' p hp).2.1 (N' p hp).1
    refine ⟨hs''.extBut _ _ ?_ z, (N' p hp).2⟩
    rcases List.mem_cons.mp hp with rfl | hp
    · exact Ne.symm hCD
    · exact offC p hp
theorem Assign_ListComp_SV {elt iter : Expr} {x y : Str} {px py : Pos} {scope : Scope} {cl : List (Str × Addr)} {pos spos : Pos} {Q : Flow → Shared → Prop} (hLe : env.locals = L)
    (hsw : swapsWith (.ListComp elt [⟨.Name x px, iter, [], 0⟩] scope pos) (some (.Name y py)) spos.line env = pure true)
    (hclos : closureFor scope env = pure cl) (hcell : ∀ z ∈ scope.names, z.2 ≠ .cell) (hkind : scope.kind = .function)
    (hnames : ∀ z ∈ scope.names, z.2 = .local → scope.names.lookup z.1 = some .local) (hx : scope.names.lookup x = some .local)
    (hy : env.kindOf y = some .local) (hp : (env.scope.kind == .class || (env.scope.kind == .module && env.locals != env.globals)) = false) (hh : A.handled = none)
    {tx : Str} (ha : tx.cps.all (· < 128) = true) (hsz : tx.cps.size ≤ 1000) (news : List (Addr × Obj)) (G : Nat → Value → Prop)
    (step : ∀ i v C oC TT m₂ (s₂ : Shared) (E' : Value → Shared → Prop), SignAt tx i v → NsObj oC m₂ → m₂ x = some v → (∀ p ∈ news, p ∈ TT) → Fr h₀ L s₂.heap m → News h₀ L s₂.heap ((C, oC) :: TT) →
      wpAny (model prog w) A (eval elt (compEnvC scope cl C env)) (fun v s₃ => G i v ∧ ∃ h tk, s₃ = { s₂ with heap := h, toks := tk } ∧ Fr h₀ L h m ∧ News h₀ L h ((C, oC) :: TT)) E' s₂)
    (h : wpAny (model prog w) A (eval iter env) (fun xv s₁ => (∃ t, xv = .str tx t) ∧ (∃ h tk, s₁ = { s with heap := h, toks := tk }) ∧ Fr h₀ L s₁.heap m ∧ News h₀ L s₁.heap news) E s)
    (fin : ∀ D ys h tk, ys.length = tx.cps.size → (∀ (i : Nat) (v : Value), ys[i]? = some v → G i v) → Fr h₀ L h (fun z => if z = y then some (.ref D) else m z) → News h₀ L h ((D, lst ys) :: news) → (∀ p ∈ news, @Ne Nat p.1 D) → s.toks ≤ tk → Q .next { s with heap := h, toks := tk })
    (hs : ∀ x, foldedSetIterable iter env x = pure x := by intro _; rfl) :
    Stop (wpAny (model prog w) A (exec (.Assign [.Name y py] (.ListComp elt [⟨.Name x px, iter, [], 0⟩] scope pos) spos) env) Q E s) := by
  refine ⟨?_⟩
  refine wpAny_mono (wpAny_with_toks (Nat.le_refl _) (Assign_ListComp_S (h₀ := h₀) (m := m) (E := fun v s' => s.toks ≤ s'.toks → E v s') (Q := fun v s' => s.toks ≤ s'.toks → Q v s') hLe hsw hclos hcell hkind hnames hx hy hp ?_ hs)) (fun _ _ q => q) fun _ _ e => e
  refine wpAny_mono h (fun xv s₁ h₁ => ?_) fun _ _ e _ => e
  obtain ⟨⟨t, rfl⟩, ⟨h₁, tk₁, rfl⟩, F, N⟩ := h₁
  refine ⟨tx, t, news, rfl, ha, hh, F, N, Nat.le_trans hsz (by rw [sizeLine_eq]; decide), ?_⟩
  rintro s₂ ⟨g, rfl⟩
  refine rest_inv (n := tx.cps.size) (fun i ys news' => news' = news ∧ ys.length = i ∧ ∀ (j : Nat) (y : Value), ys[j]? = some y → G j y) ?_ ?_ _ 0 [] news (Nat.zero_add _) ⟨rfl, rfl, fun j y e => by simp at e⟩
  · rintro i v I oI C oC D ys news' m₂ h tk E' hi ⟨rfl, hyl, hys⟩ hP hC hx F N off ne
    refine wpAny_mono (step i v C oC ((I, oI) :: (D, lst ys) :: news') m₂ _ E' hP hC hx (fun p hp => .tail _ (.tail _ hp)) F (News.sub N swap2)) (fun y s₃ q => ?_) fun _ _ e => e
    obtain ⟨hG, h', tk', rfl, F', N'⟩ := q
    refine ⟨h', tk', news', rfl, F', News.sub N' swap2, off, trivial, rfl, by simp [hyl], fun j z hz => ?_⟩
    rcases Nat.lt_trichotomy j ys.length with hj | hj | hj
    · rw [List.getElem?_append_left hj] at hz; exact hys j z hz
    · subst hj
      rw [List.getElem?_append_right (Nat.le_refl _)] at hz
      simp at hz
      subst hz; rw [hyl]; exact hG
    · rw [List.getElem?_eq_none (by rw [List.length_append, List.length_singleton]; omega)] at hz; cases hz
  · rintro ys news' ⟨rfl, hyl, hys⟩
    intro D h tk F N off htk
    exact fin D ys h tk hyl hys F N (off1_mem _ off) htk
end
end
section
noncomputable def caseT (c : Nat) : List Int := if c = 102 then [0, 0, 0, 0, 0, 0, 0, 0, 1, 1, 1, 1, 1, 1, 1, 1] else if c = 105 then [0, 0, 0, 0, 1, 1, 1, 1, 0, 0, 0, 0, 1, 1, 1, 1] else if c = 108 then [0, 0, 1, 1, 0, 0, 1, 1, 0, 0, 1, 1, 0, 0, 1, 1] else [0, 1, 0, 1, 0, 1, 0, 1, 0, 1, 0, 1, 0, 1, 0, 1]
noncomputable def filtC : Nat → Nat
  | 0 => 102 | 1 => 105 | 2 => 108 | _ => 116
noncomputable def ligLets : Nat → List Nat
  | 0 => [0, 0] | 1 => [0, 1] | 2 => [0, 2] | 3 => [0, 0, 1] | _ => [0, 0, 2]
noncomputable def ligOf (x : Int) : Nat := ((x.fdiv 4).fmod 5).toNat
noncomputable def letOf (x : Int) : Nat := ((x.fdiv 4).fmod 4).toNat
noncomputable def binTx (x : Int) : Str := Str.ofString " " ++ Txt.slice (ruleOf x).1 none (some 1) ++ hidS (x.fdiv 192) ++ Txt.slice (ruleOf x).1 (some 1) none
noncomputable def negTx (x : Int) : Str := Str.ofString " ~" ++ hidS (x.fdiv 192)
noncomputable def ligTx (x : Int) : Str := ⟨#[(64256 + (x.fdiv 4).fmod 5).toNat]⟩ ++ hidS (x.fdiv 192)
noncomputable def letTx (x : Int) : Str := spellS (filtC (letOf x)) (x.fdiv 16) ++ hidS (x.fdiv 192)
inductive DStep (x : Int) : DS → DS → Prop where
  | bin {t : Str} {us ts : List (List Int)} {f1 f2 : List Int} : 1 < x.fmod 4 → (ruleOf x).1 ≠ Str.ofString "~" → DStep x ⟨t, us ++ [f1] ++ [f2], ts⟩ ⟨t ++ binTx x, us ++ [tab2 (ruleOf x).2 f1 f2], ts ++ [tab2 (ruleOf x).2 f1 f2]⟩
  | neg {t : Str} {us ts : List (List Int)} {f1 : List Int} : 1 < x.fmod 4 → (ruleOf x).1 = Str.ofString "~" → DStep x ⟨t, us ++ [f1], ts⟩ ⟨t ++ negTx x, us ++ [tab1 (ruleOf x).2 f1], ts ++ [tab1 (ruleOf x).2 f1]⟩
  | lig {t : Str} {us ts : List (List Int)} : DStep x ⟨t, us, ts⟩ ⟨t ++ ligTx x, us ++ (ligLets (ligOf x)).map fun l => caseT (filtC l), ts ++ (ligLets (ligOf x)).map fun l => caseT (filtC l)⟩
  | letter {t : Str} {us ts : List (List Int)} : DStep x ⟨t, us, ts⟩ ⟨t ++ letTx x, us ++ [caseT (filtC (letOf x))], ts ++ [caseT (filtC (letOf x))]⟩
end
section
noncomputable def bitAt (x l : Nat) : Bool := x / 2 ^ (3 - l) % 2 == 1
noncomputable def setb (x l : Nat) (b : Bool) : Nat := x - x / 2 ^ (3 - l) % 2 * 2 ^ (3 - l) + (if b then 2 ^ (3 - l) else 0)
theorem setb_lt : ∀ x, x < 16 → ∀ l, l < 4 → ∀ b, setb x l b < 16 := by decide +kernel
theorem setb_bit : ∀ x, x < 16 → ∀ l, l < 4 → ∀ b, ∀ l', l' < 4 → bitAt (setb x l b) l' = if l' = l then b else bitAt x l' := by decide +kernel
theorem bit_ext : ∀ x, x < 16 → ∀ y, y < 16 → (∀ l, l < 4 → bitAt x l = bitAt y l) → x = y := by decide +kernel
noncomputable def evN (rows : List Row) : Nat → Int → Nat → Int
  | 0, n, _ => n
  | k + 1, n, x => if n < 256 then n else
      let r := (rows[(n - 256).toNat]?).getD (0, 0, 0)
      evN rows k (if bitAt x r.1.toNat = true then r.2.2 else r.2.1) x
noncomputable def ev (rows : List Row) (n : Int) (x : Nat) : Int := evN rows 4 n x
theorem evN_term {rows : List Row} {n : Int} {x : Nat} (h : n < 256) : ∀ k, evN rows k n x = n
  | 0 => rfl
  | k + 1 => if_pos h
theorem evN_row {rows : List Row} {i k : Nat} {r : Row} {x : Nat} (h : rows[i]? = some r) : evN rows (k + 1) (256 + (i : Int)) x = evN rows k (if bitAt x r.1.toNat = true then r.2.2 else r.2.1) x := by
  have e : (256 + (i : Int) - 256).toNat = i := by omega
  have : ¬ (256 + (i : Int) < 256) := by omega
  simp only [evN, if_neg this, e, h, Option.getD_some]
theorem evN_more {rows : List Row} (R : RowsOk rows) {x : Nat} : ∀ (k : Nat) {n : Int}, Nd rows n → 4 ≤ lev rows n + k → ∀ j, k ≤ j → evN rows j n x = evN rows k n x
  | 0, n, h, hk, j, _ => by
    have c : n < 256 := by
      apply Classical.byContradiction; intro c; have := lev_lt R h c; omega
    rw [evN_term c, evN_term c]
  | k + 1, n, h, hk, 0, hj => by omega
  | k + 1, n, h, hk, j + 1, hj => by
    by_cases c : n < 256
    · rw [evN_term c, evN_term c]
    · obtain ⟨i, r, rfl, hr, _⟩ := h.row c
      rw [evN_row hr, evN_row hr]
      rw [lev_row hr] at hk
      have h1 := R.nd i r hr
      have h2 := R.lv i r hr
      cases bitAt x r.1.toNat
      · exact evN_more R k h1.1 (by omega) j (by omega)
      · exact evN_more R k h1.2 (by omega) j (by omega)
theorem ev_term {rows : List Row} {n : Int} {x : Nat} (h : n < 256) : ev rows n x = n := evN_term h 4
theorem ev_row {rows : List Row} (R : RowsOk rows) {i : Nat} {r : Row} {x : Nat} (h : rows[i]? = some r) : ev rows (256 + (i : Int)) x = ev rows (if bitAt x r.1.toNat = true then r.2.2 else r.2.1) x := by
  unfold ev
  rw [evN_row h]
  have h0 := R.lo i r h
  have h1 := R.nd i r h
  have h2 := R.lv i r h
  cases bitAt x r.1.toNat
  · exact (evN_more R 3 h1.1 (show (4 : Int) ≤ lev rows r.2.1 + 3 by omega) 4 (by decide)).symm
  · exact (evN_more R 3 h1.2 (show (4 : Int) ≤ lev rows r.2.2 + 3 by omega) 4 (by decide)).symm
theorem evN_mono {rows xs : List Row} (R : RowsOk rows) {x : Nat} : ∀ (k : Nat) {n : Int}, Nd rows n → evN (rows ++ xs) k n x = evN rows k n x
  | 0, n, h => rfl
  | k + 1, n, h => by
    by_cases c : n < 256
    · rw [evN_term c, evN_term c]
    · obtain ⟨i, r, rfl, hr, hi⟩ := h.row c
      have hr' : (rows ++ xs)[i]? = some r := by rw [List.getElem?_append_left hi]; exact hr
      rw [evN_row hr, evN_row hr']
      have h1 := R.nd i r hr
      cases bitAt x r.1.toNat
      · exact evN_mono R k h1.1
      · exact evN_mono R k h1.2
theorem ev_mono {rows xs : List Row} (R : RowsOk rows) {n : Int} (h : Nd rows n) {x : Nat} : ev (rows ++ xs) n x = ev rows n x := evN_mono R 4 h
theorem nd_ind {rows : List Row} (R : RowsOk rows) {P : Int → Prop} (ht : ∀ n, n = 0 ∨ n = 1 → P n) (hr : ∀ (i : Nat) (r : Row), rows[i]? = some r → P r.2.1 → P r.2.2 → P (256 + (i : Int))) : ∀ {n : Int}, Nd rows n → P n := by
  have key : ∀ (k : Nat) {n : Int}, Nd rows n → 4 ≤ lev rows n + k → P n := by
    intro k
    induction k with
    | zero =>
      intro n h hk
      have c : n < 256 := by
        apply Classical.byContradiction; intro c; have := lev_lt R h c; omega
      exact ht n (h.term c)
    | succ k ih =>
      intro n h hk
      by_cases c : n < 256
      · exact ht n (h.term c)
      · obtain ⟨i, r, rfl, hr', hi⟩ := h.row c
        rw [lev_row hr'] at hk
        have h1 := R.nd i r hr'
        have h2 := R.lv i r hr'
        exact hr i r hr' (ih h1.1 (by omega)) (ih h1.2 (by omega))
  intro n h
  have := lev_le R h
  exact key 4 h (by omega)
theorem ev_bit {rows : List Row} (R : RowsOk rows) {x : Nat} {n : Int} (h : Nd rows n) : ev rows n x = 0 ∨ ev rows n x = 1 := by
  refine nd_ind R (P := fun n => ev rows n x = 0 ∨ ev rows n x = 1) ?_ ?_ h
  · intro n hn
    rw [ev_term (by omega)]; exact hn
  · intro i r hr h1 h2
    rw [ev_row R hr]
    cases bitAt x r.1.toNat
    · exact h1
    · exact h2
theorem ev_dep {rows : List Row} (R : RowsOk rows) {x y : Nat} {n : Int} (h : Nd rows n) : (∀ l : Nat, lev rows n ≤ (l : Int) → l < 4 → bitAt x l = bitAt y l) → ev rows n x = ev rows n y := by
  refine nd_ind R (P := fun n => (∀ l : Nat, lev rows n ≤ (l : Int) → l < 4 → bitAt x l = bitAt y l) → ev rows n x = ev rows n y) ?_ ?_ h
  · intro n hn _
    rw [ev_term (by omega), ev_term (by omega)]
  · intro i r hr h1 h2 hb
    have h0 := R.lo i r hr
    have h3 := R.lv i r hr
    rw [lev_row hr] at hb
    rw [ev_row R hr, ev_row R hr, hb r.1.toNat (by omega) (by omega)]
    cases bitAt y r.1.toNat
    · exact h1 fun l hl => hb l (by omega)
    · exact h2 fun l hl => hb l (by omega)
theorem ev_cof {rows : List Row} (R : RowsOk rows) {n l : Int} (h : Nd rows n) (hl : l ≤ lev rows n) {x : Nat} : ev rows n x = if bitAt x l.toNat = true then ev rows (cof rows n l).2 x else ev rows (cof rows n l).1 x := by
  by_cases hn : n < 256
  · rw [cof_term hn]; split <;> rfl
  · rcases Int.lt_or_eq_of_le hl with h1 | h1
    · rw [cof_above h1]; split <;> rfl
    · obtain ⟨i, r, rfl, hr, _⟩ := h.row hn
      rw [lev_row hr] at h1
      subst h1
      rw [cof_row hr, ev_row R hr]
      cases bitAt x r.1.toNat <;> rfl
theorem nodup_inj {α : Type} {l : List α} (h : l.Nodup) {i j : Nat} (hi : i < l.length) (hj : j < l.length) (e : l[i] = l[j]) : i = j := by
  have key := List.pairwise_iff_getElem.mp h
  rcases Nat.lt_trichotomy i j with h1 | h1 | h1
  · exact absurd e (key i j hi hj h1)
  · exact h1
  · exact absurd e.symm (key j i hj hi h1)
theorem canon {rows : List Row} (R : RowsOk rows) : ∀ (k : Nat) {n m : Int}, Nd rows n → Nd rows m → 4 ≤ lev rows n + k → 4 ≤ lev rows m + k → (∀ x, x < 16 → ev rows n x = ev rows m x) → n = m := by
  intro k
  have base : ∀ {n m : Int}, n < 256 → m < 256 → (∀ x, x < 16 → ev rows n x = ev rows m x) → n = m := by
    intro n m c1 c2 he
    have := he 0 (by decide)
    rwa [ev_term c1, ev_term c2] at this
  induction k with
  | zero =>
    intro n m h1 h2 g1 g2 he
    have c1 : n < 256 := by
      apply Classical.byContradiction; intro c; have := lev_lt R h1 c; omega
    have c2 : m < 256 := by
      apply Classical.byContradiction; intro c; have := lev_lt R h2 c; omega
    exact base c1 c2 he
  | succ k ih =>
    intro n m h1 h2 g1 g2 he
    by_cases c : n < 256 ∧ m < 256
    · exact base c.1 c.2 he
    have hl := lev_ge R h1 h2 c
    generalize hlv : min (lev rows n) (lev rows m) = l at hl
    have ml := min_l hlv
    have fu : ∀ {c : Int}, l < c → 4 ≤ c + k := fun hc => fuel g1 g2 hlv hc
    have k1 := cof_ok R (n := n) (l := l) h1 ml.1 hl.2
    have k2 := cof_ok R (n := m) (l := l) h2 ml.2 hl.2
    have hlt : l.toNat < 4 := tn_lt (n := 4) hl
    have hln : (l.toNat : Int) = l := Int.toNat_of_nonneg hl.1
    have way : ∀ {n c : Int} (b : Bool) (x : Nat), x < 16 → Nd rows n → l ≤ lev rows n → Nd rows c → l < lev rows c → c = (if b then (cof rows n l).2 else (cof rows n l).1) → ev rows c x = ev rows n (setb x l.toNat b) := by
      intro n c b x hx hn hle hc hlc e
      have hb := setb_bit x hx l.toNat hlt b
      have hbl : bitAt (setb x l.toNat b) l.toNat = b := by rw [hb _ hlt, if_pos rfl]
      rw [ev_cof R hn hle, hbl]
      have : ev rows c x = ev rows c (setb x l.toNat b) := ev_dep R hc fun j hj hj4 => by
        rw [hb j hj4, if_neg (by omega)]
      rw [this, e]
      cases b <;> rfl
    have e1 : (cof rows n l).1 = (cof rows m l).1 := ih k1.1 k2.1 (fu k1.2.2.1) (fu k2.2.2.1) fun x hx => by
      rw [way false x hx h1 ml.1 k1.1 k1.2.2.1 rfl, way false x hx h2 ml.2 k2.1 k2.2.2.1 rfl]
      exact he _ (setb_lt x hx _ hlt _)
    have e2 : (cof rows n l).2 = (cof rows m l).2 := ih k1.2.1 k2.2.1 (fu k1.2.2.2) (fu k2.2.2.2) fun x hx => by
      rw [way true x hx h1 ml.1 k1.2.1 k1.2.2.2 rfl, way true x hx h2 ml.2 k2.2.1 k2.2.2.2 rfl]
      exact he _ (setb_lt x hx _ hlt _)
    clear fu
    rcases Int.lt_or_eq_of_le ml.1 with a1 | a1
    · -- n lies behind: m's two ways are the same
      exfalso
      have a2 : lev rows m = l := by omega
      have c2 : ¬ m < 256 := fun h => by rw [lev_term h] at a2; first | exact Int.ne_of_lt hl.2 a2 | exact Int.ne_of_lt hl.2 a2.symm
      obtain ⟨i, r, rfl, hr, _⟩ := h2.row c2
      rw [lev_row hr] at a2
      subst a2
      rw [cof_above a1, cof_row hr] at e1 e2
      exact R.ne i r hr (by rw [← e1, ← e2])
    · have c1 : ¬ n < 256 := fun h => by rw [lev_term h] at a1; first | exact Int.ne_of_lt hl.2 a1 | exact Int.ne_of_lt hl.2 a1.symm
      obtain ⟨i, r, rfl, hr, hi⟩ := h1.row c1
      rw [lev_row hr] at a1
      rcases Int.lt_or_eq_of_le ml.2 with a2 | a2
      · exfalso
        rw [cof_above a2] at e1 e2
        subst a1
        rw [cof_row hr] at e1 e2
        exact R.ne i r hr (e1.trans e2.symm)
      · have c2 : ¬ m < 256 := fun h => by rw [lev_term h] at a2; first | exact Int.ne_of_lt hl.2 a2 | exact Int.ne_of_lt hl.2 a2.symm
        obtain ⟨j, q, rfl, hq, hj⟩ := h2.row c2
        rw [lev_row hq] at a2
        subst a1
        rw [cof_row hr] at e1 e2
        rw [a2, cof_row hq] at e1 e2
        have : r = q := by
          obtain ⟨a, b, c⟩ := r
          obtain ⟨d, e, f⟩ := q
          simp only at e1 e2 a2
          rw [e1, e2, a2]
        subst this
        have h3 : rows[i] = rows[j] := by
          have := (List.getElem?_eq_some_iff.mp hr).2.trans (List.getElem?_eq_some_iff.mp hq).2.symm
          exact this
        have : i = j := nodup_inj R.nodup hi hj h3
        rw [this]
theorem canonical {rows : List Row} (R : RowsOk rows) {n m : Int} (h1 : Nd rows n) (h2 : Nd rows m) (he : ∀ x, x < 16 → ev rows n x = ev rows m x) : n = m := by
  have a := lev_le R h1
  have b := lev_le R h2
  exact canon R 4 h1 h2 (by omega) (by omega) he
theorem nodeP_ev {rows : List Row} (R : RowsOk rows) {l lo hi : Int} (h0 : 0 ≤ l) (h4 : l < 4) (h1 : Nd rows lo) (h2 : Nd rows hi) (g1 : l < lev rows lo) (g2 : l < lev rows hi) {x : Nat} :
    ev (nodeP rows l lo hi).1 (nodeP rows l lo hi).2 x = if bitAt x l.toNat = true then ev rows hi x else ev rows lo x := by
  have ok := nodeP_ok R h0 h4 h1 h2 g1 g2
  by_cases e : lo = hi
  · have : nodeP rows l lo hi = (rows, lo) := if_pos e
    rw [this, e]; split <;> rfl
  by_cases hm : (l, lo, hi) ∈ rows
  · have : nodeP rows l lo hi = (rows, 256 + (rows.idxOf (l, lo, hi) : Int)) := by simp only [nodeP, if_neg e, if_pos hm]
    have hlt := List.idxOf_lt_length_of_mem hm
    have hg : rows[rows.idxOf (l, lo, hi)]? = some (l, lo, hi) := by rw [List.getElem?_eq_getElem hlt, List.getElem_idxOf hlt]
    rw [this, ev_row R hg]
    cases bitAt x l.toNat <;> rfl
  · have : nodeP rows l lo hi = (rows ++ [(l, lo, hi)], 256 + (rows.length : Int)) := by simp only [nodeP, if_neg e, if_neg hm]
    have hg : (rows ++ [(l, lo, hi)])[rows.length]? = some (l, lo, hi) := by simp
    obtain ⟨xs, _, _, R', _⟩ := ok
    rw [this] at R' ⊢
    rw [ev_row R' hg]
    cases bitAt x l.toNat
    · exact ev_mono R h1
    · exact ev_mono R h2
theorem joinP_ev {op : Int → Int → Int} (hop : ∀ x y, (x = 0 ∨ x = 1) → (y = 0 ∨ y = 1) → op x y = 0 ∨ op x y = 1) {x : Nat} : ∀ (k : Nat) {rows : List Row} {one two : Int}, RowsOk rows → Nd rows one → Nd rows two → 4 ≤ lev rows one + k → 4 ≤ lev rows two + k →
    ev (joinP op k rows one two).1 (joinP op k rows one two).2 x = op (ev rows one x) (ev rows two x) := by
  intro k
  have base : ∀ {rows : List Row} {one two : Int}, RowsOk rows → Nd rows one → Nd rows two → one < 256 → two < 256 → ev rows (op one two) x = op (ev rows one x) (ev rows two x) := by
    intro rows one two R h1 h2 c1 c2
    have := hop one two (h1.term c1) (h2.term c2)
    rw [ev_term c1, ev_term c2, ev_term (by omega)]
  induction k with
  | zero =>
    intro rows one two R h1 h2 g1 g2
    have c1 : one < 256 := by
      apply Classical.byContradiction; intro c; have := lev_lt R h1 c; omega
    have c2 : two < 256 := by
      apply Classical.byContradiction; intro c; have := lev_lt R h2 c; omega
    exact base R h1 h2 c1 c2
  | succ k ih =>
    intro rows one two R h1 h2 g1 g2
    by_cases c : one < 256 ∧ two < 256
    · have : joinP op (k + 1) rows one two = (rows, op one two) := by simp only [joinP, if_pos c]
      rw [this]; exact base R h1 h2 c.1 c.2
    · have hl := lev_ge R h1 h2 c
      simp only [joinP, if_neg c]
      generalize hlv : min (lev rows one) (lev rows two) = l at hl
      have ml := min_l hlv
      have fu : ∀ {c : Int}, l < c → 4 ≤ c + k := fun hc => fuel g1 g2 hlv hc
      have k1 := cof_ok R (n := one) (l := l) h1 ml.1 hl.2
      have k2 := cof_ok R (n := two) (l := l) h2 ml.2 hl.2
      have E1 := ih R k1.1 k2.1 (fu k1.2.2.1) (fu k2.2.2.1)
      obtain ⟨xs, e1, l1, R1, n1, v1⟩ := joinP_ok hop k R k1.1 k2.1 (fu k1.2.2.1) (fu k2.2.2.1)
      generalize hA : joinP op k rows (cof rows one l).1 (cof rows two l).1 = Aj at e1 R1 n1 v1 E1
      have k1' : Nd Aj.1 (cof rows one l).2 := e1 ▸ k1.2.1.mono
      have k2' : Nd Aj.1 (cof rows two l).2 := e1 ▸ k2.2.1.mono
      have q1 : lev Aj.1 (cof rows one l).2 = lev rows (cof rows one l).2 := by rw [e1]; exact lev_mono k1.2.1
      have q2 : lev Aj.1 (cof rows two l).2 = lev rows (cof rows two l).2 := by rw [e1]; exact lev_mono k2.2.1
      have f1 : 4 ≤ lev Aj.1 (cof rows one l).2 + k := q1 ▸ fu k1.2.2.2
      have f2 : 4 ≤ lev Aj.1 (cof rows two l).2 + k := q2 ▸ fu k2.2.2.2
      have E2 := ih R1 k1' k2' f1 f2
      obtain ⟨ys, e2, l2, R2, n2, v2⟩ := joinP_ok hop k R1 k1' k2' f1 f2
      generalize hB : joinP op k Aj.1 (cof rows one l).2 (cof rows two l).2 = Bj at e2 R2 n2 v2 E2
      have n1' : Nd Bj.1 Aj.2 := e2 ▸ n1.mono
      have q3 : lev Bj.1 Aj.2 = lev Aj.1 Aj.2 := by rw [e2]; exact lev_mono n1
      rw [nodeP_ev R2 (l := l) hl.1 hl.2 n1' n2 (lt_lev k1.2.2.1 k2.2.2.1 rfl rfl v1 q3) (lt_lev k1.2.2.2 k2.2.2.2 q1 q2 v2 rfl), E2]
      have E3 : ev Bj.1 Aj.2 x = ev Aj.1 Aj.2 x := by rw [e2]; exact ev_mono R1 n1
      rw [E3, E1, ev_cof R h1 ml.1, ev_cof R h2 ml.2, e1, ev_mono R k1.2.1, ev_mono R k2.2.1]
      cases bitAt x l.toNat <;> rfl
end
section
theorem nodup_len {α : Type} [BEq α] [LawfulBEq α] : ∀ {l l' : List α}, l.Nodup → (∀ x ∈ l, x ∈ l') → l.length ≤ l'.length
  | [], _, _, _ => Nat.zero_le _
  | a :: l, l', h, hs => by
    have h1 := List.nodup_cons.mp h
    have ha := hs a (.head _)
    have : l.length ≤ (l'.erase a).length := nodup_len h1.2 fun x hx => by
      have hne : x ≠ a := fun e => h1.1 (e ▸ hx)
      exact (List.mem_erase_of_ne hne).mpr (hs x (.tail _ hx))
    rw [List.length_erase_of_mem ha] at this
    have : 0 < l'.length := List.length_pos_of_mem ha
    simp only [List.length_cons]; omega
inductive Reach (rows : List Row) (root : Int) : Int → Prop where
  | refl : Reach rows root root
  | lo {i : Nat} {r : Row} : Reach rows root (256 + (i : Int)) → rows[i]? = some r → Reach rows root r.2.1
  | hi {i : Nat} {r : Row} : Reach rows root (256 + (i : Int)) → rows[i]? = some r → Reach rows root r.2.2
theorem Reach.nd {rows : List Row} (R : RowsOk rows) {root : Int} (h : Nd rows root) : ∀ {n : Int}, Reach rows root n → Nd rows n
  | _, .refl => h
  | _, .lo _ hr => (R.nd _ _ hr).1
  | _, .hi _ hr => (R.nd _ _ hr).2
theorem Reach.trans {rows : List Row} {a b : Int} (h : Reach rows a b) : ∀ {c : Int}, Reach rows b c → Reach rows a c
  | _, .refl => h
  | _, .lo h1 hr => .lo (h.trans h1) hr
  | _, .hi h1 hr => .hi (h.trans h1) hr
structure DInv (rows : List Row) (root : Int) (reached waiting : List Int) : Prop where
  nodup : reached.Nodup
  rch : ∀ n ∈ reached, 256 ≤ n ∧ Reach rows root n
  wt : ∀ n ∈ waiting, Reach rows root n
  rt : root < 256 ∨ root ∈ reached ∨ root ∈ waiting
  cl : ∀ (i : Nat) (r : Row), 256 + (i : Int) ∈ reached → rows[i]? = some r → (r.2.1 < 256 ∨ r.2.1 ∈ reached ∨ r.2.1 ∈ waiting) ∧ (r.2.2 < 256 ∨ r.2.2 ∈ reached ∨ r.2.2 ∈ waiting)
  len : waiting.length ≤ 1 + 2 * reached.length
theorem DInv.start {rows : List Row} {root : Int} : DInv rows root [] [root] :=
  ⟨List.nodup_nil, (fun _ h => nomatch h), fun n hn => (List.mem_singleton.mp hn) ▸ .refl, .inr (.inr (.head _)), (fun _ _ h => nomatch h), by simp⟩
theorem DInv.bound {rows : List Row} (R : RowsOk rows) {root : Int} (hr : Nd rows root) {reached waiting : List Int} (h : DInv rows root reached waiting) : reached.length ≤ rows.length := by
  have : reached.length ≤ ((List.range rows.length).map fun i : Nat => 256 + (i : Int)).length := nodup_len h.nodup fun n hn => by
    obtain ⟨h1, h2⟩ := h.rch n hn
    obtain ⟨i, r, rfl, _, hi⟩ := (h2.nd R hr).row (by omega)
    exact List.mem_map.mpr ⟨i, List.mem_range.mpr hi, rfl⟩
  simpa using this
theorem DInv.skip {rows : List Row} {root : Int} {reached waiting : List Int} {n : Int} (h : DInv rows root reached (waiting ++ [n])) (hn : n < 256 ∨ n ∈ reached) : DInv rows root reached waiting := by
  have key : ∀ c, (c < 256 ∨ c ∈ reached ∨ c ∈ waiting ++ [n]) → (c < 256 ∨ c ∈ reached ∨ c ∈ waiting) := by
    intro c hc
    rcases hc with h | h | h
    · exact .inl h
    · exact .inr (.inl h)
    · rcases List.mem_append.mp h with h | h
      · exact .inr (.inr h)
      · rw [List.mem_singleton.mp h]
        rcases hn with h | h
        · exact .inl h
        · exact .inr (.inl h)
  refine ⟨h.nodup, h.rch, fun x hx => h.wt x (List.mem_append_left _ hx), key _ h.rt, fun i r h1 h2 => ⟨key _ (h.cl i r h1 h2).1, key _ (h.cl i r h1 h2).2⟩, ?_⟩
  have := h.len
  simp only [List.length_append, List.length_singleton] at this
  omega
theorem DInv.take {rows : List Row} {root : Int} {reached waiting : List Int} {i : Nat} {r : Row} (h : DInv rows root reached (waiting ++ [256 + (i : Int)])) (hr : rows[i]? = some r) (hn : 256 + (i : Int) ∉ reached) : DInv rows root (reached ++ [256 + (i : Int)]) (waiting ++ [r.2.1, r.2.2]) := by
  have hi := h.wt (256 + (i : Int)) (by simp)
  have key : ∀ c, (c < 256 ∨ c ∈ reached ∨ c ∈ waiting ++ [256 + (i : Int)]) → (c < 256 ∨ c ∈ reached ++ [256 + (i : Int)] ∨ c ∈ waiting ++ [r.2.1, r.2.2]) := by
    intro c hc
    simp only [List.mem_append, List.mem_singleton] at hc ⊢
    rcases hc with h | h | h | h
    · exact .inl h
    · exact .inr (.inl (.inl h))
    · exact .inr (.inr (.inl h))
    · exact .inr (.inl (.inr h))
  refine ⟨?_, ?_, ?_, key _ h.rt, ?_, ?_⟩
  · rw [List.nodup_append]
    exact ⟨h.nodup, by simp, by intro a ha b hb; rw [List.mem_singleton.mp hb]; rintro rfl; exact hn ha⟩
  · intro n hn'
    rcases List.mem_append.mp hn' with h1 | h1
    · exact h.rch n h1
    · rw [List.mem_singleton.mp h1]; exact ⟨by omega, hi⟩
  · intro n hn'
    simp only [List.mem_append, List.mem_cons, List.not_mem_nil, or_false] at hn'
    rcases hn' with h1 | rfl | rfl
    · exact h.wt n (List.mem_append_left _ h1)
    · exact .lo hi hr
    · exact .hi hi hr
  · intro j q hj hq
    rcases List.mem_append.mp hj with h1 | h1
    · exact ⟨key _ (h.cl j q h1 hq).1, key _ (h.cl j q h1 hq).2⟩
    · have : j = i := by have := List.mem_singleton.mp h1; omega
      subst this
      rw [hr] at hq
      obtain rfl := Option.some.inj hq
      exact ⟨.inr (.inr (by simp)), .inr (.inr (by simp))⟩
  · have := h.len
    simp only [List.length_append, List.length_cons, List.length_nil] at this ⊢
    omega
theorem DInv.full {rows : List Row} {root : Int} {reached : List Int} (h : DInv rows root reached []) {n : Int} (hn : Reach rows root n) : n < 256 ∨ n ∈ reached := by
  have key : ∀ c, (c < 256 ∨ c ∈ reached ∨ c ∈ ([] : List Int)) → (c < 256 ∨ c ∈ reached) := by
    intro c hc
    rcases hc with h | h | h
    · exact .inl h
    · exact .inr h
    · cases h
  induction hn with
  | refl => exact key _ h.rt
  | lo _ hr ih =>
    rcases ih with h1 | h1
    · omega
    · exact key _ (h.cl _ _ h1 hr).1
  | hi _ hr ih =>
    rcases ih with h1 | h1
    · omega
    · exact key _ (h.cl _ _ h1 hr).2
theorem desc {rows : List Row} (R : RowsOk rows) {p x : Nat} : ∀ {n : Int}, Nd rows n → ∃ m, Reach rows n m ∧ (p ≤ 4 → (p : Int) ≤ lev rows m) ∧ ∀ y, (∀ l : Nat, l < p → bitAt y l = bitAt x l) → ev rows n y = ev rows m y := by
  intro n h
  refine nd_ind R (P := fun n => ∃ m, Reach rows n m ∧ (p ≤ 4 → (p : Int) ≤ lev rows m) ∧ ∀ y, (∀ l : Nat, l < p → bitAt y l = bitAt x l) → ev rows n y = ev rows m y) ?_ ?_ h
  · intro n hn
    exact ⟨n, .refl, fun h4 => by rw [lev_term (by omega)]; omega, fun _ _ => rfl⟩
  · intro i r hr h1 h2
    have h0 := R.lo i r hr
    by_cases hp : (p : Int) ≤ r.1
    · exact ⟨_, .refl, fun _ => by rw [lev_row hr]; exact hp, fun _ _ => rfl⟩
    · cases hb : bitAt x r.1.toNat with
      | false =>
        obtain ⟨m, g1, g2, g3⟩ := h1
        refine ⟨m, (Reach.lo .refl hr).trans g1, g2, fun y hy => ?_⟩
        rw [ev_row R hr, hy _ ((Int.toNat_lt h0.1).2 (Int.not_le.mp hp)), hb, if_neg Bool.false_ne_true]; exact g3 y hy
      | true =>
        obtain ⟨m, g1, g2, g3⟩ := h2
        refine ⟨m, (Reach.hi .refl hr).trans g1, g2, fun y hy => ?_⟩
        rw [ev_row R hr, hy _ ((Int.toNat_lt h0.1).2 (Int.not_le.mp hp)), hb, if_pos rfl]; exact g3 y hy
theorem reach_case {rows : List Row} (R : RowsOk rows) {root : Int} (hr : Nd rows root) {n : Int} (h : Reach rows root n) : ∃ x, x < 16 ∧ ∀ y, (∀ l : Nat, (l : Int) < lev rows n → l < 4 → bitAt y l = bitAt x l) → ev rows root y = ev rows n y := by
  have step : ∀ (i : Nat) (r : Row) (c : Int) (b : Bool), rows[i]? = some r → r.1 < lev rows c → (∀ y, bitAt y r.1.toNat = b → ev rows (256 + (i : Int)) y = ev rows c y) → (∃ x, x < 16 ∧ ∀ y, (∀ l : Nat, (l : Int) < lev rows (256 + (i : Int)) → l < 4 → bitAt y l = bitAt x l) → ev rows root y = ev rows (256 + (i : Int)) y) →
      ∃ x, x < 16 ∧ ∀ y, (∀ l : Nat, (l : Int) < lev rows c → l < 4 → bitAt y l = bitAt x l) → ev rows root y = ev rows c y := by
    rintro i r c b hr hl hc ⟨x, hx, h⟩
    have h0 := R.lo i r hr
    rw [lev_row hr] at h
    refine ⟨setb x r.1.toNat b, setb_lt x hx _ (by omega) b, fun y hy => ?_⟩
    have hs := setb_bit x hx r.1.toNat (by omega) b
    rw [h y fun l hl' hl4 => by rw [hy l (by omega) hl4, hs l hl4, if_neg (by omega)]]
    exact hc y (by rw [hy r.1.toNat (by omega) (by omega), hs _ (by omega), if_pos rfl])
  induction h with
  | refl => exact ⟨0, by decide, fun _ _ => rfl⟩
  | lo _ hr' ih => exact step _ _ _ false hr' (R.lv _ _ hr').1 (fun y hy => by rw [ev_row R hr', hy, if_neg Bool.false_ne_true]) ih
  | hi _ hr' ih => exact step _ _ _ true hr' (R.lv _ _ hr').2 (fun y hy => by rw [ev_row R hr', hy, if_pos rfl]) ih
noncomputable def tabOf (rows : List Row) (n : Int) : List Int := (List.range 16).map (ev rows n)
noncomputable def shr (p : Nat) : Nat := 16 / 2 ^ p
noncomputable def partAt (table : List Int) (p k : Nat) : List Int := (table.drop (k * shr p)).take (shr p)
noncomputable def subOf (rows : List Row) (p : Nat) (n : Int) : List Int := (List.range (shr p)).map (ev rows n)
theorem range_part : ∀ p, p < 4 → ∀ k, k < 2 ^ p → ((List.range 16).drop (k * shr p)).take (shr p) = (List.range (shr p)).map (k * shr p + ·) := by decide +kernel
theorem part_tab {rows : List Row} {n : Int} {p k : Nat} (hp : p < 4) (hk : k < 2 ^ p) : partAt (tabOf rows n) p k = (List.range (shr p)).map fun j => ev rows n (k * shr p + j) := by
  rw [partAt, tabOf, ← List.map_drop, ← List.map_take, range_part p hp k hk, List.map_map]; rfl
theorem top_bits1 : ∀ p, p < 4 → ∀ k, k < 2 ^ p → ∀ j, j < shr p → ∀ l, l < p → bitAt (k * shr p + j) l = bitAt (k * shr p) l := by decide +kernel
theorem top_bits2 : ∀ p, p < 4 → ∀ k, k < 2 ^ p → ∀ j, j < shr p → ∀ l, l < 4 → p ≤ l → bitAt (k * shr p + j) l = bitAt j l := by decide +kernel
theorem half_bits : ∀ p, p < 4 → ∀ j, j < shr p / 2 → bitAt j p = false ∧ bitAt (shr p / 2 + j) p = true ∧ (∀ l, l < 4 → p < l → bitAt (shr p / 2 + j) l = bitAt j l) ∧ shr p / 2 + j < shr p := by decide +kernel
theorem part_sub {rows : List Row} (R : RowsOk rows) {n m : Int} {p k : Nat} (hp : p < 4) (hk : k < 2 ^ p) (hm : Nd rows m) (hl : (p : Int) ≤ lev rows m) (he : ∀ y, (∀ l : Nat, l < p → bitAt y l = bitAt (k * shr p) l) → ev rows n y = ev rows m y) : partAt (tabOf rows n) p k = subOf rows p m := by
  rw [part_tab hp hk, subOf]
  refine List.map_congr_left fun j hj => ?_
  have t1 := top_bits1 p hp k hk j (List.mem_range.mp hj)
  have t2 := top_bits2 p hp k hk j (List.mem_range.mp hj)
  rw [he _ t1]
  exact ev_dep R hm fun l hl1 hl4 => t2 l hl4 (by omega)
theorem sub_take {rows : List Row} {p : Nat} {n : Int} (hp : p < 4) : (subOf rows p n).take (shr p / 2) = (List.range (shr p / 2)).map (ev rows n) := by
  have : ∀ p, p < 4 → (List.range (shr p)).take (shr p / 2) = List.range (shr p / 2) := by decide +kernel
  rw [subOf, ← List.map_take, this p hp]
theorem sub_drop {rows : List Row} {p : Nat} {n : Int} (hp : p < 4) : (subOf rows p n).drop (shr p / 2) = (List.range (shr p / 2)).map fun j => ev rows n (shr p / 2 + j) := by
  have : ∀ p, p < 4 → (List.range (shr p)).drop (shr p / 2) = (List.range (shr p / 2)).map (shr p / 2 + ·) := by decide +kernel
  rw [subOf, ← List.map_drop, this p hp, List.map_map]; rfl
theorem low_rep : ∀ p, p ≤ 4 → ∀ x, x < 16 → x % shr p < 16 ∧ x % shr p < shr p ∧ ∀ l, l < 4 → p ≤ l → bitAt (x % shr p) l = bitAt x l := by decide +kernel
theorem map_range_inj {n : Nat} {f g : Nat → Int} (h : (List.range n).map f = (List.range n).map g) {j : Nat} (hj : j < n) : f j = g j := by
  have := congrArg (fun l => l[j]?) h
  simpa [hj] using this
theorem sub_inj {rows : List Row} (R : RowsOk rows) {n m : Int} {p : Nat} (hp : p ≤ 4) (hn : Nd rows n) (hm : Nd rows m) (ln : (p : Int) ≤ lev rows n) (lm : (p : Int) ≤ lev rows m) (h : subOf rows p n = subOf rows p m) : n = m := by
  refine canonical R hn hm fun x hx => ?_
  obtain ⟨h1, h2, h3⟩ := low_rep p hp x hx
  rw [← ev_dep R hn (x := x % shr p) fun l hl hl4 => h3 l hl4 (by omega), ← ev_dep R hm (x := x % shr p) fun l hl hl4 => h3 l hl4 (by omega)]
  exact map_range_inj h h2
theorem halves {rows : List Row} (R : RowsOk rows) {n : Int} {p : Nat} (hp : p < 4) (hn : Nd rows n) (ln : (p : Int) ≤ lev rows n) : (subOf rows p n).take (shr p / 2) ≠ (subOf rows p n).drop (shr p / 2) ↔ lev rows n = p := by
  rw [sub_take hp, sub_drop hp]
  constructor
  · intro h
    apply Classical.byContradiction
    intro hl
    refine h (List.map_congr_left fun j hj => ?_)
    obtain ⟨h1, h2, h3, h4⟩ := half_bits p hp j (List.mem_range.mp hj)
    exact ev_dep R hn fun l hl1 hl4 => (h3 l hl4 (by omega)).symm
  · intro hl h
    have c : ¬ n < 256 := fun c => by rw [lev_term c] at hl; omega
    obtain ⟨i, r, rfl, hr, _⟩ := hn.row c
    rw [lev_row hr] at hl
    have h1 := R.nd i r hr
    have h2 := R.lv i r hr
    refine R.ne i r hr (sub_inj R (p := p + 1) (by omega) h1.1 h1.2 (by omega) (by omega) ?_)
    have e : shr (p + 1) = shr p / 2 := by
      have : ∀ p, p < 4 → shr (p + 1) = shr p / 2 := by decide +kernel
      exact this p hp
    rw [subOf, subOf, e]
    refine List.map_congr_left fun j hj => ?_
    have hj' := List.mem_range.mp hj
    obtain ⟨b1, b2, b3, b4⟩ := half_bits p hp j hj'
    have := map_range_inj h hj'
    have e2 : r.1.toNat = p := by omega
    rw [ev_row R hr, ev_row R hr, e2, b1, b2, if_neg Bool.false_ne_true, if_pos rfl] at this
    rw [this]
    exact ev_dep R h1.2 fun l hl1 hl4 => b3 l hl4 (by omega)
noncomputable def partsOf (table : List Int) (p : Nat) : List (List Int) := ((List.range (2 ^ p)).map (partAt table p)).filter fun t => decide (t.take (shr p / 2) ≠ t.drop (shr p / 2))
noncomputable def unlike (parts : List (List Int)) : Nat := ((List.range parts.length).filter fun k => decide (parts.idxOf (parts.getD k []) = k)).length
theorem unlike_of {parts : List (List Int)} {ls : List (List Int)} (hn : ls.Nodup) (h1 : ∀ x ∈ ls, x ∈ parts) (h2 : ∀ x ∈ parts, x ∈ ls) : unlike parts = ls.length := by
  have hf : (((List.range parts.length).filter fun k => decide (parts.idxOf (parts.getD k []) = k)).map fun k => parts.getD k []).Nodup := by
    rw [List.nodup_iff_pairwise_ne, List.pairwise_map]
    have : (((List.range parts.length).filter fun k => decide (parts.idxOf (parts.getD k []) = k))).Nodup := List.Pairwise.filter _ List.nodup_range
    refine List.Pairwise.imp_of_mem (fun {a b} ha hb hab e => ?_) (List.nodup_iff_pairwise_ne.mp this)
    have ha' := of_decide_eq_true (List.mem_filter.mp ha).2
    have hb' := of_decide_eq_true (List.mem_filter.mp hb).2
    exact hab (by rw [← ha', ← hb', e])
  have e : unlike parts = (((List.range parts.length).filter fun k => decide (parts.idxOf (parts.getD k []) = k)).map fun k => parts.getD k []).length := by rw [List.length_map]; rfl
  rw [e]
  refine Nat.le_antisymm (nodup_len hf fun x hx => ?_) (nodup_len hn fun x hx => ?_)
  · obtain ⟨k, hk, rfl⟩ := List.mem_map.mp hx
    have := List.mem_range.mp (List.mem_filter.mp hk).1
    refine h2 _ ?_
    rw [List.getD_eq_getElem?_getD, List.getElem?_eq_getElem this]
    exact List.getElem_mem _
  · have hx' := h1 x hx
    have hlt := List.idxOf_lt_length_of_mem hx'
    have hg : parts.getD (parts.idxOf x) [] = x := by
      rw [List.getD_eq_getElem?_getD, List.getElem?_eq_getElem hlt]
      exact List.getElem_idxOf hlt
    refine List.mem_map.mpr ⟨parts.idxOf x, List.mem_filter.mpr ⟨List.mem_range.mpr hlt, ?_⟩, hg⟩
    rw [decide_eq_true_iff, hg]
noncomputable def letters (rows : List Row) (reached : List Int) : List Int := reached.map (lev rows)
theorem count_ok {rows : List Row} (R : RowsOk rows) {root : Int} (hr : Nd rows root) {reached : List Int} (h : DInv rows root reached []) {p : Nat} (hp : p < 4) : ((letters rows reached).filter fun l => decide (l = (p : Int))).length = unlike (partsOf (tabOf rows root) p) := by
  have hnd : ∀ n ∈ reached, Nd rows n := fun n hn => (h.rch n hn).2.nd R hr
  rw [letters, List.filter_map, List.length_map]
  generalize hns : reached.filter ((fun l => decide (l = (p : Int))) ∘ lev rows) = ns
  have hmem : ∀ n, n ∈ ns ↔ n ∈ reached ∧ lev rows n = p := by
    intro n
    rw [← hns, List.mem_filter]
    simp
  have hnn : ns.Nodup := hns ▸ List.Pairwise.filter _ h.nodup
  rw [unlike_of (ls := ns.map (subOf rows p)), List.length_map]
  · rw [List.nodup_iff_pairwise_ne, List.pairwise_map]
    refine List.Pairwise.imp_of_mem (fun {a b} ha hb hab e => hab ?_) (List.nodup_iff_pairwise_ne.mp hnn)
    have ha' := (hmem a).mp ha
    have hb' := (hmem b).mp hb
    exact sub_inj R (by omega) (hnd a ha'.1) (hnd b hb'.1) (by omega) (by omega) e
  · intro t ht
    obtain ⟨n, hn, rfl⟩ := List.mem_map.mp ht
    obtain ⟨h1, h2⟩ := (hmem n).mp hn
    obtain ⟨x, hx, he⟩ := reach_case R hr (h.rch n h1).2
    have hk : ∀ p, p < 4 → ∀ x, x < 16 → x / shr p < 2 ^ p ∧ ∀ l, l < p → bitAt (x / shr p * shr p) l = bitAt x l := by decide +kernel
    obtain ⟨k1, k2⟩ := hk p hp x hx
    have e : partAt (tabOf rows root) p (x / shr p) = subOf rows p n := part_sub R hp k1 (hnd n h1) (by omega) fun y hy => he y fun l hl hl4 => by rw [hy l (by omega), k2 l (by omega)]
    refine List.mem_filter.mpr ⟨List.mem_map.mpr ⟨x / shr p, List.mem_range.mpr k1, e⟩, ?_⟩
    rw [decide_eq_true_iff]
    exact (halves R hp (hnd n h1) (by omega)).mpr h2
  · intro t ht
    obtain ⟨ht, hne⟩ := List.mem_filter.mp ht
    obtain ⟨k, hk, rfl⟩ := List.mem_map.mp ht
    have hk' := List.mem_range.mp hk
    obtain ⟨m, g1, g2, g3⟩ := desc R (p := p) (x := k * shr p) hr
    have hm := g1.nd R hr
    have e := part_sub R hp hk' hm (g2 (by omega)) g3
    rw [e] at hne ⊢
    have hl := (halves R hp hm (g2 (by omega))).mp (of_decide_eq_true hne)
    refine List.mem_map.mpr ⟨m, (hmem m).mpr ⟨?_, hl⟩, rfl⟩
    rcases h.full g1 with c | c
    · rw [lev_term c] at hl; omega
    · exact c
theorem idxOf_map {α β : Type} [BEq α] [LawfulBEq α] [BEq β] [LawfulBEq β] (f : α → β) {l : List α} (hf : ∀ x ∈ l, ∀ y ∈ l, f x = f y → x = y) {x : α} (hx : x ∈ l) : (l.map f).idxOf (f x) = l.idxOf x := by
  induction l with
  | nil => cases hx
  | cons a l ih =>
    rw [List.map_cons, List.idxOf_cons, List.idxOf_cons]
    by_cases h : a = x
    · subst h; simp
    · have h' : f a ≠ f x := fun e => h (hf a (.head _) x hx e)
      have hx' : x ∈ l := (List.mem_cons.mp hx).resolve_left (fun e => h e.symm)
      rw [show (f a == f x) = false from beq_eq_false_iff_ne.mpr h', show (a == x) = false from beq_eq_false_iff_ne.mpr h, ih (fun x hx y hy => hf x (.tail _ hx) y (.tail _ hy)) hx']
theorem tab_inj {rows : List Row} (R : RowsOk rows) {n m : Int} (hn : Nd rows n) (hm : Nd rows m) (h : tabOf rows n = tabOf rows m) : n = m := canonical R hn hm fun _ hx => map_range_inj h hx
theorem places {rows : List Row} (R : RowsOk rows) {seen : List Int} (h : ∀ n ∈ seen, Nd rows n) : (seen.map (tabOf rows)).map (fun t => (seen.map (tabOf rows)).idxOf t) = seen.map fun n => seen.idxOf n := by
  rw [List.map_map]
  refine List.map_congr_left fun n hn => ?_
  exact idxOf_map (tabOf rows) (fun x hx y hy e => tab_inj R (h x hx) (h y hy) e) hn
end
section
noncomputable abbrev cd (l : List Nat) : Str := ⟨l.toArray⟩
theorem cd_ne {a : Nat} {l : List Nat} : cd (a :: l) ≠ ⟨#[]⟩ := by
  intro h
  injection h with h
  have := congrArg Array.size h
  simp at this
theorem cd_len {l : List Nat} : (cd l).length = l.length := by
  show (l.toArray).size = l.length
  simp
theorem cd_app {a b : List Nat} : cd a ++ cd b = cd (a ++ b) := by
  show (⟨a.toArray ++ b.toArray⟩ : Str) = ⟨(a ++ b).toArray⟩
  simp
theorem sl_to {l : List Nat} {j : Nat} (h : j ≤ l.length) : Txt.slice (cd l) none (some (j : Int)) = cd (l.take j) := by
  show StrLaws.sliceText _ none _ = _
  rw [StrLaws.sliceText_to (by simp; omega)]
  have : ((j : Int) - 0).toNat = j := by omega
  rw [this, List.drop_zero]
theorem len_two {l : List Nat} (h : l.length = 2) : ∃ c d, l = [c, d] := by
  match l, h with
  | [c, d], _ => exact ⟨c, d, rfl⟩
theorem sl_from {l : List Nat} {j : Nat} (h : j ≤ l.length) : Txt.slice (cd l) (some (j : Int)) none = cd (l.drop j) := by
  show StrLaws.sliceText _ _ none = _
  rw [StrLaws.sliceText_from (by simp; omega)]
  have e1 : (j : Int).toNat = j := by omega
  have e2 : ((((cd l).cps.toList.length : Nat) : Int) - (j : Int)).toNat = (l.drop j).length := by
    rw [List.length_drop]
    show (((l.toArray.toList).length : Int) - (j : Int)).toNat = _
    simp
  rw [e2, e1, List.take_length]
theorem sl_one {a : Nat} : Txt.slice (cd [a]) none (some 2) = cd [a] := by
  have e : Txt.slice (cd [a]) none (some 2) = Txt.slice (cd [a]) none (some 1) := by
    show StrLaws.sliceText _ none _ = StrLaws.sliceText _ none _
    unfold StrLaws.sliceText
    have : Builtin.Str.strSliceIndices none (some 2) 1 (cd [a]).length = Builtin.Str.strSliceIndices none (some 1) 1 (cd [a]).length := by
      rw [cd_len]
      show Builtin.Str.strSliceIndices none (some 2) 1 1 = Builtin.Str.strSliceIndices none (some 1) 1 1
      decide
    rw [this]
  rw [e]
  exact sl_to (l := [a]) (j := 1) (by simp)
noncomputable def ruleC : Nat → List Nat
  | 0 => [38] | 1 => [124] | 2 => [94] | 3 => [60] | 4 => [60, 61] | 5 => [61, 61] | 6 => [33, 61] | 7 => [62, 61] | 8 => [62] | _ => [126]
theorem rule_c : ∀ k, k < 10 → (rulesL.getD k (⟨#[]⟩, [])).1 = cd (ruleC k) := by decide +kernel
noncomputable abbrev Wd := Option Nat × List Nat
noncomputable def wdC (v : Wd) : List Nat := (match v.1 with | none => [] | some k => ruleC k) ++ v.2.map filtC
noncomputable def wdS (v : Wd) : List Sy := (match v.1 with | none => [] | some k => [if k < 9 then Sy.bin k else Sy.neg]) ++ v.2.map Sy.lit
structure WdOk (v : Wd) : Prop where
  rule : ∀ k, v.1 = some k → k < 10
  let' : ∀ l ∈ v.2, l < 4
theorem tok_let : ∀ l, l < 4 → tokV (cd [filtC l]) = none ∧ symOf (cd [filtC l]) = some (256 + (l : Int)) ∧ ∀ j, j < 4 → tokV (cd [filtC l, filtC j]) = none := by decide +kernel
theorem tok_rule : ∀ k, k < 10 → tokV (cd (ruleC k)) = some (symI (if k < 9 then Sy.bin k else Sy.neg)) ∧ ∀ j, j < 4 → (ruleC k).length = 1 → tokV (cd (ruleC k ++ [filtC j])) = none := by decide +kernel
theorem lex_lets : ∀ (ls : List Nat), (∀ l ∈ ls, l < 4) → LexR (cd (ls.map filtC)) ((ls.map Sy.lit).map symI)
  | [], _ => .nil
  | l :: ls, h => by
    have hl := h l (.head _)
    obtain ⟨t1, t2, t3⟩ := tok_let l hl
    have hp : pieceOfS (cd ((l :: ls).map filtC)) = cd [filtC l] := by
      have h2 : tokV (Txt.slice (cd ((l :: ls).map filtC)) none (some 2)) = none := by
        cases ls with
        | nil => exact (congrArg tokV sl_one).trans t1
        | cons j ls =>
          rw [show (2 : Int) = ((2 : Nat) : Int) from rfl, sl_to (by simp)]
          exact t3 j (h j (.tail _ (.head _)))
      unfold pieceOfS
      rw [h2]
      rw [if_neg (by simp), show (1 : Int) = ((1 : Nat) : Int) from rfl, sl_to (by simp)]
      rfl
    have hr : restS (cd ((l :: ls).map filtC)) = cd (ls.map filtC) := by
      unfold restS
      rw [hp, cd_len, List.length_singleton, sl_from (by simp)]
      rfl
    refine .cons cd_ne (by rw [hp]; exact t2) (by rw [hr, cd_len, cd_len]; simp) ?_
    rw [hr]
    exact lex_lets ls fun x hx => h x (.tail _ hx)
theorem rule_len : ∀ k, k < 10 → (ruleC k).length = 1 ∨ (ruleC k).length = 2 := by decide +kernel
theorem lex_word {v : Wd} (h : WdOk v) : LexR (cd (wdC v)) ((wdS v).map symI) := by
  obtain ⟨o, ls⟩ := v
  cases o with
  | none => exact lex_lets ls h.let'
  | some k =>
    have hk := h.rule k rfl
    obtain ⟨t1, t2⟩ := tok_rule k hk
    have hl := rule_len k hk
    have hw : wdC (some k, ls) = ruleC k ++ ls.map filtC := rfl
    have hp : pieceOfS (cd (ruleC k ++ ls.map filtC)) = cd (ruleC k) := by
      rcases hl with hl | hl
      · obtain ⟨c, hc⟩ := List.length_eq_one_iff.mp hl
        rw [hc] at t1 t2 ⊢
        cases ls with
        | nil =>
          have h2 : Txt.slice (cd ([c] ++ [].map filtC)) none (some 2) = cd [c] := sl_one
          unfold pieceOfS
          rw [h2, t1, if_pos (by simp)]
        | cons j ls =>
          have h2 : Txt.slice (cd ([c] ++ (j :: ls).map filtC)) none (some 2) = cd ([c] ++ [filtC j]) := by
            rw [show (2 : Int) = ((2 : Nat) : Int) from rfl, sl_to (by simp)]; rfl
          unfold pieceOfS
          rw [h2, t2 j (h.let' j (.head _)) rfl, if_neg (by simp), show (1 : Int) = ((1 : Nat) : Int) from rfl, sl_to (by simp)]; rfl
      · obtain ⟨c, d, hc⟩ := len_two hl
        rw [hc] at t1 t2 ⊢
        have h2 : Txt.slice (cd ([c, d] ++ ls.map filtC)) none (some 2) = cd [c, d] := by
          rw [show (2 : Int) = ((2 : Nat) : Int) from rfl, sl_to (by simp)]; rfl
        unfold pieceOfS
        rw [h2, t1, if_pos (by simp)]
    have hr : restS (cd (ruleC k ++ ls.map filtC)) = cd (ls.map filtC) := by
      unfold restS
      rw [hp, cd_len, sl_from (by simp), List.drop_left]
    have hs : (wdS (some k, ls)).map symI = symI (if k < 9 then Sy.bin k else Sy.neg) :: (ls.map Sy.lit).map symI := rfl
    rw [hw, hs]
    refine .cons ?_ ?_ (by rw [hr, cd_len, cd_len, List.length_append]; omega) (by rw [hr]; exact lex_lets ls h.let')
    · intro e
      have : (cd (ruleC k ++ ls.map filtC)).length = (⟨#[]⟩ : Str).length := by rw [e]
      rw [cd_len, List.length_append] at this
      change _ = 0 at this
      omega
    · rw [hp, symOf, t1]
noncomputable def rdOn (z : List Str × Str) (x : Str) : List Str × Str := x.cps.toList.foldl rdStep z
theorem rdOn_app {z : List Str × Str} {x y : Str} : rdOn z (x ++ y) = rdOn (rdOn z x) y := by
  show ((x.cps ++ y.cps).toList).foldl rdStep z = _
  rw [Array.toList_append, List.foldl_append]; rfl
theorem rdAll_app {x y : Str} : rdAll (x ++ y).cps.toList = rdOn (rdAll x.cps.toList) y := by
  show ((x.cps ++ y.cps).toList).foldl rdStep _ = _
  rw [Array.toList_append, List.foldl_append]; rfl
theorem hid_b1 : ∀ z ∈ hidL, inB1 z.toNat = true ∧ z.toNat ≠ 32 := by decide +kernel
theorem hid_cases (n : Int) : hidS n = ⟨#[]⟩ ∨ ∃ z ∈ hidL, hidS n = ⟨#[z.toNat]⟩ := by
  unfold hidS
  split
  · exact .inl rfl
  · rename_i h
    have hf := fmod_bound n (k := 28) (by decide)
    have hlt := hid_lt n
    refine .inr ⟨_, List.getElem_mem hlt, ?_⟩
    rw [List.getD_eq_getElem?_getD, List.getElem?_eq_getElem hlt]; rfl
theorem rd_hid {z : List Str × Str} (n : Int) : rdOn z (hidS n) = z := by
  rcases hid_cases n with h | ⟨y, hy, h⟩
  · rw [h]; rfl
  · obtain ⟨h1, h2⟩ := hid_b1 y hy
    rw [h]
    show rdStep z y.toNat = z
    rw [rdStep, if_neg h2, if_pos h1]
theorem hid_len (n : Int) : (hidS n).length ≤ 1 := by
  rcases hid_cases n with h | ⟨y, hy, h⟩
  · rw [h]; decide
  · rw [h]; exact Nat.le_refl _
theorem rd_sign {z : List Str × Str} {c : Nat} {y : Str} (h : c ≠ 32 ∧ inB1 c = false ∧ mapB3 c = y) : rdOn z ⟨#[c]⟩ = (z.1, z.2 ++ y) := by
  show rdStep z c = _
  rw [rdStep, if_neg h.1, if_neg (by rw [h.2.1]; decide), h.2.2]
theorem spell_cases (c : Nat) (n : Int) : ∃ k : Nat, k < 12 ∧ spellS c n = spellS c (k : Int) := by
  have hf := fmod_bound n (k := 12) (by decide)
  refine ⟨(n.fmod 12).toNat, by omega, ?_⟩
  have e : ((n.fmod 12).toNat : Int).fmod 12 = n.fmod 12 := by
    rw [Int.toNat_of_nonneg hf.1, Int.fmod_fmod]
  unfold spellS
  rw [e]
theorem spell_let : ∀ l, l < 4 → ∀ k, k < 12 → ∃ d, spellS (filtC l) (k : Nat) = ⟨#[d]⟩ ∧ d ≠ 32 ∧ inB1 d = false ∧ mapB3 d = cd [filtC l] := by
  have key : ∀ l, l < 4 → ∀ k, k < 12 → (match (spellS (filtC l) (k : Nat)).cps with | ⟨[d]⟩ => decide (d ≠ 32) && !inB1 d && decide (mapB3 d = cd [filtC l]) | _ => false) = true := by decide +kernel
  intro l hl k hk
  have := key l hl k hk
  split at this
  · rename_i d hd
    simp only [Bool.and_eq_true, decide_eq_true_eq, Bool.not_eq_true'] at this
    exact ⟨d, congrArg Str.mk hd, this.1.1, this.1.2, this.2⟩
  · cases this
theorem rd_spell {z : List Str × Str} {l : Nat} (hl : l < 4) (n : Int) : rdOn z (spellS (filtC l) n) = (z.1, z.2 ++ cd [filtC l]) ∧ (spellS (filtC l) n).length = 1 := by
  obtain ⟨k, hk, e⟩ := spell_cases (filtC l) n
  obtain ⟨d, hd, h⟩ := spell_let l hl k hk
  rw [e, hd]
  exact ⟨rd_sign h, rfl⟩
theorem lig_map : ∀ k, k < 5 → 64256 + k ≠ 32 ∧ inB1 (64256 + k) = false ∧ mapB3 (64256 + k) = cd ((ligLets k).map filtC) := by decide +kernel
theorem sign_map : ∀ k, k < 10 → ∀ c ∈ ruleC k, c ≠ 32 ∧ inB1 c = false ∧ mapB3 c = cd [c] := by decide +kernel
theorem rd_rule {z : List Str × Str} {k : Nat} (hk : k < 10) (n : Int) : rdOn z (Str.ofString " " ++ Txt.slice (cd (ruleC k)) none (some 1) ++ hidS n ++ Txt.slice (cd (ruleC k)) (some 1) none) = (z.1 ++ [z.2], cd (ruleC k)) := by
  have hs := sign_map k hk
  have hsp : Str.ofString " " = ⟨#[32]⟩ := by decide +kernel
  have h0 : rdOn z (Str.ofString " ") = (z.1 ++ [z.2], ⟨#[]⟩) := by rw [hsp]; rfl
  have he : ∀ y : Str, (⟨#[]⟩ : Str) ++ y = y := fun y => Str.empty_append (by decide)
  rw [rdOn_app, rdOn_app, rdOn_app, h0, rd_hid]
  rcases rule_len k hk with hl | hl
  · obtain ⟨c, hc⟩ := List.length_eq_one_iff.mp hl
    rw [hc] at hs ⊢
    rw [show (1 : Int) = ((1 : Nat) : Int) from rfl, sl_to (by simp), sl_from (by simp)]
    show rdOn (rdOn _ ⟨#[c]⟩) ⟨#[]⟩ = _
    rw [rd_sign (hs c (.head _)), he]; rfl
  · obtain ⟨c, d, hc⟩ := len_two hl
    rw [hc] at hs ⊢
    rw [show (1 : Int) = ((1 : Nat) : Int) from rfl, sl_to (by simp), sl_from (by simp)]
    show rdOn (rdOn _ ⟨#[c]⟩) ⟨#[d]⟩ = _
    rw [rd_sign (hs c (.head _)), rd_sign (hs d (.tail _ (.head _))), he, cd_app]; rfl
theorem rd_tilde {z : List Str × Str} (n : Int) : rdOn z (Str.ofString " ~" ++ hidS n) = (z.1 ++ [z.2], cd (ruleC 9)) := by
  have hsp : Str.ofString " ~" = ⟨#[32, 126]⟩ := by decide +kernel
  have hs := sign_map 9 (by decide) 126 (.head _)
  have he : ∀ y : Str, (⟨#[]⟩ : Str) ++ y = y := fun y => Str.empty_append (by decide)
  have h0 : rdOn z ⟨#[32, 126]⟩ = rdStep (rdStep z 32) 126 := rfl
  have h1 : rdStep z 32 = (z.1 ++ [z.2], ⟨#[]⟩) := if_pos rfl
  have h2 : rdStep (z.1 ++ [z.2], ⟨#[]⟩) 126 = (z.1 ++ [z.2], ⟨#[]⟩ ++ cd [126]) := rd_sign hs
  rw [rdOn_app, rd_hid, hsp, h0, h1, h2, he]; rfl
end
section
theorem runS_app {b : List Sy} : ∀ {a : List Sy} {r : RS}, runS (a ++ b) r = (runS a r).bind (runS b)
  | [], r => rfl
  | s :: a, r => by
    simp only [List.cons_append, runS]
    cases stepS r s with
    | none => rfl
    | some p => exact runS_app
theorem tab_mono {rows xs : List Row} (R : RowsOk rows) {n : Int} (h : Nd rows n) : tabOf (rows ++ xs) n = tabOf rows n := List.map_congr_left fun x _ => ev_mono R h
theorem tab_len {rows : List Row} {n : Int} : (tabOf rows n).length = 16 := by simp [tabOf]
theorem tabOf_at {rows : List Row} {n : Int} {i : Nat} (h : i < 16) : (tabOf rows n).getD i 0 = ev rows n i := by
  rw [List.getD_eq_getElem?_getD, tabOf, List.getElem?_map, List.getElem?_range h]; rfl
theorem tab_bits {rows : List Row} (R : RowsOk rows) {n : Int} (h : Nd rows n) : ∀ z ∈ tabOf rows n, z = 0 ∨ z = 1 := by
  intro z hz
  obtain ⟨x, _, rfl⟩ := List.mem_map.mp hz
  exact ev_bit R h
structure Sim (r : RS) (pile tables : List (List Int)) (i : Nat) : Prop where
  ok : RSok r i
  pl : r.pile.reverse.map (tabOf r.rows) = pile
  tb : r.seen.map (tabOf r.rows) = tables
theorem sim_step {r q : RS} {s : Sy} {i : Nat} {n : Int} {rest : List Int} {pile tables : List (List Int)} {t : List Int} (h : Sim r pile tables i) (hs : stepS r s = some q) (hq : q.pile = n :: rest ∧ q.seen = r.seen ++ [n]) (hsub : ∀ x ∈ rest, x ∈ r.pile) (ht : tabOf q.rows n = t) :
    Sim q (rest.reverse.map (tabOf r.rows) ++ [t]) (tables ++ [t]) (i + 1) := by
  obtain ⟨ok, xs, hx⟩ := stepS_ok h.ok hs
  have R := h.ok.ok
  refine ⟨ok, ?_, ?_⟩
  · rw [hq.1, List.reverse_cons, List.map_append, List.map_singleton, ht]
    congr 1
    refine List.map_congr_left fun x hx' => ?_
    rw [hx]
    exact tab_mono R (h.ok.nd x (hsub x (List.mem_reverse.mp hx')))
  · rw [hq.2, List.map_append, List.map_singleton, ht, ← h.tb]
    congr 1
    refine List.map_congr_left fun x hx' => ?_
    rw [hx]
    exact tab_mono R (h.ok.sn x hx')
theorem lit_tab : ∀ l, l < 4 → (List.range 16).map (fun x => if bitAt x l = true then (1 : Int) else 0) = caseT (filtC l) := by decide +kernel
theorem sim_lit {r : RS} {i l : Nat} {pile tables : List (List Int)} (h : Sim r pile tables i) (hl : l < 4) : ∃ q, stepS r (.lit l) = some q ∧ Sim q (pile ++ [caseT (filtC l)]) (tables ++ [caseT (filtC l)]) (i + 1) := by
  have R := h.ok.ok
  refine ⟨_, if_pos hl, ?_⟩
  have := sim_step (t := caseT (filtC l)) h (s := .lit l) (if_pos hl) ⟨rfl, rfl⟩ (fun x hx => hx) ?_
  · rwa [h.pl] at this
  · rw [← lit_tab l hl]
    refine List.map_congr_left fun x _ => ?_
    dsimp only
    rw [nodeP_ev R (l := (l : Int)) (lo := 0) (hi := 1) (by omega) (by omega) (.inl rfl) (.inr (.inl rfl)) (by rw [lev_term (by decide)]; omega) (by rw [lev_term (by decide)]; omega)]
    rw [ev_term (by decide), ev_term (by decide)]; rfl
theorem neg_tr : ∀ a : Int, (a = 0 ∨ a = 1) → tb 0 1 1 0 a 1 = ([1, 0] : List Int).getD a.toNat 0 := by
  rintro a (rfl | rfl) <;> decide
theorem bin_tr : ∀ k, k < 9 → ∀ a b : Int, (a = 0 ∨ a = 1) → (b = 0 ∨ b = 1) → opB k a b = ((rulesL.getD k (⟨#[]⟩, [])).2).getD (2 * a + b).toNat 0 := by
  have key : ∀ k, k < 9 → opB k 0 0 = ((rulesL.getD k (⟨#[]⟩, [])).2).getD 0 0 ∧ opB k 0 1 = ((rulesL.getD k (⟨#[]⟩, [])).2).getD 1 0 ∧ opB k 1 0 = ((rulesL.getD k (⟨#[]⟩, [])).2).getD 2 0 ∧ opB k 1 1 = ((rulesL.getD k (⟨#[]⟩, [])).2).getD 3 0 := by decide +kernel
  rintro k hk a b (rfl | rfl) (rfl | rfl)
  · exact (key k hk).1
  · exact (key k hk).2.1
  · exact (key k hk).2.2.1
  · exact (key k hk).2.2.2
theorem pile_last {r : RS} {pile : List (List Int)} {f : List Int} (h : r.pile.reverse.map (tabOf r.rows) = pile ++ [f]) : ∃ x p, r.pile = x :: p ∧ tabOf r.rows x = f ∧ p.reverse.map (tabOf r.rows) = pile := by
  cases hp : r.pile with
  | nil => rw [hp] at h; simp at h
  | cons x p =>
    rw [hp, List.reverse_cons, List.map_append, List.map_singleton] at h
    have := List.append_inj' h rfl
    exact ⟨x, p, rfl, by simpa using this.2, this.1⟩
theorem sim_neg {r : RS} {i : Nat} {pile tables : List (List Int)} {f : List Int} (h : Sim r (pile ++ [f]) tables i) : ∃ q, stepS r .neg = some q ∧ Sim q (pile ++ [tab1 [1, 0] f]) (tables ++ [tab1 [1, 0] f]) (i + 1) := by
  have R := h.ok.ok
  obtain ⟨x, p, hp, rfl, hpp⟩ := pile_last h.pl
  have hx := h.ok.nd x (hp ▸ .head _)
  have e : stepS r .neg = some ⟨(joinP (tb 0 1 1 0) 4 r.rows x 1).1, (joinP (tb 0 1 1 0) 4 r.rows x 1).2 :: p, r.seen ++ [(joinP (tb 0 1 1 0) 4 r.rows x 1).2]⟩ := by simp only [stepS, hp]
  refine ⟨_, e, ?_⟩
  have := sim_step (t := tab1 [1, 0] (tabOf r.rows x)) h e ⟨rfl, rfl⟩ (fun y hy => hp ▸ .tail _ hy) ?_
  · rwa [hpp] at this
  · refine List.map_congr_left fun y hy => ?_
    dsimp only
    rw [joinP_ev neg_bit 4 R hx (.inr (.inl rfl) : Nd r.rows 1) (lev4 R hx) (lev4 R (.inr (.inl rfl)))]
    rw [tabOf_at (List.mem_range.mp hy)]
    rw [show ev r.rows 1 y = 1 from ev_term (by decide)]
    exact neg_tr _ (ev_bit R hx)
theorem sim_bin {r : RS} {i k : Nat} {pile tables : List (List Int)} {f1 f2 : List Int} (hk : k < 9) (h : Sim r (pile ++ [f1] ++ [f2]) tables i) : ∃ q, stepS r (.bin k) = some q ∧ Sim q (pile ++ [tab2 (rulesL.getD k (⟨#[]⟩, [])).2 f1 f2]) (tables ++ [tab2 (rulesL.getD k (⟨#[]⟩, [])).2 f1 f2]) (i + 1) := by
  have R := h.ok.ok
  obtain ⟨y, p1, hp1, rfl, hpp1⟩ := pile_last h.pl
  obtain ⟨x, p, hp, e1, hpp⟩ := pile_last (r := ⟨r.rows, p1, r.seen⟩) hpp1
  dsimp only at hp e1 hpp
  subst e1 hp
  have hx := h.ok.nd x (hp1 ▸ .tail _ (.head _))
  have hy := h.ok.nd y (hp1 ▸ .head _)
  have e : stepS r (.bin k) = some ⟨(joinP (opB k) 4 r.rows x y).1, (joinP (opB k) 4 r.rows x y).2 :: p, r.seen ++ [(joinP (opB k) 4 r.rows x y).2]⟩ := by simp only [stepS, hp1]
  refine ⟨_, e, ?_⟩
  have := sim_step (t := tab2 (rulesL.getD k (⟨#[]⟩, [])).2 (tabOf r.rows x) (tabOf r.rows y)) h e ⟨rfl, rfl⟩ (fun z hz => hp1 ▸ .tail _ (.tail _ hz)) ?_
  · rwa [hpp] at this
  · refine List.map_congr_left fun z hz => ?_
    dsimp only
    rw [joinP_ev (opB_bit k) 4 R hx hy (lev4 R hx) (lev4 R hy)]
    rw [tabOf_at (List.mem_range.mp hz), tabOf_at (List.mem_range.mp hz)]
    exact bin_tr k hk _ _ (ev_bit R hx) (ev_bit R hy)
theorem sim_lits : ∀ (ls : List Nat) {r : RS} {i : Nat} {pile tables : List (List Int)}, Sim r pile tables i → (∀ l ∈ ls, l < 4) → ∃ q, runS (ls.map Sy.lit) r = some q ∧ Sim q (pile ++ ls.map fun l => caseT (filtC l)) (tables ++ ls.map fun l => caseT (filtC l)) (i + ls.length)
  | [], r, i, pile, tables, h, _ => ⟨r, rfl, by simpa using h⟩
  | l :: ls, r, i, pile, tables, h, hl => by
    obtain ⟨q, e, h1⟩ := sim_lit h (hl l (.head _))
    obtain ⟨q', e', h2⟩ := sim_lits ls h1 fun x hx => hl x (.tail _ hx)
    refine ⟨q', ?_, ?_⟩
    · show (stepS r (.lit l)).bind _ = _
      rw [e]; exact e'
    · rw [List.length_cons, show i + (ls.length + 1) = i + 1 + ls.length by omega]
      simpa using h2
structure PDrawn (d : DS) (n : Nat) (ws : List Wd) (cur : Wd) (r : RS) : Prop where
  wd : ∀ v ∈ ws ++ [cur], WdOk v
  rd : rdAll d.text.cps.toList = (ws.map fun v => cd (wdC v), cd (wdC cur))
  rn : runS ((ws ++ [cur]).flatMap wdS) ⟨[], [], []⟩ = some r
  sm : Sim r d.pile d.tables ((ws ++ [cur]).flatMap wdS).length
  tl : d.text.length ≤ 4 * n
  sl : ((ws ++ [cur]).flatMap wdS).length ≤ 3 * n
  ch : ∀ c ∈ d.text.cps.toList, (mapB3 c).length ≤ 4
  bn : ∀ k, Sy.bin k ∈ (ws ++ [cur]).flatMap wdS → k < 9
  tn : n ≤ d.tables.length
theorem drawn0 : PDrawn ⟨⟨#[]⟩, [], []⟩ 0 [] (none, []) ⟨[], [], []⟩ := by
  refine ⟨?_, rfl, rfl, ⟨rsok0, rfl, rfl⟩, Nat.le_refl _, Nat.le_refl _, (fun _ h => nomatch h), (fun _ h => nomatch h), Nat.le_refl _⟩
  intro v hv
  rw [List.mem_singleton.mp hv]
  exact ⟨(fun _ h => nomatch h), (fun _ h => nomatch h)⟩
theorem hid_map : ∀ z ∈ hidL, (mapB3 z.toNat).length ≤ 4 := by decide +kernel
theorem hid_ch (n : Int) : ∀ c ∈ (hidS n).cps.toList, (mapB3 c).length ≤ 4 := by
  rcases hid_cases n with h | ⟨y, hy, h⟩
  · rw [h]; exact fun _ h => nomatch h
  · rw [h]
    intro c hc
    rw [List.mem_singleton.mp hc]; exact hid_map y hy
theorem ch_app {x y : Str} (h1 : ∀ c ∈ x.cps.toList, (mapB3 c).length ≤ 4) (h2 : ∀ c ∈ y.cps.toList, (mapB3 c).length ≤ 4) : ∀ c ∈ (x ++ y).cps.toList, (mapB3 c).length ≤ 4 := by
  intro c hc
  have : c ∈ (x.cps ++ y.cps).toList := hc
  rw [Array.toList_append, List.mem_append] at this
  exact this.elim (h1 c) (h2 c)
theorem len_app {x y : Str} : (x ++ y).length = x.length + y.length := Str.length_append x y
theorem wdS_app {v : Wd} {ls : List Nat} : wdS (v.1, v.2 ++ ls) = wdS v ++ ls.map Sy.lit := by simp [wdS]
theorem wdC_app {v : Wd} {ls : List Nat} : wdC (v.1, v.2 ++ ls) = wdC v ++ ls.map filtC := by simp [wdC]
theorem drawn_lets {t tx : Str} {us ts : List (List Int)} {n : Nat} {ws : List Wd} {cur : Wd} {r : RS} {ls : List Nat} (h : PDrawn ⟨t, us, ts⟩ n ws cur r) (hl : ∀ l ∈ ls, l < 4) (hn : ls.length ≤ 3) (h1 : 1 ≤ ls.length) (htx : ∀ z, rdOn z tx = (z.1, z.2 ++ cd (ls.map filtC))) (htl : tx.length ≤ 4) (hch : ∀ c ∈ tx.cps.toList, (mapB3 c).length ≤ 4) :
    ∃ ws' cur' r', PDrawn ⟨t ++ tx, us ++ ls.map fun l => caseT (filtC l), ts ++ ls.map fun l => caseT (filtC l)⟩ (n + 1) ws' cur' r' := by
  obtain ⟨q, e, hq⟩ := sim_lits ls h.sm hl
  have hw : (ws ++ [(cur.1, cur.2 ++ ls)]).flatMap wdS = (ws ++ [cur]).flatMap wdS ++ ls.map Sy.lit := by simp [List.flatMap_append, wdS_app]
  refine ⟨ws, (cur.1, cur.2 ++ ls), q, ?_, ?_, ?_, ?_, ?_, ?_, ?_, ?_, ?_⟩
  · intro v hv
    rcases List.mem_append.mp hv with hv | hv
    · exact h.wd v (List.mem_append_left _ hv)
    · rw [List.mem_singleton.mp hv]
      have := h.wd cur (by simp)
      refine ⟨this.rule, fun l hl' => ?_⟩
      rcases List.mem_append.mp hl' with h' | h'
      · exact this.let' l h'
      · exact hl l h'
  · have := h.rd
    dsimp only at this ⊢
    rw [rdAll_app, this, htx, wdC_app, cd_app]
  · rw [hw, runS_app, h.rn]; exact e
  · rw [hw, List.length_append, List.length_map]; exact hq
  · have := h.tl
    dsimp only at this ⊢
    rw [len_app]; omega
  · have := h.sl
    rw [hw, List.length_append, List.length_map]; omega
  · exact ch_app h.ch hch
  · intro k hk
    rw [hw, List.mem_append] at hk
    rcases hk with hk | hk
    · exact h.bn k hk
    · obtain ⟨l, _, e⟩ := List.mem_map.mp hk; cases e
  · have := h.tn
    dsimp only at this ⊢
    rw [List.length_append, List.length_map]; omega
theorem drawn_rule {t tx : Str} {us us' ts : List (List Int)} {tb : List Int} {n k : Nat} {ws : List Wd} {cur : Wd} {r q : RS} (h : PDrawn ⟨t, us, ts⟩ n ws cur r) (hk : k < 10) (e : stepS r (if k < 9 then Sy.bin k else Sy.neg) = some q) (hq : Sim q us' (ts ++ [tb]) (((ws ++ [cur]).flatMap wdS).length + 1)) (htx : ∀ z, rdOn z tx = (z.1 ++ [z.2], cd (ruleC k))) (htl : tx.length ≤ 4) (hch : ∀ c ∈ tx.cps.toList, (mapB3 c).length ≤ 4) :
    ∃ ws' cur' r', PDrawn ⟨t ++ tx, us', ts ++ [tb]⟩ (n + 1) ws' cur' r' := by
  have hw : ((ws ++ [cur]) ++ [((some k, []) : Wd)]).flatMap wdS = (ws ++ [cur]).flatMap wdS ++ [if k < 9 then Sy.bin k else Sy.neg] := by
    rw [List.flatMap_append (xs := ws ++ [cur])]; simp [wdS]
  refine ⟨ws ++ [cur], (some k, []), q, ?_, ?_, ?_, ?_, ?_, ?_, ?_, ?_, ?_⟩
  · intro v hv
    rcases List.mem_append.mp hv with hv | hv
    · exact h.wd v hv
    · rw [List.mem_singleton.mp hv]
      exact ⟨fun j hj => by cases hj; exact hk, fun _ h => nomatch h⟩
  · have := h.rd
    dsimp only at this ⊢
    rw [rdAll_app, this, htx]
    simp [wdC]
  · rw [hw, runS_app, h.rn]
    show (stepS r _).bind _ = _
    rw [e]; rfl
  · rw [hw, List.length_append, List.length_singleton]; exact hq
  · have := h.tl
    dsimp only at this ⊢
    rw [len_app]; omega
  · have := h.sl
    rw [hw, List.length_append, List.length_singleton]; omega
  · exact ch_app h.ch hch
  · intro j hj
    rw [hw, List.mem_append] at hj
    rcases hj with hj | hj
    · exact h.bn j hj
    · have := List.mem_singleton.mp hj
      split at this
      · cases this; assumption
      · cases this
  · have := h.tn
    dsimp only at this ⊢
    rw [List.length_append, List.length_singleton]; omega
theorem rule_at (x : Int) : ∃ k, k < 10 ∧ ruleOf x = rulesL.getD k (⟨#[]⟩, []) ∧ (ruleOf x).1 = cd (ruleC k) := by
  have hf := fmod_bound (x.fdiv 4) (k := 10) (by decide)
  exact ⟨((x.fdiv 4).fmod 10).toNat, by omega, rfl, rule_c _ (by omega)⟩
theorem rule_tilde : ∀ k, k < 10 → (cd (ruleC k) = Str.ofString "~" ↔ k = 9) := by decide +kernel
theorem tilde_tr : (rulesL.getD 9 (⟨#[]⟩, [])).2 = [1, 0] := by decide +kernel
theorem sign_ch : ∀ k, k < 10 → ∀ c ∈ ruleC k, (mapB3 c).length ≤ 4 := by decide +kernel
theorem space_ch : ∀ c ∈ (Str.ofString " ").cps.toList, (mapB3 c).length ≤ 4 := by decide +kernel
theorem lig_lt : ∀ k, k < 5 → (∀ l ∈ ligLets k, l < 4) ∧ (ligLets k).length ≤ 3 ∧ 1 ≤ (ligLets k).length ∧ (mapB3 (64256 + k)).length ≤ 4 := by decide +kernel
theorem spell_ch (l : Nat) (hl : l < 4) (n : Int) : ∀ c ∈ (spellS (filtC l) n).cps.toList, (mapB3 c).length ≤ 4 := by
  obtain ⟨k, hk, e⟩ := spell_cases (filtC l) n
  obtain ⟨d, hd, h⟩ := spell_let l hl k hk
  rw [e, hd]
  intro c hc
  rw [List.mem_singleton.mp hc, h.2.2]
  show 1 ≤ 4
  decide
theorem sl_ch {l : List Nat} (h : ∀ c ∈ l, (mapB3 c).length ≤ 4) (j : Nat) : (∀ c ∈ (cd (l.take j)).cps.toList, (mapB3 c).length ≤ 4) ∧ (∀ c ∈ (cd (l.drop j)).cps.toList, (mapB3 c).length ≤ 4) := by
  refine ⟨fun c hc => h c (List.mem_of_mem_take (i := j) ?_), fun c hc => h c (List.mem_of_mem_drop (i := j) ?_)⟩
  · exact (by simpa using hc : c ∈ l.take j)
  · exact (by simpa using hc : c ∈ l.drop j)
theorem drawn_step {x : Int} {d d' : DS} {n : Nat} {ws : List Wd} {cur : Wd} {r : RS} (h : PDrawn d n ws cur r) (hs : DStep x d d') : ∃ ws' cur' r', PDrawn d' (n + 1) ws' cur' r' := by
  obtain ⟨k, hk, hr, hc⟩ := rule_at x
  have hhid := hid_len (x.fdiv 192)
  have hsp : (Str.ofString " ").length = 1 := by decide +kernel
  have hsp2 : (Str.ofString " ~").length = 2 := by decide +kernel
  cases hs with
  | @bin t us ts f1 f2 h1 h2 =>
    have hk9 : k < 9 := by
      rw [hc] at h2
      have := mt (rule_tilde k hk).mpr h2
      omega
    obtain ⟨q, e, hq⟩ := sim_bin hk9 h.sm
    rw [← hr] at hq
    have hl := rule_len k hk
    refine drawn_rule h hk (by rw [if_pos hk9]; exact e) hq ?_ ?_ ?_
    · intro z; rw [binTx, hc]; exact rd_rule hk _
    · rw [binTx, hc, show (1 : Int) = ((1 : Nat) : Int) from rfl, sl_to (by omega), sl_from (by omega), len_app, len_app, len_app]
      have a1 := cd_len (l := (ruleC k).take 1)
      have a2 := cd_len (l := (ruleC k).drop 1)
      rw [List.length_take] at a1
      rw [List.length_drop] at a2
      omega
    · rw [binTx, hc, show (1 : Int) = ((1 : Nat) : Int) from rfl, sl_to (by omega), sl_from (by omega)]
      have := sl_ch (sign_ch k hk) 1
      exact ch_app (ch_app (ch_app space_ch this.1) (hid_ch _)) this.2
  | @neg t us ts f1 h1 h2 =>
    have hk9 : k = 9 := by rw [hc] at h2; exact (rule_tilde k hk).mp h2
    subst hk9
    have htr : (ruleOf x).2 = [1, 0] := by rw [hr]; exact tilde_tr
    obtain ⟨q, e, hq⟩ := sim_neg h.sm
    rw [← htr] at hq
    refine drawn_rule h hk e hq (fun z => rd_tilde _) ?_ ?_
    · rw [negTx, len_app]; omega
    · refine ch_app ?_ (hid_ch _)
      have : (Str.ofString " ~").cps.toList = [32, 126] := by decide +kernel
      rw [this]
      have h32 : (mapB3 32).length ≤ 4 := by decide +kernel
      have h126 : (mapB3 126).length ≤ 4 := by decide +kernel
      intro c hc
      simp only [List.mem_cons, List.not_mem_nil, or_false] at hc
      rcases hc with rfl | rfl
      · exact h32
      · exact h126
  | @lig t us ts =>
    have hf := fmod_bound (x.fdiv 4) (k := 5) (by decide)
    have hlo : ligOf x < 5 := by unfold ligOf; omega
    obtain ⟨l1, l2, l3, l4⟩ := lig_lt _ hlo
    have hx : (64256 + (x.fdiv 4).fmod 5).toNat = 64256 + ligOf x := Int.toNat_add (by decide) hf.1
    refine drawn_lets h l1 l2 l3 ?_ ?_ ?_
    · intro z
      rw [ligTx, hx, rdOn_app, rd_hid]
      exact rd_sign (lig_map _ hlo)
    · rw [ligTx, len_app]
      show 1 + _ ≤ 4
      omega
    · rw [ligTx, hx]
      refine ch_app ?_ (hid_ch _)
      intro c hc
      rw [List.mem_singleton.mp hc]; exact l4
  | @letter t us ts =>
    have hf := fmod_bound (x.fdiv 4) (k := 4) (by decide)
    have hlo : letOf x < 4 := by unfold letOf; omega
    refine drawn_lets (ls := [letOf x]) h (fun l hl => (List.mem_singleton.mp hl) ▸ hlo) (by simp) (by simp) ?_ ?_ ?_
    · intro z
      rw [letTx, rdOn_app, rd_hid]
      exact (rd_spell hlo _).1
    · rw [letTx, len_app, (rd_spell (z := ([], ⟨#[]⟩)) hlo _).2]; omega
    · rw [letTx]
      exact ch_app (spell_ch _ hlo _) (hid_ch _)
end
section
inductive DRun (nums : List Int) : Nat → DS → Prop where
  | zero : DRun nums 0 ⟨⟨#[]⟩, [], []⟩
  | succ {n : Nat} {d d' : DS} : DRun nums n d → DStep (xAt nums n d.pile.length) d d' → DRun nums (n + 1) d'
theorem DRun.drawn {nums : List Int} : ∀ {n : Nat} {d : DS}, DRun nums n d → ∃ ws cur r, PDrawn d n ws cur r
  | _, _, .zero => ⟨_, _, _, drawn0⟩
  | _, _, .succ h s => by obtain ⟨_, _, _, h'⟩ := h.drawn; exact drawn_step h' s
theorem runS_len : ∀ {l : List Sy} {r q : RS}, runS l r = some q → q.pile.length ≤ r.pile.length + l.length ∧ q.seen.length = r.seen.length + l.length
  | [], r, q, h => by cases h; simp
  | s :: l, r, q, h => by
    simp only [runS] at h
    cases hs : stepS r s with
    | none => rw [hs] at h; cases h
    | some p =>
      rw [hs] at h
      have h1 := stepS_pile hs
      have h2 := runS_len (l := l) h
      rw [List.length_cons]; omega
structure DFacts (d : DS) (n : Nat) : Prop where
  tl : d.text.length ≤ 4 * n
  pl : d.pile.length ≤ 3 * n
  tb : d.tables.length ≤ 3 * n
  tn : n ≤ d.tables.length
  bits : ∀ t ∈ d.pile, t.length = 16 ∧ ∀ z ∈ t, z = 0 ∨ z = 1
  bitt : ∀ t ∈ d.tables, t.length = 16 ∧ ∀ z ∈ t, z = 0 ∨ z = 1
theorem DRun.facts {nums : List Int} {n : Nat} {d : DS} (h : DRun nums n d) : DFacts d n := by
  obtain ⟨ws, cur, r, h⟩ := h.drawn
  have hl := runS_len h.rn
  have hs := h.sl
  simp only [List.length_nil, Nat.zero_add] at hl
  have R := h.sm.ok.ok
  have key : ∀ (l : List Int), (∀ x ∈ l, Nd r.rows x) → ∀ t ∈ l.map (tabOf r.rows), t.length = 16 ∧ ∀ z ∈ t, z = 0 ∨ z = 1 := by
    intro l hl t ht
    obtain ⟨x, hx, rfl⟩ := List.mem_map.mp ht
    exact ⟨tab_len, tab_bits R (hl x hx)⟩
  refine ⟨h.tl, ?_, ?_, h.tn, ?_, ?_⟩
  · rw [← h.sm.pl, List.length_map, List.length_reverse]; omega
  · rw [← h.sm.tb, List.length_map]; omega
  · rw [← h.sm.pl]
    exact key _ fun x hx => h.sm.ok.nd x (List.mem_reverse.mp hx)
  · rw [← h.sm.tb]
    exact key _ fun x hx => h.sm.ok.sn x hx
noncomputable def NoTab (o : Obj) : Prop := ∀ (ps : List (Int × Tok)) (n : Nat), o = listOf (ps.map intV).toArray n → ps = []
theorem noTab_refs {us : List Value} {k : Nat} (h : ∀ x ∈ us, ∃ b, x = .ref b) : NoTab (listOf us.toArray k) := by
  intro ps n e
  have e1 : us = ps.map intV := by
    have := congrArg Obj.data e
    simp only [Data.seq.injEq] at this
    simpa using this.1
  cases ps with
  | nil => rfl
  | cons p ps =>
    obtain ⟨b, hb⟩ := h (intV p) (by rw [e1]; exact .head _)
    cases hb
theorem noTab_cell {o : Obj} {v : Option Value} (h : o.data = .cell v) : NoTab o := by
  intro ps n e
  rw [e] at h
  cases h
theorem TabIn.less {T T' : List (Addr × Obj)} {v : Value} {tb : List Int} (h : TabIn T v tb) (hne : tb ≠ []) (hT : ∀ p ∈ T, p ∈ T' ∨ NoTab p.2) : TabIn T' v tb := by
  obtain ⟨a, n, ps, rfl, hm, hp⟩ := h
  rcases hT _ hm with h | h
  · exact ⟨a, n, ps, rfl, h, hp⟩
  · exact absurd (by rw [← hp, h ps n rfl]; rfl) hne
theorem TabsIn.less {T T' : List (Addr × Obj)} {vs : List Value} {tbs : List (List Int)} (h : TabsIn T vs tbs) (hne : ∀ t ∈ tbs, t.length = 16) (hT : ∀ p ∈ T, p ∈ T' ∨ NoTab p.2) : TabsIn T' vs tbs :=
  ⟨h.1, fun i v tb h1 h2 => (h.2 i v tb h1 h2).less (fun e => by have := hne tb (List.mem_of_getElem? h2); rw [e] at this; cases this) hT⟩
theorem TabsIn.refs {T : List (Addr × Obj)} {vs : List Value} {tbs : List (List Int)} (h : TabsIn T vs tbs) : ∀ x ∈ vs, ∃ b, x = .ref b := by
  intro x hx
  obtain ⟨i, hi, rfl⟩ := List.getElem_of_mem hx
  obtain ⟨a, n, ps, e, _⟩ := h.2 i _ _ (List.getElem?_eq_getElem hi) (List.getElem?_eq_getElem (h.1 ▸ hi))
  exact ⟨a, e⟩
theorem TabsIn.app {T : List (Addr × Obj)} {vs ws : List Value} {as bs : List (List Int)} (h1 : TabsIn T vs as) (h2 : TabsIn T ws bs) : TabsIn T (vs ++ ws) (as ++ bs) := by
  refine ⟨by rw [List.length_append, List.length_append, h1.1, h2.1], fun i v tb hv ht => ?_⟩
  by_cases hi : i < vs.length
  · rw [List.getElem?_append_left hi] at hv
    rw [List.getElem?_append_left (h1.1 ▸ hi)] at ht
    exact h1.2 i v tb hv ht
  · rw [List.getElem?_append_right (by omega)] at hv
    rw [List.getElem?_append_right (by rw [← h1.1]; omega), ← h1.1] at ht
    exact h2.2 _ v tb hv ht
theorem TabsIn.unsnoc {T : List (Addr × Obj)} {vs : List Value} {as : List (List Int)} {b : List Int} (h : TabsIn T vs (as ++ [b])) : ∃ us v, vs = us ++ [v] ∧ TabsIn T us as ∧ TabIn T v b := by
  have hl := h.1
  rw [List.length_append, List.length_singleton] at hl
  have hne : vs ≠ [] := by rintro rfl; simp at hl
  obtain ⟨us, v, rfl⟩ : ∃ us v, vs = us ++ [v] := ⟨vs.dropLast, vs.getLast hne, (List.dropLast_concat_getLast hne).symm⟩
  have hd : us.length = as.length := by simpa using hl
  refine ⟨us, v, rfl, ⟨hd, fun i v' tb hv ht => ?_⟩, ?_⟩
  · have hi := (List.getElem?_eq_some_iff.mp hv).1
    refine h.2 i v' tb ?_ ?_
    · rw [List.getElem?_append_left hi]; exact hv
    · rw [List.getElem?_append_left (hd ▸ hi)]; exact ht
  · refine h.2 as.length _ _ ?_ ?_
    · rw [List.getElem?_append_right (by omega), hd]; simp
    · rw [List.getElem?_append_right (Nat.le_refl _)]; simp
theorem xAt_bound {nums : List Int} {turn plen : Nat} (h : ∀ x ∈ nums, 0 ≤ x ∧ x < 1000000) : 0 ≤ xAt nums turn plen ∧ xAt nums turn plen < 1000000 := by
  unfold xAt
  split
  · rw [List.getD_eq_getElem?_getD]
    cases e : nums[turn]? with
    | none => simp
    | some x => exact h x (List.mem_of_getElem? e)
  · have := fmod_bound (nums.sum + (plen : Int)) (k := 9) (by decide)
    exact ⟨Int.add_nonneg (by decide) (Int.mul_nonneg (by decide) this.1), Int.lt_of_le_of_lt (Int.add_le_add_left (Int.mul_le_mul_of_nonneg_left (Int.le_of_lt this.2) (by decide)) 2) (by decide)⟩
theorem sum_bound : ∀ {l : List Int}, (∀ x ∈ l, 0 ≤ x ∧ x < 1000000) → 0 ≤ l.sum ∧ l.sum ≤ 999999 * (l.length : Int)
  | [], _ => by simp
  | x :: l, h => by
    have h1 := h x (.head _)
    have h2 := sum_bound (l := l) fun y hy => h y (.tail _ hy)
    rw [List.sum_cons, List.length_cons]
    push_cast
    omega
end
section
noncomputable def ligL : List Str := [Str.ofString "ff", Str.ofString "fi", Str.ofString "fl", Str.ofString "ffi", Str.ofString "ffl"]
theorem lig_at {a1 a2 a3 a4 a5 : Str} {t1 t2 t3 t4 t5 : Tok} {k : Int} (h0 : 0 ≤ k) (h1 : k < 5) : ∃ t, ItemAt [.str a1 t1, .str a2 t2, .str a3 t3, .str a4 t4, .str a5 t5] k (.str ([a1, a2, a3, a4, a5].getD k.toNat ⟨#[]⟩) t) := by
  have h : k = 0 ∨ k = 1 ∨ k = 2 ∨ k = 3 ∨ k = 4 := by omega
  rcases h with rfl | rfl | rfl | rfl | rfl
  · exact ⟨t1, by decide, by decide, rfl⟩
  · exact ⟨t2, by decide, by decide, rfl⟩
  · exact ⟨t3, by decide, by decide, rfl⟩
  · exact ⟨t4, by decide, by decide, rfl⟩
  · exact ⟨t5, by decide, by decide, rfl⟩
theorem case_in {w : World} {T : List (Addr × Obj)} {dc : Addr} (h : CasesOk w T dc) {c : Nat} (hc : c = 102 ∨ c = 105 ∨ c = 108 ∨ c = 116) : ∃ (od : Obj) (kvs : List (Str × Value)) (v : Value), (dc, od) ∈ T ∧ od.IsDictOf (PySem.strKind Challenge.rw_wf0091_01.prog w) kvs ∧ valueAt kvs ⟨#[c]⟩ = some v ∧ TabIn T v (caseT c) := by
  obtain ⟨od, kvs, h1, h2, h3⟩ := h
  have e1 : Str.ofString "f" = ⟨#[102]⟩ := by decide +kernel
  have e2 : Str.ofString "i" = ⟨#[105]⟩ := by decide +kernel
  have e3 : Str.ofString "l" = ⟨#[108]⟩ := by decide +kernel
  have e4 : Str.ofString "t" = ⟨#[116]⟩ := by decide +kernel
  rcases hc with rfl | rfl | rfl | rfl
  · obtain ⟨v, h4, h5⟩ := h3 (Str.ofString "f", _) (.head _)
    exact ⟨od, kvs, v, h1, h2, e1 ▸ h4, h5⟩
  · obtain ⟨v, h4, h5⟩ := h3 (Str.ofString "i", _) (.tail _ (.head _))
    exact ⟨od, kvs, v, h1, h2, e2 ▸ h4, h5⟩
  · obtain ⟨v, h4, h5⟩ := h3 (Str.ofString "l", _) (.tail _ (.tail _ (.head _)))
    exact ⟨od, kvs, v, h1, h2, e3 ▸ h4, h5⟩
  · obtain ⟨v, h4, h5⟩ := h3 (Str.ofString "t", _) (.tail _ (.tail _ (.tail _ (.head _))))
    exact ⟨od, kvs, v, h1, h2, e4 ▸ h4, h5⟩
theorem five_size (a b c d e : Value) : [a, b, c, d, e].length ≤ sizeLine := by show 5 ≤ sizeLine; decide +kernel
local macro_rules | `(tactic| walk_at "newList") => `(tactic| (k_here; k_dflt (refine' newList_K (hsz := five_size _ _ _ _ _) (by k_asm) (by k_asm) ?_; k_whole); intro l' h' F' N' l1; (try k_lt l1)))
local macro_rules | `(tactic| walk_at "last subscriptTail") => `(tactic| (k_here; (with_reducible refine Stop.out ?_)))
noncomputable def ligStm : Stmt := (ifBranch (elseOf (elseOf (bodyAt (fnOfStm 78).2.1 8) 4) 0) 0).getD 1 (.Pass default)
noncomputable def ligE : PySem.Expr := match ligStm with
  | .Assign _ (.ListComp e _ _ _) _ => e
  | _ => default
noncomputable def ligI : PySem.Expr := match ligStm with
  | .Assign _ (.ListComp _ (g :: _) _ _) _ => g.iter
  | _ => default
noncomputable def ligSc : Scope := match ligStm with
  | .Assign _ (.ListComp _ _ s _) _ => s
  | _ => default
theorem lig_iter {w : World} {x : Int} {tx : Tok} {TT : List (Addr × Obj)}
    {dp un : Nat} {gd : Option (List Code)} {cn : Str} {cs : Scope} {a : Addr} {ccd : Value} {cl : List (Str × Addr)} {outer : List Env} {base g' : Heap} {L L' : Addr} {s : Shared} {mean : ExcName → Option Value} {mg mb m' : Str → Option Value} {Q : Value → Shared → Prop} {E : Value → Shared → Prop}
    (B' : Below (ktrTop dp un gd cn cs L a ccd cl outer) base (envX cn cs L a ccd cl :: outer) g') (F' : Fr g' L' s.heap m') (X' : (KK w.params).In g') (T' : Top qv looseL mean mg mb g')
    (N' : News g' L' s.heap TT)
    (hm1 : m' (Str.ofString "x") = some (.int x tx))
    (hks : cs.kind = .function) (hdp : dp + 60 < recursionLimit) (hun : un + 400 < cLine)
    (hret : ∀ t h' tk, Fr g' L' h' m' → News g' L' h' TT → Q (.str (ligL.getD ((x.fdiv 4).fmod 5).toNat ⟨#[]⟩) t) { s with heap := h', toks := tk }) :
    Stop (wpAny (model Challenge.rw_wf0091_01.prog w) ((ktrTop dp un gd cn cs L a ccd cl outer).deeper (drEnv L')) (eval ligI (drEnv L')) Q E s) := by
  refine ⟨?_⟩
  have e : ligI = .Subscript (.List [_, _, _, _, _] _) _ _ := rfl
  rw [e]
  obtain ⟨H, gs, dr, tks, os⟩ := s
  dsimp only at F' N' hret
  revert F' N' hret
  revert B' X' T'
  k_fill
  intro B' X' T' F' N' hret
  have hf := fmod_bound (x.fdiv 4) (k := 5) (by decide)
  wrow_steps
  refine ⟨?_⟩
  rename News g' L' _ _ => kN
  rename Fr g' L' _ _ => kF
  obtain ⟨t9, hit⟩ := lig_at (a1 := Str.ofString "ff") (a2 := Str.ofString "fi") (a3 := Str.ofString "fl") (a4 := Str.ofString "ffi") (a5 := Str.ofString "ffl") (t1 := tks) (t2 := tks + 1) (t3 := tks + 1 + 1) (t4 := tks + 1 + 1 + 1) (t5 := tks + 1 + 1 + 1 + 1) hf.1 hf.2
  refine item_at kN (.head _) hit ?_
  exact hret _ _ _ kF (News.sub kN fun p hp => .tail _ hp)
end
section
local macro_rules | `(tactic| walk_at "sh rs") => `(tactic| (k_here; with_reducible show wpAny _ _ (subscriptTail _ _ (Value.ref _) (Value.str _ _)) _ _ _))
local macro_rules | `(tactic| walk_at "subscriptTail") => `(tactic| (walk_at "sh rs"; k_dflt (refine' kda_item (knd := PySem.strKind _ _) (by k_asm) (by k_mem) (by with_reducible assumption) (by exact strKind_is _ _ _ _) (by with_reducible assumption) ?_ (by with_unfolding_all rfl) (by intro _; with_unfolding_all rfl); k_whole)))
local macro_rules | `(tactic| walk_at "subscriptTail Name Name ref str") => `(tactic| (walk_at "sh rs"; k_dflt (refine' kda_item (knd := PySem.strKind _ _) (by k_asm) (by k_mem) (by with_reducible assumption) (by exact strKind_is _ _ _ _) (by with_reducible assumption) ?_ (by with_unfolding_all rfl) (by intro _; with_unfolding_all rfl); k_whole)))
theorem lig_cps : ∀ k, k < 5 → (ligL.getD k ⟨#[]⟩).cps.toList = (ligLets k).map filtC ∧ (ligL.getD k ⟨#[]⟩).cps.all (· < 128) = true ∧ (ligL.getD k ⟨#[]⟩).cps.size ≤ 1000 := by decide +kernel
theorem lig_let : ∀ k, k < 5 → ∀ l ∈ ligLets k, l < 4 := by decide +kernel
theorem filt_or {l : Nat} (h : l < 4) : filtC l = 102 ∨ filtC l = 105 ∨ filtC l = 108 ∨ filtC l = 116 := by
  have : ∀ l, l < 4 → filtC l = 102 ∨ filtC l = 105 ∨ filtC l = 108 ∨ filtC l = 116 := by decide
  exact this l h
theorem lig_comp {w : World} {x : Int} {tx : Tok} {oC : Obj} {dc : Addr} {T0 TT : List (Addr × Obj)} (hoC : oC.data = .cell (some (.ref dc))) (hdc : CasesOk w T0 dc) (hT0 : ∀ p ∈ T0, p ∈ TT)
    {dp un : Nat} {gd : Option (List Code)} {cn : Str} {cs : Scope} {a : Addr} {ccd : Value} {cl : List (Str × Addr)} {outer : List Env} {base g' : Heap} {L L' : Addr} {s : Shared} {mean : ExcName → Option Value} {mg mb m' : Str → Option Value} {Q : Flow → Shared → Prop} {E : Value → Shared → Prop}
    (B' : Below (ktrTop dp un gd cn cs L a ccd cl outer) base (envX cn cs L a ccd cl :: outer) g') (F' : Fr g' L' s.heap m') (X' : (KK w.params).In g') (T' : Top qv looseL mean mg mb g')
    (N' : News g' L' s.heap ((L' + 1, oC) :: TT))
    (hm1 : m' (Str.ofString "x") = some (.int x tx))
    (hks : cs.kind = .function) (hdp : dp + 60 < recursionLimit) (hun : un + 400 < cLine)
    (hret : ∀ D ys h' tk, ys.length = (ligLets (ligOf x)).length → (∀ (i : Nat) (y : Value), ys[i]? = some y → TabIn T0 y (caseT (filtC ((ligLets (ligOf x)).getD i 0)))) → Fr g' L' h' (fun z => if z = Str.ofString "made" then some (.ref D) else m' z) → News g' L' h' ((D, lsT ys) :: (L' + 1, oC) :: TT) → (∀ p ∈ (L' + 1, oC) :: TT, @Ne Nat p.1 D) → s.toks ≤ tk → Q .next { s with heap := h', toks := tk }) :
    Stop (wpAny (model Challenge.rw_wf0091_01.prog w) ((ktrTop dp un gd cn cs L a ccd cl outer).deeper (drEnv L')) (exec ligStm (drEnv L')) Q E s) := by
  have e : ligStm = .Assign _ (.ListComp _ _ _ _) _ := rfl
  rw [e]
  have hf := fmod_bound (x.fdiv 4) (k := 5) (by decide)
  have hk : ligOf x < 5 := by unfold ligOf; omega
  obtain ⟨c1, c2, c3⟩ := lig_cps _ hk
  obtain ⟨H, gs, dr, tks, os⟩ := s
  dsimp only at F' N' hret
  refine Assign_ListComp_SV (h₀ := g') (L := L') (m := m') (tx := ligL.getD (ligOf x) ⟨#[]⟩) (cl := [(Str.ofString "cases", L' + 1)]) rfl (by with_unfolding_all rfl) (by with_unfolding_all rfl) (by decide) rfl (by decide) rfl rfl rfl rfl c2 c3 ((L' + 1, oC) :: TT) (fun i y => TabIn T0 y (caseT (filtC ((ligLets (ligOf x)).getD i 0)))) ?_ ?_ ?_ (by intro _; rfl)
  · intro i v C oC' TT' m₂ s₂ E' hi hC hp hsub F₂ N₂
    obtain ⟨c, u, hc, rfl⟩ := hi
    rw [← Array.getElem?_toList, c1, List.getElem?_map] at hc
    obtain ⟨l, hl, rfl⟩ := Option.map_eq_some_iff.mp hc
    have e1 : (ligLets (ligOf x)).getD i 0 = l := by rw [List.getD_eq_getElem?_getD, hl]; rfl
    simp only [e1]
    obtain ⟨od, kvs, v, hd1, hd2, hd3, hd4⟩ := case_in hdc (filt_or (lig_let _ hk l (List.mem_of_getElem? hl)))
    change m₂ (Str.ofString "letter") = some (Value.str ⟨#[filtC l]⟩ u) at hp
    generalize filtC l = c at hd3 hd4 hp
    have hT' : (L' + 1, oC) ∈ (C, oC') :: TT' := .tail _ (hsub _ (.head _))
    have hD' : (dc, od) ∈ (C, oC') :: TT' := .tail _ (hsub _ (.tail _ (hT0 _ hd1)))
    have N₃ : News g' L' s₂.heap ((L' + 1, oC) :: (C, oC') :: TT') := fun p hp => by
      rcases List.mem_cons.mp hp with rfl | hp
      · exact N₂ _ hT'
      · exact N₂ _ hp
    obtain ⟨H2, gs2, dr2, tk2, os2⟩ := s₂
    dsimp only at F₂ N₂
    refine wp_gen fun Q2 hq => ?_
    clear N₂ hret
    dsimp only at N₃
    replace hq : ∀ h' tk', Fr g' L' h' m' → News g' L' h' ((L' + 1, oC) :: (C, oC') :: TT') → Stop (Q2 v { heap := h', gens := gs2, drawn := dr2, toks := tk', os := os2 }) := fun h' tk' F N => hq _ _ ⟨hd4, _, _, rfl, F, fun p hp => N p (.tail _ hp)⟩
    have hD'' : (dc, od) ∈ (L' + 1, oC) :: (C, oC') :: TT' := .tail _ hD'
    revert F₂ N₃
    revert B' X' T'
    k_fill
    intro B' X' T' F₂ N₃
    wrow_steps
    rename News g' L' _ _ => kN
    rename Fr g' L' _ _ => kF
    exact (hq _ _ kF kN).out
  · with_reducible refine Stop.out ?_
    exact lig_iter B' F' X' T' N' hm1 hks hdp hun fun t h' tk F2 N2 => ⟨⟨t, rfl⟩, ⟨_, _, rfl⟩, F2, N2⟩
  · intro D ys h tk hyl hys F N hD htk
    refine hret D ys h tk ?_ hys F N hD htk
    rw [hyl, ← Array.length_toList, c1, List.length_map]
end
section
local macro_rules | `(tactic| walk_at "exec Assign cons ListComp") => `(tactic| (k_here; (with_reducible refine Stop.out ?_)))
theorem tabs_of {T : List (Addr × Obj)} {ys : List Value} {ls : List Nat} (hl : ys.length = ls.length) (h : ∀ (i : Nat) (y : Value), ys[i]? = some y → TabIn T y (caseT (filtC (ls.getD i 0)))) : TabsIn T ys (ls.map fun l => caseT (filtC l)) := by
  refine ⟨by rw [List.length_map]; exact hl, fun i v tb h1 h2 => ?_⟩
  rw [List.getElem?_map] at h2
  obtain ⟨l, hl', rfl⟩ := Option.map_eq_some_iff.mp h2
  have := h i v h1
  rwa [List.getD_eq_getElem?_getD, hl'] at this
theorem perm_c3 {α : Type} {a b c : α} {l : List α} : ∀ p ∈ c :: a :: b :: l, p ∈ a :: b :: c :: l := by
  intro p hp
  simp only [List.mem_cons] at hp ⊢
  rcases hp with h | h | h | h <;> simp [h]
theorem perm_c4 {α : Type} {a b c d : α} {l : List α} : ∀ p ∈ a :: b :: ([d] ++ c :: l), p ∈ d :: c :: a :: b :: l := by
  intro p hp
  simp only [List.mem_cons, List.mem_append, List.not_mem_nil, or_false] at hp ⊢
  rcases hp with h | h | h | h | h <;> simp [h]
theorem draw_lig {w : World} {pa : Addr} {us : List Value} {pn tk0 : Nat} {x : Int} {tx tt th ts : Tok} {oT oC : Obj} {dc : Addr} {TT : List (Addr × Obj)} {text sg hid : Str}
    (hx : 0 ≤ x ∧ x < 1000000) (hx4 : x.fmod 4 = 1) (hul : us.length ≤ 1000) (h26 : 2600 ≤ tk0) (hoC : oC.data = .cell (some (.ref dc))) (hdc : CasesOk w TT dc) (htz : text.length ≤ 10000) (hhz : hid.length ≤ 10)
    (htt : TkOk tk0 tt) (hth : TkOk tk0 th)
    (B' : Below (ktrTop dp un gd cn cs L a ccd cl outer) base (envX cn cs L a ccd cl :: outer) g') (F' : Fr g' L' s.heap m') (X' : (KK w.params).In g') (T' : Top qv looseL mean mg mb g')
    (N' : News g' L' s.heap ((pa, listOf us.toArray pn) :: (L' + 1 + 1, oT) :: (L' + 1, oC) :: TT)) (hcT : ∀ p ∈ TT, p.1 ≠ pa) (hcp : @Ne Nat pa (L' + 1 + 1)) (hcp1 : @Ne Nat pa (L' + 1))
    (hm1 : m' (Str.ofString "x") = some (.int x tx)) (hm2 : m' (Str.ofString "sign") = some (.str sg ts)) (hm3 : m' (Str.ofString "pile") = some (.ref pa)) (hm4 : m' (Str.ofString "hidden") = some (.str hid th)) (hm5 : m' (Str.ofString "text") = some (.str text tt))
    (hks : cs.kind = .function) (hdp : dp + 60 < recursionLimit) (hun : un + 400 < cLine) (htk : tk0 ≤ s.toks)
    (hret : DrawPost g' L' pa oT ((L' + 1, oC) :: TT) m' s.toks (text ++ (⟨#[(64256 + (x.fdiv 4).fmod 5).toNat]⟩ ++ hid)) us ((ligLets (ligOf x)).map fun l => caseT (filtC l)) s fun s' => Stop (wpAny (model Challenge.rw_wf0091_01.prog w) ((ktrTop dp un gd cn cs L a ccd cl outer).deeper (drEnv L')) (execs ((bodyAt (fnOfStm 78).2.1 8).drop 5) (drEnv L')) Qf E s')) :
    wpAny (model Challenge.rw_wf0091_01.prog w) ((ktrTop dp un gd cn cs L a ccd cl outer).deeper (drEnv L')) (execs ((bodyAt (fnOfStm 78).2.1 8).drop 4) (drEnv L')) Qf E s := by
  with_reducible refine' execs_split (xs := [_]) (ys := (bodyAt (fnOfStm 78).2.1 8).drop 5) ?q_e ?q_go
  case q_e => exact rfl
  obtain ⟨H, gs, dr, tks, os⟩ := s
  dsimp only at F' N' htk hret
  revert F' N' htk hret
  revert B' X' T'
  k_fill
  intro B' X' T' F' N' htk hret
  have htt1 := htt.mono htk
  have hth1 := hth.mono htk
  have hf := fmod_bound (x.fdiv 4) (k := 5) (by decide)
  have hcl : (⟨#[(64256 + (x.fdiv 4).fmod 5).toNat]⟩ : Str).length = 1 := rfl
  have hx4' : ¬ (1 : Int) < x.fmod 4 := by omega
  have hx4b : (x.fmod 4 == 1) = true := by rw [hx4]; rfl
  wrow_steps
  rename News g' L' _ _ => kN
  rename Fr g' L' _ _ => kF
  rename TkOk _ _ => htk7
  refine lig_comp (x := x) (tx := tx) (T0 := TT) (TT := (pa, listOf us.toArray pn) :: (L' + 1 + 1, oT) :: TT) hoC hdc (fun p hp => .tail _ (.tail _ hp)) B' kF X' T' (News.sub kN ?q_0) ?q_1 hks hdp hun ?q_r
  case q_0 => exact perm_c3
  case q_1 => with_unfolding_all exact hm1
  case q_r =>
    intro D ys h9 tk9 hyl hys F9 N9 hn9 htk9
    dsimp only at htk9
    clear kF kN
    wrow_steps
    rename News g' L' _ _ => kN
    rename Fr g' L' _ _ => kF
    refine' hret D ys ys.length pn _ [(D, lsT ys)] _ _ _ kF (News.sub kN ?p_1) (.head _) (by omega) ?p_2 (htk7.mono (by omega)) ?p_3 ?p_4 ?p_5 ?p_6
    case p_1 => exact perm_c4
    case p_2 => exact (tabs_of hyl hys).mono fun p hp => .tail _ (.tail _ hp)
    case p_3 => with_unfolding_all rfl
    case p_4 => with_unfolding_all rfl
    case p_5 =>
      intro y y1 y2 y3 y4
      simp [y1, y2]
    case p_6 =>
      intro p hp
      rw [List.mem_singleton.mp hp]
      refine ⟨hn9 _ (.tail _ (.head _)), hn9 _ (.tail _ (.tail _ (.head _))), fun q hq => ?_⟩
      rcases List.mem_cons.mp hq with rfl | hq
      · exact hn9 _ (.head _)
      · exact hn9 _ (.tail _ (.tail _ (.tail _ hq)))
end
section
local macro_rules | `(tactic| walk_at "sh rs") => `(tactic| (k_here; with_reducible show wpAny _ _ (subscriptTail _ _ (Value.ref _) (Value.str _ _)) _ _ _))
local macro_rules | `(tactic| walk_at "subscriptTail Name Subscript ref str") => `(tactic| (walk_at "sh rs"; k_dflt (refine' kda_item (knd := PySem.strKind _ _) (by k_asm) (by k_mem) (by with_reducible assumption) (by exact strKind_is _ _ _ _) (by with_reducible assumption) ?_ (by with_unfolding_all rfl) (by intro _; with_unfolding_all rfl); k_whole)))
local macro_rules | `(tactic| walk_at "newList") => `(tactic| (k_here; k_dflt (refine' newList_K (hsz := one_size _) (by k_asm) (by k_asm) ?_; k_whole); intro l' h' F' N' l1; (try k_lt l1)))
local macro_rules | `(tactic| walk_at "subscriptTail") => `(tactic| (walk_at "sh rs"; k_dflt (refine' kda_item (knd := PySem.strKind _ _) (by k_asm) (by k_mem) (by with_reducible assumption) (by exact strKind_is _ _ _ _) (by with_reducible assumption) ?_ (by with_unfolding_all rfl) (by intro _; with_unfolding_all rfl); k_whole)))
theorem filt_item {k : Int} (h : 0 ≤ k ∧ k < 4) : Txt.item (Str.ofString "filt") k = ⟨#[filtC k.toNat]⟩ := by
  have : k = 0 ∨ k = 1 ∨ k = 2 ∨ k = 3 := by omega
  rcases this with rfl | rfl | rfl | rfl <;> decide +kernel
theorem filt_sub {prog : Program} {w : World} {A : Around} {E : Value → Shared → Prop} {s : Shared} {value slice : PySem.Expr} {t u : Tok} {k : Int} {c : Nat} {Q : Value → Shared → Prop} (ei : Txt.item (Str.ofString "filt") k = ⟨#[c]⟩) (hk : 0 ≤ k ∧ k < 4) (h : Q (.str ⟨#[c]⟩ s.toks) { s with toks := s.toks + 1 })
    (hs : subscripted slice false (.str (Str.ofString "filt") t) (.int k u) = operate [.str (Str.ofString "filt") t, .int k u] (getItem (.str (Str.ofString "filt") t) (.int k u)) := by with_unfolding_all rfl)
    (ht : ∀ r, letTemporaryGo value (.str (Str.ofString "filt") t) r = pure () := by intro _; with_unfolding_all rfl) :
    wpAny (model prog w) A (subscriptTail value slice (.str (Str.ofString "filt") t) (.int k u)) Q E s := by
  have hl : (Str.ofString "filt").length = 4 := by decide +kernel
  refine KXi.item hl (by omega) (by omega) (by decide) ?_ hs ht
  intro _
  rw [ei]; exact h
local macro_rules | `(tactic| walk_at "subscriptTail") => `(tactic| (k_here; (with_reducible show wpAny _ _ (subscriptTail _ _ (Value.str _ _) (Value.int _ _)) _ _ _); with_reducible refine' filt_sub (by with_reducible assumption) (by with_reducible assumption) ?_ (by with_unfolding_all rfl) (by intro _; with_unfolding_all rfl)))
theorem spell_len {c : Nat} {n : Int} : (spellS c n).length ≤ 1 := by
  unfold spellS
  split
  · exact Nat.le_refl _
  split
  · exact Nat.le_refl _
  · exact Nat.le_refl _
noncomputable def letStm : Stmt := (elseOf (elseOf (elseOf (bodyAt (fnOfStm 78).2.1 8) 4) 0) 0).getD 1 (.Pass default)
theorem let_made {w : World} {x : Int} {tx : Tok} {oC : Obj} {dc : Addr} {T0 TT : List (Addr × Obj)} (hx : 0 ≤ x ∧ x < 1000000) (hoC : oC.data = .cell (some (.ref dc))) (hdc : CasesOk w T0 dc) (hT0 : ∀ p ∈ T0, p ∈ TT)
    {dp un : Nat} {gd : Option (List Code)} {cn : Str} {cs : Scope} {a : Addr} {ccd : Value} {cl : List (Str × Addr)} {outer : List Env} {base g' : Heap} {L L' : Addr} {s : Shared} {mean : ExcName → Option Value} {mg mb m' : Str → Option Value} {Q : Flow → Shared → Prop} {E : Value → Shared → Prop}
    (B' : Below (ktrTop dp un gd cn cs L a ccd cl outer) base (envX cn cs L a ccd cl :: outer) g') (F' : Fr g' L' s.heap m') (X' : (KK w.params).In g') (T' : Top qv looseL mean mg mb g')
    (N' : News g' L' s.heap ((L' + 1, oC) :: TT))
    (hm1 : m' (Str.ofString "x") = some (.int x tx))
    (hks : cs.kind = .function) (hdp : dp + 60 < recursionLimit) (hun : un + 400 < cLine)
    (hret : ∀ D v h' tk, TabIn T0 v (caseT (filtC (letOf x))) → Fr g' L' h' (fun z => if z = Str.ofString "made" then some (.ref D) else m' z) → News g' L' h' ((D, listOf #[v] 0) :: (L' + 1, oC) :: TT) → (∀ p ∈ (L' + 1, oC) :: TT, @Ne Nat p.1 D) → s.toks ≤ tk → Q .next { s with heap := h', toks := tk }) :
    wpAny (model Challenge.rw_wf0091_01.prog w) ((ktrTop dp un gd cn cs L a ccd cl outer).deeper (drEnv L')) (exec letStm (drEnv L')) Q E s := by
  have e : letStm = .Assign _ (.List _ _) _ := rfl
  rw [e]
  have hf := fmod_bound (x.fdiv 4) (k := 4) (by decide)
  have hlo : letOf x < 4 := by unfold letOf; omega
  have ei : Txt.item (Str.ofString "filt") ((x.fdiv 4).fmod 4) = ⟨#[filtC (letOf x)]⟩ := filt_item hf
  obtain ⟨od, kvs, v, hd1, hd2, hd3, hd4⟩ := case_in hdc (filt_or hlo)
  generalize filtC (letOf x) = c at ei hd3 hd4 hret
  have hD : (dc, od) ∈ (L' + 1, oC) :: TT := .tail _ (hT0 _ hd1)
  obtain ⟨H, gs, dr, tks, os⟩ := s
  dsimp only at F' N' hret
  revert F' N' hret
  revert B' X' T'
  k_fill
  intro B' X' T' F' N' hret
  wrow_steps
  rename News g' L' _ _ => kN
  rename Fr g' L' _ _ => kF
  rename (L' : Nat) + 1 < _ ∧ AllLt _ TT => hlt
  refine hret _ _ _ _ hd4 kF kN ?_ ?_
  · intro p hp
    rcases List.mem_cons.mp hp with rfl | hp
    · exact Nat.ne_of_lt hlt.1
    · exact Nat.ne_of_lt (allLt_mem hlt.2 p hp)
  · dsimp only; omega
end
section
local macro_rules | `(tactic| walk_at "sh rs") => `(tactic| (k_here; with_reducible show wpAny _ _ (subscriptTail _ _ (Value.ref _) (Value.str _ _)) _ _ _))
local macro_rules | `(tactic| walk_at "subscriptTail Name Subscript ref str") => `(tactic| (walk_at "sh rs"; k_dflt (refine' kda_item (knd := PySem.strKind _ _) (by k_asm) (by k_mem) (by with_reducible assumption) (by exact strKind_is _ _ _ _) (by with_reducible assumption) ?_ (by with_unfolding_all rfl) (by intro _; with_unfolding_all rfl); k_whole)))
local macro_rules | `(tactic| walk_at "newList") => `(tactic| (k_here; k_dflt (refine' newList_K (hsz := one_size _) (by k_asm) (by k_asm) ?_; k_whole); intro l' h' F' N' l1; (try k_lt l1)))
local macro_rules | `(tactic| walk_at "subscriptTail") => `(tactic| (walk_at "sh rs"; k_dflt (refine' kda_item (knd := PySem.strKind _ _) (by k_asm) (by k_mem) (by with_reducible assumption) (by exact strKind_is _ _ _ _) (by with_reducible assumption) ?_ (by with_unfolding_all rfl) (by intro _; with_unfolding_all rfl); k_whole)))
local macro_rules | `(tactic| walk_at "subscriptTail") => `(tactic| (k_here; (with_reducible show wpAny _ _ (subscriptTail _ _ (Value.str _ _) (Value.int _ _)) _ _ _); with_reducible refine' filt_sub (by with_reducible assumption) (by with_reducible assumption) ?_ (by with_unfolding_all rfl) (by intro _; with_unfolding_all rfl)))
noncomputable def letAug : Stmt := (elseOf (elseOf (elseOf (bodyAt (fnOfStm 78).2.1 8) 4) 0) 0).getD 0 (.Pass default)
theorem let_text {w : World} {x : Int} {tx tt th : Tok} {text hid : Str} {tk0 : Nat} {TT : List (Addr × Obj)} (hx : 0 ≤ x ∧ x < 1000000) (h26 : 2600 ≤ tk0) (htz : text.length ≤ 10000) (hhz : hid.length ≤ 10) (htt : TkOk tk0 tt) (hth : TkOk tk0 th)
    {dp un : Nat} {gd : Option (List Code)} {cn : Str} {cs : Scope} {a : Addr} {ccd : Value} {cl : List (Str × Addr)} {outer : List Env} {base g' : Heap} {L L' : Addr} {s : Shared} {mean : ExcName → Option Value} {mg mb m' : Str → Option Value} {Q : Flow → Shared → Prop} {E : Value → Shared → Prop}
    (B' : Below (ktrTop dp un gd cn cs L a ccd cl outer) base (envX cn cs L a ccd cl :: outer) g') (F' : Fr g' L' s.heap m') (X' : (KK w.params).In g') (T' : Top qv looseL mean mg mb g')
    (N' : News g' L' s.heap TT)
    (hm1 : m' (Str.ofString "x") = some (.int x tx)) (hm4 : m' (Str.ofString "hidden") = some (.str hid th)) (hm5 : m' (Str.ofString "text") = some (.str text tt))
    (hks : cs.kind = .function) (hdp : dp + 60 < recursionLimit) (hun : un + 400 < cLine) (htk : tk0 ≤ s.toks)
    (hret : ∀ tt' h' tk, Fr g' L' h' (fun z => if z = Str.ofString "text" then some (.str (text ++ (spellS (filtC (letOf x)) (x.fdiv 16) ++ hid)) tt') else m' z) → News g' L' h' TT → s.toks ≤ tk → TkOk tk tt' → Q .next { s with heap := h', toks := tk }) :
    wpAny (model Challenge.rw_wf0091_01.prog w) ((ktrTop dp un gd cn cs L a ccd cl outer).deeper (drEnv L')) (exec letAug (drEnv L')) Q E s := by
  have e : letAug = .AugAssign _ _ _ _ := rfl
  rw [e]
  have hf := fmod_bound (x.fdiv 4) (k := 4) (by decide)
  have hlo : letOf x < 4 := by unfold letOf; omega
  have ei : Txt.item (Str.ofString "filt") ((x.fdiv 4).fmod 4) = ⟨#[filtC (letOf x)]⟩ := filt_item hf
  have hfc := filt_or hlo
  generalize filtC (letOf x) = c at ei hfc hret
  have hd : 0 ≤ x.fdiv 16 ∧ x.fdiv 16 ≤ 100000 := by
    have e : x.fdiv 16 = x / 16 := Int.fdiv_eq_ediv_of_nonneg x (by decide)
    rw [e]; omega
  have hsl : (spellS c (x.fdiv 16)).length ≤ 1 := spell_len
  obtain ⟨H, gs, dr, tks, os⟩ := s
  dsimp only at F' N' htk hret
  have htt1 := htt.mono htk
  have hth1 := hth.mono htk
  revert F' N' htk hret
  revert B' X' T'
  k_fill
  intro B' X' T' F' N' htk hret
  wrow_steps
  rename News g' L' _ _ => kN
  with_unfolding_all refine' con_use (tk0 := _) (un0 := 200) (dn := 10) ?q_B ?q_F ?q_X ?q_T ?q_k (spelled_con (c := c) hd.1 hd.2 (by omega) (by omega) (TkOk.above (n := tks) (by omega) (by omega))) ?q_N ?q_hd ?q_hu ?q_tk ?_
  case q_B | q_F | q_X | q_T => k_asm
  case q_k => rfl
  case q_N => exact kN
  case q_hd => ktr_room
  case q_hu => (first | ktr_units | ((show un + 3 + _ < cLine); omega))
  case q_tk => (try dsimp only); omega
  intro v9 news9 h9 tk9 F9 N9 hl9 hp9
  (try dsimp only at hl9)
  obtain ⟨⟨tl, rfl⟩, t3, rfl, ht3⟩ := hp9
  replace N9 := News.sub (l' := TT) N9 fun p hp => List.mem_append_right _ hp
  clear kN
  wrow_steps
  rename News g' L' _ _ => kN
  rename Fr g' L' _ _ => kF
  rename TkOk _ _ => htk7
  exact hret _ _ _ kF kN (by dsimp only; omega) (htk7.mono (by dsimp only; omega))
end
section
local macro_rules | `(tactic| walk_at "exec AugAssign") => `(tactic| (k_here; (with_reducible refine Stop.out ?_)))
local macro_rules | `(tactic| walk_at "exec Assign cons List") => `(tactic| (k_here; (with_reducible refine Stop.out ?_)))
theorem tabs_one {T : List (Addr × Obj)} {v : Value} {tb : List Int} (h : TabIn T v tb) : TabsIn T [v] [tb] := by
  refine ⟨rfl, fun i v' tb' h1 h2 => ?_⟩
  match i, h1, h2 with
  | 0, h1, h2 => cases h1; cases h2; exact h
  | i + 1, h1, h2 => exact nomatch h1
theorem let_fin {w : World} {pa : Addr} {us : List Value} {pn tks tk2 : Nat} {x : Int} {tx tt' : Tok} {oT oC : Obj} {dc : Addr} {TT : List (Addr × Obj)} {text : Str} {H h2 : Heap} {gs : Array GenState} {dr : Drawn} {os : OsState}
    (hx : 0 ≤ x ∧ x < 1000000) (hoC : oC.data = .cell (some (.ref dc))) (hdc : CasesOk w TT dc)
    {dp un : Nat} {gd : Option (List Code)} {cn : Str} {cs : Scope} {a : Addr} {ccd : Value} {cl : List (Str × Addr)} {outer : List Env} {base g' : Heap} {L L' : Addr} {mean : ExcName → Option Value} {mg mb m' : Str → Option Value} {Q : Flow → Shared → Prop} {P : Shared → Prop} {E : Value → Shared → Prop}
    (B' : Below (ktrTop dp un gd cn cs L a ccd cl outer) base (envX cn cs L a ccd cl :: outer) g') (F' : Fr g' L' h2 (fun z => if z = Str.ofString "text" then some (.str text tt') else m' z)) (X' : (KK w.params).In g') (T' : Top qv looseL mean mg mb g')
    (N' : News g' L' h2 ((pa, listOf us.toArray pn) :: (L' + 1 + 1, oT) :: (L' + 1, oC) :: TT)) (hm1 : m' (Str.ofString "x") = some (.int x tx))
    (hks : cs.kind = .function) (hdp : dp + 60 < recursionLimit) (hun : un + 400 < cLine) (htt : TkOk tk2 tt') (htk : tks ≤ tk2)
    (hcT : ∀ p ∈ TT, p.1 ≠ pa) (hcp : @Ne Nat pa (L' + 1 + 1)) (hcp1 : @Ne Nat pa (L' + 1))
    (hret : DrawPost g' L' pa oT ((L' + 1, oC) :: TT) m' tks text us [caseT (filtC (letOf x))] ⟨H, gs, dr, tks, os⟩ P) (hP : ∀ s', P s' → Q .next s') :
    wpAny (model Challenge.rw_wf0091_01.prog w) ((ktrTop dp un gd cn cs L a ccd cl outer).deeper (drEnv L')) (execs ((elseOf (elseOf (elseOf (bodyAt (fnOfStm 78).2.1 8) 4) 0) 0).drop 1) (drEnv L')) Q E ⟨h2, gs, dr, tk2, os⟩ := by
  refine wpAny_execs_cons (wpAny_with_toks (Nat.le_refl _) (let_made (x := x) (tx := tx) (T0 := TT) (TT := (pa, listOf us.toArray pn) :: (L' + 1 + 1, oT) :: TT) hx hoC hdc (fun p hp => .tail _ (.tail _ hp)) B' F' X' T' (News.sub N' perm_c3) ?q_1 hks hdp hun ?q_r))
  case q_1 => with_unfolding_all exact hm1
  case q_r =>
    intro D v h9 tk9 hv F9 N9 hn9 htk9
    dsimp only at htk9
    intro _
    refine wpAny_execs_nil (hP _ ?_)
    refine' hret D [v] 0 pn tt' [(D, listOf #[v] 0)] h9 tk9 _ F9 (News.sub N9 ?p_1) (.head _) (by omega) ?p_2 (htt.mono htk9) ?p_3 ?p_4 ?p_5 ?p_6
    case p_1 => exact perm_c4
    case p_2 => exact (tabs_one hv).mono fun p hp => .tail _ (.tail _ hp)
    case p_3 => with_unfolding_all rfl
    case p_4 => with_unfolding_all rfl
    case p_5 =>
      intro y y1 y2 y3 y4
      simp [y1, y2]
    case p_6 =>
      intro p hp
      rw [List.mem_singleton.mp hp]
      refine ⟨hn9 _ (.tail _ (.head _)), hn9 _ (.tail _ (.tail _ (.head _))), fun q hq => ?_⟩
      rcases List.mem_cons.mp hq with rfl | hq
      · exact hn9 _ (.head _)
      · exact hn9 _ (.tail _ (.tail _ (.tail _ hq)))
theorem draw_let {w : World} {pa : Addr} {us : List Value} {pn tk0 : Nat} {x : Int} {tx tt th ts : Tok} {oT oC : Obj} {dc : Addr} {TT : List (Addr × Obj)} {text sg hid : Str}
    (hx : 0 ≤ x ∧ x < 1000000) (hx4 : x.fmod 4 = 0 ∨ (1 < x.fmod 4 ∧ sg ≠ Str.ofString "~" ∧ us.length ≤ 1) ∨ (1 < x.fmod 4 ∧ sg = Str.ofString "~" ∧ us.length = 0)) (hul : us.length ≤ 1000) (h26 : 2600 ≤ tk0) (hoC : oC.data = .cell (some (.ref dc))) (hdc : CasesOk w TT dc) (htz : text.length ≤ 10000) (hhz : hid.length ≤ 10)
    (htt : TkOk tk0 tt) (hth : TkOk tk0 th)
    (B' : Below (ktrTop dp un gd cn cs L a ccd cl outer) base (envX cn cs L a ccd cl :: outer) g') (F' : Fr g' L' s.heap m') (X' : (KK w.params).In g') (T' : Top qv looseL mean mg mb g')
    (N' : News g' L' s.heap ((pa, listOf us.toArray pn) :: (L' + 1 + 1, oT) :: (L' + 1, oC) :: TT)) (hcT : ∀ p ∈ TT, p.1 ≠ pa) (hcp : @Ne Nat pa (L' + 1 + 1)) (hcp1 : @Ne Nat pa (L' + 1))
    (hm1 : m' (Str.ofString "x") = some (.int x tx)) (hm2 : m' (Str.ofString "sign") = some (.str sg ts)) (hm3 : m' (Str.ofString "pile") = some (.ref pa)) (hm4 : m' (Str.ofString "hidden") = some (.str hid th)) (hm5 : m' (Str.ofString "text") = some (.str text tt))
    (hks : cs.kind = .function) (hdp : dp + 60 < recursionLimit) (hun : un + 400 < cLine) (htk : tk0 ≤ s.toks)
    (hret : DrawPost g' L' pa oT ((L' + 1, oC) :: TT) m' s.toks (text ++ (spellS (filtC (letOf x)) (x.fdiv 16) ++ hid)) us [caseT (filtC (letOf x))] s fun s' => Stop (wpAny (model Challenge.rw_wf0091_01.prog w) ((ktrTop dp un gd cn cs L a ccd cl outer).deeper (drEnv L')) (execs ((bodyAt (fnOfStm 78).2.1 8).drop 5) (drEnv L')) Qf E s')) :
    wpAny (model Challenge.rw_wf0091_01.prog w) ((ktrTop dp un gd cn cs L a ccd cl outer).deeper (drEnv L')) (execs ((bodyAt (fnOfStm 78).2.1 8).drop 4) (drEnv L')) Qf E s := by
  with_reducible refine' execs_split (xs := [_]) (ys := (bodyAt (fnOfStm 78).2.1 8).drop 5) ?q_e ?q_go
  case q_e => exact rfl
  obtain ⟨H, gs, dr, tks, os⟩ := s
  dsimp only at F' N' htk hret
  revert F' N' htk hret
  revert B' X' T'
  k_fill
  intro B' X' T' F' N' htk hret
  have htt1 := htt.mono htk
  have hth1 := hth.mono htk
  have hf := fmod_bound (x.fdiv 4) (k := 4) (by decide)
  have hx4b : (x.fmod 4 == 1) = false := by
    rw [beq_eq_false_iff_ne]
    rcases hx4 with h | h | h <;> omega
  rcases hx4 with hx4 | ⟨hx4, hsg, hu1⟩ | ⟨hx4, hsg, hu1⟩
  case inl =>
    wrow_steps
    refine ⟨?_⟩
    refine let_text (x := x) (tx := tx) (tk0 := tks) (text := text) (hid := hid) (tt := tt) (th := th) hx (by omega) htz hhz htt1 hth1 B' F' X' T' N' hm1 hm4 hm5 hks hdp hun (by dsimp only; omega) ?_
    intro tt' h2 tk2 F2 N2 hk2 htt2
    dsimp only at hk2
    exact let_fin hx hoC hdc B' F2 X' T' N2 hm1 hks hdp hun htt2 (by omega) hcT hcp hcp1 hret (fun s' h => by repeat' first | exact h | (refine wpAny_execs_nil ?_))
  case inr.inl =>
    have hsg1 : (sg != Str.ofString "~") = true := bne_iff_ne.mpr hsg
    have hsg2 : (sg == Str.ofString "~") = false := beq_eq_false_iff_ne.mpr hsg
    wrow_steps
    refine ⟨?_⟩
    refine let_text (x := x) (tx := tx) (tk0 := tks) (text := text) (hid := hid) (tt := tt) (th := th) hx (by omega) htz hhz htt1 hth1 B' F' X' T' N' hm1 hm4 hm5 hks hdp hun (by dsimp only; omega) ?_
    intro tt' h2 tk2 F2 N2 hk2 htt2
    dsimp only at hk2
    exact let_fin hx hoC hdc B' F2 X' T' N2 hm1 hks hdp hun htt2 (by omega) hcT hcp hcp1 hret (fun s' h => by repeat' first | exact h | (refine wpAny_execs_nil ?_))
  case inr.inr =>
    have hsg1 : (sg != Str.ofString "~") = false := by rw [hsg]; decide +kernel
    have hsg2 : (sg == Str.ofString "~") = true := by rw [hsg]; decide +kernel
    wrow_steps
    refine ⟨?_⟩
    refine let_text (x := x) (tx := tx) (tk0 := tks) (text := text) (hid := hid) (tt := tt) (th := th) hx (by omega) htz hhz htt1 hth1 B' F' X' T' N' hm1 hm4 hm5 hks hdp hun (by dsimp only; omega) ?_
    intro tt' h2 tk2 F2 N2 hk2 htt2
    dsimp only at hk2
    exact let_fin hx hoC hdc B' F2 X' T' N2 hm1 hks hdp hun htt2 (by omega) hcT hcp hcp1 hret (fun s' h => by repeat' first | exact h | (refine wpAny_execs_nil ?_))
end
section
theorem not_long {n : Nat} (h : n ≤ 100000) : Builtin.List.listTooLong n = false := by
  unfold Builtin.List.listTooLong
  rw [decide_eq_false_iff_not, sizeLine_eq]
  omega
theorem ext_L {prog : Program} {w : World} {A : Around} {E : Value → Shared → Prop} {s : Shared} {h₀ : Heap} {L D b : Addr} {m : Str → Option Value} {news news' : List (Addr × Obj)} {us mvs : List Value} {n n2 : Nat} {Q : Value → Shared → Prop} (F : Fr h₀ L s.heap m) (N : News h₀ L s.heap news) (hb : (b, listOf mvs.toArray n2) ∈ news)
    (U : Upd D (listOf us.toArray n) (listOf (us ++ mvs).toArray (n + 1)) news news') (hne : 1 ≤ mvs.length) (hz : us.length + mvs.length ≤ 100000)
    (h : ∀ h', Fr h₀ L h' m → News h₀ L h' news' → Q .none { s with heap := h' }) : wpAny (model prog w) A (call (.builtin "list.extend") [.ref D, .ref b]) Q E s := by
  refine kl_extend F N hb (l := us ++ mvs) (by simp) (by simp; intro e; rw [e] at hne; simp at hne) U ?_ (by simp [sizeLine_eq]; omega) (by simp [sizeLine_eq]; omega) h
  rw [not_long (by simpa using hz), Bool.and_false]
  exact Bool.false_ne_true
local macro_rules | `(tactic| walk_at "call builtin:list.extend") => `(tactic| (k_here; k_dflt (refine' ext_L (by k_asm) (by k_asm) (by k_mem) (by k_upd) (by omega) (by omega) ?_); intro h' F' N'; (try dsimp only at N')))
theorem draw_ext {w : World} {pa ta ma : Addr} {us ts mvs : List Value} {pn tn mn : Nat} {TT : List (Addr × Obj)} (hu : us.length ≤ 1000) (ht : ts.length ≤ 1000) (hm : mvs.length ≤ 10) (hm0 : 1 ≤ mvs.length)
    (h1 : @Ne Nat pa ta) (h2 : @Ne Nat pa ma) (h3 : @Ne Nat ta ma) (hTp : ∀ p ∈ TT, p.1 ≠ pa) (hTt : ∀ p ∈ TT, p.1 ≠ ta)
    (B' : Below (ktrTop dp un gd cn cs L a ccd cl outer) base (envX cn cs L a ccd cl :: outer) g') (F' : Fr g' L' s.heap m') (X' : (KK w.params).In g') (T' : Top qv looseL mean mg mb g')
    (N' : News g' L' s.heap ((pa, listOf us.toArray pn) :: (ta, listOf ts.toArray tn) :: (ma, listOf mvs.toArray mn) :: TT))
    (hm1 : m' (Str.ofString "pile") = some (.ref pa)) (hm2 : m' (Str.ofString "tables") = some (.ref ta)) (hm3 : m' (Str.ofString "made") = some (.ref ma))
    (hks : cs.kind = .function) (hdp : dp + 60 < recursionLimit) (hun : un + 400 < cLine)
    (hret : ∀ pn' tn' h' tk', Fr g' L' h' m' → News g' L' h' ((pa, listOf (us ++ mvs).toArray pn') :: (ta, listOf (ts ++ mvs).toArray tn') :: (ma, listOf mvs.toArray mn) :: TT) → s.toks ≤ tk' → Qf .next { s with heap := h', toks := tk' }) :
    wpAny (model Challenge.rw_wf0091_01.prog w) ((ktrTop dp un gd cn cs L a ccd cl outer).deeper (drEnv L')) (execs ((bodyAt (fnOfStm 78).2.1 8).drop 5) (drEnv L')) Qf E s := by
  with_reducible refine' execs_split (xs := [_, _]) (ys := []) ?q_e ?q_go
  case q_e => exact rfl
  obtain ⟨H, gs, dr, tks, os⟩ := s
  dsimp only at F' N' hret
  revert F' N' hret
  revert B' X' T'
  k_fill
  intro B' X' T' F' N' hret
  wrow_steps
  rename News g' L' _ _ => kN
  rename Fr g' L' _ _ => kF
  refine ⟨wpAny_execs_nil ?_⟩
  exact hret _ _ _ _ kF kN (by omega)
end
section
noncomputable def whileTest (ss : List Stmt) (k : Nat) : PySem.Expr := (stAt ss k).1
theorem draw_test {w : World} {pa : Addr} {us : List Value} {pn turn : Nat} {tt : Tok} {TT : List (Addr × Obj)} (hu : us.length ≤ 1000) (ht : turn ≤ 12) (hpa : (pa, listOf us.toArray pn) ∈ TT)
    {dp un : Nat} {gd : Option (List Code)} {cn : Str} {cs : Scope} {a : Addr} {ccd : Value} {cl : List (Str × Addr)} {outer : List Env} {base g' : Heap} {L L' : Addr} {s : Shared} {mean : ExcName → Option Value} {mg mb m' : Str → Option Value} {Q : Bool → Shared → Prop} {E : Value → Shared → Prop}
    (B' : Below (ktrTop dp un gd cn cs L a ccd cl outer) base (envX cn cs L a ccd cl :: outer) g') (F' : Fr g' L' s.heap m') (X' : (KK w.params).In g') (T' : Top qv looseL mean mg mb g')
    (N' : News g' L' s.heap TT)
    (hm1 : m' (Str.ofString "pile") = some (.ref pa)) (hm2 : m' (Str.ofString "turn") = some (.int turn tt))
    (hks : cs.kind = .function) (hdp : dp + 60 < recursionLimit) (hun : un + 400 < cLine)
    (hret : ∀ h' tk', Fr g' L' h' m' → News g' L' h' TT → s.toks ≤ tk' → Q (decide (turn < 6 ∨ turn < 12 ∧ 1 < us.length)) { s with heap := h', toks := tk' }) :
    wpAny (model Challenge.rw_wf0091_01.prog w) ((ktrTop dp un gd cn cs L a ccd cl outer).deeper (drEnv L')) (isTrue (whileTest (fnOfStm 78).2.1 8) (drEnv L') (eval (whileTest (fnOfStm 78).2.1 8) (drEnv L'))) Q E s := by
  have e : whileTest (fnOfStm 78).2.1 8 = .BoolOp _ _ _ := rfl
  rw [e]
  obtain ⟨H, gs, dr, tks, os⟩ := s
  dsimp only at F' N' hret
  revert F' N' hret
  revert B' X' T'
  k_fill
  intro B' X' T' F' N' hret
  by_cases h6 : turn < 6
  · rw [decide_eq_true (.inl h6)] at hret
    wrow_steps
    exact hret _ _ F' N' (by dsimp only; omega)
  by_cases h12 : turn < 12 ∧ 1 < us.length
  · rw [decide_eq_true (.inr h12)] at hret
    obtain ⟨h12, hl⟩ := h12
    wrow_steps
    exact hret _ _ F' N' (by dsimp only; omega)
  · rw [decide_eq_false (fun h => h.elim h6 h12)] at hret
    by_cases h12' : turn < 12
    · have hl : ¬ 1 < us.length := fun h => h12 ⟨h12', h⟩
      wrow_steps
      exact hret _ _ F' N' (by dsimp only; omega)
    · wrow_steps
      exact hret _ _ F' N' (by dsimp only; omega)
end
section
theorem perm_e1 {α : Type} {a b c d e : α} {tl T : List α} (h : d ∈ tl) : ∀ p ∈ a :: b :: d :: e :: c :: (tl ++ T), p ∈ a :: e :: (tl ++ c :: b :: T) := by
  intro p hp
  simp only [List.mem_cons, List.mem_append] at hp ⊢
  rcases hp with h1 | h1 | h1 | h1 | h1 | h1 | h1
  · simp [h1]
  · simp [h1]
  · exact .inr (.inr (.inl (h1 ▸ h)))
  · simp [h1]
  · simp [h1]
  · simp [h1]
  · simp [h1]
noncomputable def TurnPost (g' : Heap) (L' nl rl pa ta : Addr) (oC : Obj) (TT : List (Addr × Obj)) (turn : Nat) (d' : DS) (s : Shared) (P : Flow → Shared → Prop) : Prop :=
  ∀ (us' ts' : List Value) (pn' tn' : Nat) (oT' : Obj) (vT' : Option Value) (tl : List (Addr × Obj)) (t1 t2 : Tok) (h' : Heap) (tk' : Nat) (m'' : Str → Option Value), Fr g' L' h' m'' → News g' L' h' ((pa, listOf us'.toArray pn') :: (ta, listOf ts'.toArray tn') :: (L' + 1 + 1, oT') :: (L' + 1, oC) :: (tl ++ TT)) → s.toks ≤ tk' → oT'.data = .cell vT' →
    TabsIn (tl ++ TT) us' d'.pile → TabsIn (tl ++ TT) ts' d'.tables → TkOk tk' t2 → m'' (Str.ofString "numbers") = some (.ref nl) → m'' (Str.ofString "rules") = some (.ref rl) → m'' (Str.ofString "pile") = some (.ref pa) → m'' (Str.ofString "tables") = some (.ref ta) → m'' (Str.ofString "text") = some (.str d'.text t2) → m'' (Str.ofString "turn") = some (.int ((turn + 1 : Nat) : Int) t1) →
    (∀ p ∈ tl, @Ne Nat p.1 pa ∧ @Ne Nat p.1 ta ∧ @Ne Nat p.1 (L' + 1 + 1) ∧ @Ne Nat p.1 (L' + 1)) → P .next { s with heap := h', toks := tk' }
theorem turn_end {w : World} {L' nl rl pa ta : Addr} {us0 ts : List Value} {tn tks tk2 turn : Nat} {t1 : Tok} {oT oC : Obj} {vT : Option Value} {dc : Addr} {TT : List (Addr × Obj)} {text : Str} {pile0 tabs tables : List (List Int)} {H h2 : Heap} {gs : Array GenState} {dr : PySem.Drawn} {os : OsState}
    (hoT : oT.data = .cell vT) (hoC : oC.data = .cell (some (.ref dc))) (hP : TabsIn TT us0 pile0) (hS : TabsIn TT ts tables) (htl : 1 ≤ tabs.length ∧ tabs.length ≤ 3) (ht16 : ∀ t ∈ tabs, t.length = 16) (hul : us0.length ≤ 1000) (htsl : ts.length ≤ 1000)
    (hpt : @Ne Nat pa ta) (hpT : @Ne Nat pa (L' + 1 + 1)) (hpC : @Ne Nat pa (L' + 1)) (htT : @Ne Nat ta (L' + 1 + 1)) (htC : @Ne Nat ta (L' + 1)) (hoff : ∀ p ∈ TT, @Ne Nat p.1 pa ∧ @Ne Nat p.1 ta ∧ @Ne Nat p.1 (L' + 1 + 1) ∧ @Ne Nat p.1 (L' + 1))
    {dp un : Nat} {gd : Option (List Code)} {cn : Str} {cs : Scope} {a : Addr} {ccd : Value} {cl : List (Str × Addr)} {outer : List Env} {base g' : Heap} {L : Addr} {mean : ExcName → Option Value} {mg mb m' : Str → Option Value} {Q : Flow → Shared → Prop} {E : Value → Shared → Prop}
    (B' : Below (ktrTop dp un gd cn cs L a ccd cl outer) base (envX cn cs L a ccd cl :: outer) g') (X' : (KK w.params).In g') (T' : Top qv looseL mean mg mb g')
    (hm1 : m' (Str.ofString "numbers") = some (.ref nl)) (hm2 : m' (Str.ofString "rules") = some (.ref rl)) (hm3 : m' (Str.ofString "pile") = some (.ref pa)) (hm4 : m' (Str.ofString "tables") = some (.ref ta)) (hm5 : m' (Str.ofString "turn") = some (.int ((turn + 1 : Nat) : Int) t1))
    (hks : cs.kind = .function) (hdp : dp + 60 < recursionLimit) (hun : un + 400 < cLine) (htk : tks ≤ tk2)
    (hret : TurnPost g' L' nl rl pa ta oC TT turn ⟨text, pile0 ++ tabs, tables ++ tabs⟩ ⟨H, gs, dr, tks, os⟩ Q) :
    DrawPost g' L' pa oT ((L' + 1, oC) :: (ta, listOf ts.toArray tn) :: TT) m' tk2 text us0 tabs ⟨h2, gs, dr, tk2, os⟩ fun s' => Stop (wpAny (model Challenge.rw_wf0091_01.prog w) ((ktrTop dp un gd cn cs L a ccd cl outer).deeper (drEnv L')) (execs ((bodyAt (fnOfStm 78).2.1 8).drop 5) (drEnv L')) Q E s') := by
  intro ma mvs mn pn' tt' tl h' tk' m'' F N hma hk htabs htt g1 g2 g3 hoffl
  have hml := htabs.1
  have hmao := hoffl _ hma
  refine ⟨draw_ext (pa := pa) (ta := ta) (ma := ma) (us := us0) (ts := ts) (mvs := mvs) (pn := pn') (tn := tn) (mn := mn) (TT := (L' + 1 + 1, oT) :: (L' + 1, oC) :: (tl ++ TT)) hul htsl (by omega) (by omega) hpt hmao.1 (hmao.2.2 _ (.tail _ (.head _))) ?q_1 ?q_2 B' F X' T' (News.sub N ?q_3) ?q_4 ?q_5 g2 hks hdp hun ?q_r⟩
  case q_1 =>
    intro p hp
    simp only [List.mem_cons, List.mem_append] at hp
    rcases hp with rfl | rfl | hp | hp
    · exact Ne.symm hpT
    · exact Ne.symm hpC
    · exact Ne.symm (hoffl p hp).1
    · exact (hoff p hp).1
  case q_2 =>
    intro p hp
    simp only [List.mem_cons, List.mem_append] at hp
    rcases hp with rfl | rfl | hp | hp
    · exact Ne.symm htT
    · exact Ne.symm htC
    · exact Ne.symm ((hoffl p hp).2.2 _ (.tail _ (.head _)))
    · exact (hoff p hp).2.1
  case q_3 => exact perm_e1 hma
  case q_4 => rw [g3 _ (by decide) (by decide) (by decide) (by decide)]; exact hm3
  case q_5 => rw [g3 _ (by decide) (by decide) (by decide) (by decide)]; exact hm4
  case q_r =>
    intro pn2 tn2 h3 tk3 F3 N3 hk3
    dsimp only at hk3
    refine hret (us0 ++ mvs) (ts ++ mvs) pn2 tn2 oT vT tl t1 tt' h3 tk3 m'' F3 (News.sub N3 fun p hp => ?_) (by dsimp only; omega) hoT ?p_1 ?p_2 (htt.mono (by omega)) ?p_3 ?p_4 ?p_5 ?p_6 g1 ?p_7 ?p_8
    case p_1 =>
      refine (hP.mono fun p hp => List.mem_append_right _ hp).app (htabs.less ht16 ?_)
      intro p hp
      simp only [List.mem_cons, List.mem_append] at hp ⊢
      rcases hp with hp | rfl | rfl | hp
      · exact .inl (.inl hp)
      · exact .inr (noTab_cell hoC)
      · exact .inr (noTab_refs hS.refs)
      · exact .inl (.inr hp)
    case p_2 =>
      refine (hS.mono fun p hp => List.mem_append_right _ hp).app (htabs.less ht16 ?_)
      intro p hp
      simp only [List.mem_cons, List.mem_append] at hp ⊢
      rcases hp with hp | rfl | rfl | hp
      · exact .inl (.inl hp)
      · exact .inr (noTab_cell hoC)
      · exact .inr (noTab_refs hS.refs)
      · exact .inl (.inr hp)
    case p_3 => rw [g3 _ (by decide) (by decide) (by decide) (by decide)]; exact hm1
    case p_4 => rw [g3 _ (by decide) (by decide) (by decide) (by decide)]; exact hm2
    case p_5 => rw [g3 _ (by decide) (by decide) (by decide) (by decide)]; exact hm3
    case p_6 => rw [g3 _ (by decide) (by decide) (by decide) (by decide)]; exact hm4
    case p_7 => rw [g3 _ (by decide) (by decide) (by decide) (by decide)]; exact hm5
    case p_8 =>
      intro p hp
      have h := hoffl p hp
      exact ⟨Ne.symm h.1, Ne.symm (h.2.2 _ (.tail _ (.head _))), Ne.symm h.2.1, Ne.symm (h.2.2 _ (.head _))⟩
    · simp only [List.mem_cons, List.mem_append] at hp ⊢
      rcases hp with h | h | h | h | h <;> simp [h]
end
section
theorem perm_d1 {α : Type} {a b c d : α} {T : List α} : ∀ p ∈ c :: a :: b :: d :: T, p ∈ a :: b :: c :: d :: T := by
  intro p hp
  simp only [List.mem_cons] at hp ⊢
  rcases hp with h | h | h | h | h <;> simp [h]
theorem perm_d2 {α : Type} {a b c d : α} {T : List α} : ∀ p ∈ a :: c :: d :: b :: T, p ∈ c :: a :: b :: d :: T := by
  intro p hp
  simp only [List.mem_cons] at hp ⊢
  rcases hp with h | h | h | h | h <;> simp [h]
theorem rule_len10 : ∀ k, k < 10 → (rulesL.getD k (⟨#[]⟩, [])).1.length ≤ 10 ∧ ((rulesL.getD k (⟨#[]⟩, [])).1 ≠ Str.ofString "~" → (rulesL.getD k (⟨#[]⟩, [])).2.length = 4) ∧ ((rulesL.getD k (⟨#[]⟩, [])).1 = Str.ofString "~" → (rulesL.getD k (⟨#[]⟩, [])).2.length = 2) := by decide +kernel
theorem tab1_len {tr f : List Int} : (tab1 tr f).length = 16 := by simp [tab1]
theorem tab2_len {tr f g : List Int} : (tab2 tr f g).length = 16 := by simp [tab2]
theorem case_len (c : Nat) : (caseT c).length = 16 := by unfold caseT; split <;> (try split) <;> (try split) <;> rfl
theorem last_one {α : Type} : ∀ {l : List α}, 0 < l.length → ∃ us v, l = us ++ [v] := by
  intro l h
  have hne : l ≠ [] := by rintro rfl; simp at h
  exact ⟨l.dropLast, l.getLast hne, (List.dropLast_concat_getLast hne).symm⟩
theorem draw_turn {w : World} {L' nl rl pa ta : Addr} {us ts ys : List Value} {pn tn yn tk0 turn : Nat} {tt t0 : Tok} {oT oC : Obj} {vT : Option Value} {dc : Addr} {TT : List (Addr × Obj)} {nums : List Int} {d : DS}
    (hd : DRun nums turn d) (ht : turn < 12) (hlen : nums.length = 6) (hnb : ∀ x ∈ nums, 0 ≤ x ∧ x < 1000000) (hi : IntsAre ys nums) (h26 : 2600 ≤ tk0)
    (hoT : oT.data = .cell vT) (hoC : oC.data = .cell (some (.ref dc))) (hdc : CasesOk w TT dc) (hrl : RulesOk tk0 TT rl) (hnl : (nl, listOf ys.toArray yn) ∈ TT) (hP : TabsIn TT us d.pile) (hS : TabsIn TT ts d.tables) (htt : TkOk tk0 tt)
    (hpt : @Ne Nat pa ta) (hpT : @Ne Nat pa (L' + 1 + 1)) (hpC : @Ne Nat pa (L' + 1)) (htT : @Ne Nat ta (L' + 1 + 1)) (htC : @Ne Nat ta (L' + 1)) (hoff : ∀ p ∈ TT, @Ne Nat p.1 pa ∧ @Ne Nat p.1 ta ∧ @Ne Nat p.1 (L' + 1 + 1) ∧ @Ne Nat p.1 (L' + 1))
    {dp un : Nat} {gd : Option (List Code)} {cn : Str} {cs : Scope} {a : Addr} {ccd : Value} {cl : List (Str × Addr)} {outer : List Env} {base g' : Heap} {L : Addr} {s : Shared} {mean : ExcName → Option Value} {mg mb m' : Str → Option Value} {Q : Flow → Shared → Prop} {E : Value → Shared → Prop}
    (B' : Below (ktrTop dp un gd cn cs L a ccd cl outer) base (envX cn cs L a ccd cl :: outer) g') (F' : Fr g' L' s.heap m') (X' : (KK w.params).In g') (T' : Top qv looseL mean mg mb g')
    (N' : News g' L' s.heap ((pa, listOf us.toArray pn) :: (ta, listOf ts.toArray tn) :: (L' + 1 + 1, oT) :: (L' + 1, oC) :: TT))
    (hm1 : m' (Str.ofString "numbers") = some (.ref nl)) (hm2 : m' (Str.ofString "rules") = some (.ref rl)) (hm3 : m' (Str.ofString "pile") = some (.ref pa)) (hm4 : m' (Str.ofString "tables") = some (.ref ta)) (hm5 : m' (Str.ofString "text") = some (.str d.text tt)) (hm6 : m' (Str.ofString "turn") = some (.int turn t0))
    (hks : cs.kind = .function) (hdp : dp + 60 < recursionLimit) (hun : un + 400 < cLine) (htk : tk0 ≤ s.toks)
    (hret : ∀ d', DStep (xAt nums turn d.pile.length) d d' → TurnPost g' L' nl rl pa ta oC TT turn d' s Q) :
    wpAny (model Challenge.rw_wf0091_01.prog w) ((ktrTop dp un gd cn cs L a ccd cl outer).deeper (drEnv L')) (execs (bodyAt (fnOfStm 78).2.1 8) (drEnv L')) Q E s := by
  obtain ⟨H, gs, dr, tks, os⟩ := s
  dsimp only at F' N' htk
  have hfac := hd.facts
  have f1 := hfac.tl
  have f2 := hfac.pl
  have f3 := hfac.tb
  have hul := hP.1
  have htl := hS.1
  have hsb := sum_bound hnb
  rw [hlen] at hsb
  refine draw_x (tk0 := tk0) (nl := nl) (pa := pa) (us := ys) (pvs := us) (turn := turn) (tt := t0) (nums := nums) hi hlen (by omega) (by omega) (by omega) (.tail _ (.tail _ (.tail _ (.tail _ hnl)))) (.head _) B' F' X' T' N' hm1 hm3 hm6 hks hdp hun ?_
  intro tx h1 tk1 F1 N1 hk1
  dsimp only at hk1
  refine ⟨?_⟩
  have hxb := xAt_bound (turn := turn) (plen := us.length) hnb
  rw [hul] at F1 hxb
  generalize xAt nums turn d.pile.length = x at F1 hxb hret
  refine draw_sign (rl := rl) (turn := turn) (x := x) (tt := t0) (tx := tx) (TT := (pa, listOf us.toArray pn) :: (ta, listOf ts.toArray tn) :: (L' + 1, oC) :: TT) hxb (by omega) h26 (hrl.mono (fun p hp => .tail _ (.tail _ (.tail _ hp))) (Nat.le_refl _)) hoT B' F1 X' T' (News.sub N1 perm_d1) ?q_o ?q_1 ?q_2 ?q_3 hks hdp hun (by dsimp only; omega) ?q_r
  case q_o =>
    intro p hp
    simp only [List.mem_cons] at hp
    rcases hp with rfl | rfl | rfl | hp
    · exact hpT
    · exact htT
    · exact Nat.ne_of_lt (Nat.lt_succ_self _)
    · exact (hoff p hp).2.2.1
  case q_1 => with_unfolding_all exact hm2
  case q_2 => with_unfolding_all exact hm6
  case q_3 => with_unfolding_all rfl
  case q_r =>
  intro t1 t2 t3 tv oT' h2 tk2 F2 N2 hk2 hoT' htr ht2 ht3
  dsimp only at hk2
  refine ⟨?_⟩
  obtain ⟨rk, hrk, hre, hrc⟩ := rule_at x
  have hr10 := rule_len10 rk hrk
  rw [← hre] at hr10
  have hhl := hid_len (x.fdiv 192)
  have htr' : TabIn TT tv (ruleOf x).2 := by
    have hne : (ruleOf x).2 ≠ [] := by
      intro e
      rw [e] at hr10
      by_cases h : (ruleOf x).1 = Str.ofString "~"
      · have := hr10.2.2 h; cases this
      · have := hr10.2.1 h; cases this
    refine htr.less hne ?_
    intro p hp
    simp only [List.mem_cons] at hp
    rcases hp with rfl | rfl | rfl | hp
    · exact .inr (noTab_refs hP.refs)
    · exact .inr (noTab_refs hS.refs)
    · exact .inr (noTab_cell hoC)
    · exact .inl hp
  have N3 : News g' L' h2 ((pa, listOf us.toArray pn) :: (L' + 1 + 1, oT') :: (L' + 1, oC) :: (ta, listOf ts.toArray tn) :: TT) := News.sub N2 perm_d2
  have offx : ∀ p ∈ (L' + 1, oC) :: (ta, listOf ts.toArray tn) :: TT, p.1 ≠ pa := by
    intro p hp
    simp only [List.mem_cons] at hp
    rcases hp with rfl | rfl | hp
    · exact Ne.symm hpC
    · exact Ne.symm hpt
    · exact (hoff p hp).1
  have hxm : (fun y => if y = Str.ofString "hidden" then some (Value.str (hidS (x.fdiv 192)) t3) else if y = Str.ofString "sign" then some (Value.str (ruleOf x).1 t2) else if y = Str.ofString "turn" then some (Value.int ((turn + 1 : Nat) : Int) t1) else if y = Str.ofString "x" then some (Value.int x tx) else m' y) (Str.ofString "x") = some (Value.int x tx) := by with_unfolding_all rfl
  have kx : ∀ {y : Str} {v : Option Value}, m' y = v → y ≠ Str.ofString "hidden" → y ≠ Str.ofString "sign" → y ≠ Str.ofString "turn" → y ≠ Str.ofString "x" → (fun y => if y = Str.ofString "hidden" then some (Value.str (hidS (x.fdiv 192)) t3) else if y = Str.ofString "sign" then some (Value.str (ruleOf x).1 t2) else if y = Str.ofString "turn" then some (Value.int ((turn + 1 : Nat) : Int) t1) else if y = Str.ofString "x" then some (Value.int x tx) else m' y) y = v := by
    intro y v h y1 y2 y3 y4
    simp only [if_neg y1, if_neg y2, if_neg y3, if_neg y4]; exact h
  have kn := kx hm1 (by decide) (by decide) (by decide) (by decide)
  have kr := kx hm2 (by decide) (by decide) (by decide) (by decide)
  have kp := kx hm3 (by decide) (by decide) (by decide) (by decide)
  have kt := kx hm4 (by decide) (by decide) (by decide) (by decide)
  have kte := kx hm5 (by decide) (by decide) (by decide) (by decide)
  have ktu : (fun y => if y = Str.ofString "hidden" then some (Value.str (hidS (x.fdiv 192)) t3) else if y = Str.ofString "sign" then some (Value.str (ruleOf x).1 t2) else if y = Str.ofString "turn" then some (Value.int ((turn + 1 : Nat) : Int) t1) else if y = Str.ofString "x" then some (Value.int x tx) else m' y) (Str.ofString "turn") = some (Value.int ((turn + 1 : Nat) : Int) t1) := by with_unfolding_all rfl
  have ksg : (fun y => if y = Str.ofString "hidden" then some (Value.str (hidS (x.fdiv 192)) t3) else if y = Str.ofString "sign" then some (Value.str (ruleOf x).1 t2) else if y = Str.ofString "turn" then some (Value.int ((turn + 1 : Nat) : Int) t1) else if y = Str.ofString "x" then some (Value.int x tx) else m' y) (Str.ofString "sign") = some (Value.str (ruleOf x).1 t2) := by with_unfolding_all rfl
  have khd : (fun y => if y = Str.ofString "hidden" then some (Value.str (hidS (x.fdiv 192)) t3) else if y = Str.ofString "sign" then some (Value.str (ruleOf x).1 t2) else if y = Str.ofString "turn" then some (Value.int ((turn + 1 : Nat) : Int) t1) else if y = Str.ofString "x" then some (Value.int x tx) else m' y) (Str.ofString "hidden") = some (Value.str (hidS (x.fdiv 192)) t3) := by with_unfolding_all rfl
  generalize (fun y => if y = Str.ofString "hidden" then some (Value.str (hidS (x.fdiv 192)) t3) else if y = Str.ofString "sign" then some (Value.str (ruleOf x).1 t2) else if y = Str.ofString "turn" then some (Value.int ((turn + 1 : Nat) : Int) t1) else if y = Str.ofString "x" then some (Value.int x tx) else m' y) = m2 at F2 hxm kn kr kp kt kte ktu ksg khd
  have lift : ∀ p ∈ TT, p ∈ (L' + 1, oC) :: (ta, listOf ts.toArray tn) :: TT := fun p hp => .tail _ (.tail _ hp)
  obtain ⟨text, pile, tables⟩ := d
  dsimp only at f1 f2 f3 hul htl hP hS hm5 kte
  have bits := hfac.bits
  dsimp only at bits
  by_cases hb : 1 < x.fmod 4 ∧ (ruleOf x).1 ≠ Str.ofString "~" ∧ 1 < us.length
  · obtain ⟨b1, b2, b3⟩ := hb
    obtain ⟨q1, f, rfl⟩ := last_one (l := pile) (by omega)
    obtain ⟨q2, g, rfl⟩ := last_one (l := q1) (by simp at hul; omega)
    obtain ⟨u1, v2, rfl, hP1, hv2⟩ := hP.unsnoc
    obtain ⟨u2, v1, rfl, hP2, hv1⟩ := hP1.unsnoc
    have bf := bits f (by simp)
    have bg := bits g (by simp)
    have hp' := hP2.1
    have f2' := f2
    simp only [List.length_append, List.length_singleton] at f2'
    refine draw_bin (pa := pa) (us := u2) (v1 := v1) (v2 := v2) (x := x) (tx := tx) (tt := tt) (th := t3) (ts := t2) (oT := oT') (tv := tv) (text := text) (sg := (ruleOf x).1) (hid := hidS (x.fdiv 192)) (tr := (ruleOf x).2) (f1 := g) (f2 := f) (tk0 := tk2) hxb b1 (bne_iff_ne.mpr b2) ?_ (by omega) hoT' (htr'.mono lift) (hv1.mono lift) (hv2.mono lift) bg.1 bf.1 bg.2 bf.2 (hr10.2.1 b2) (by omega) hr10.1 (by omega) (htt.mono (by omega)) ht3 ht2 B' F2 X' T' N3 offx hpT hxm ksg kp khd kte hks hdp hun (Nat.le_refl _) ?_
    · omega
    · exact turn_end hoT' hoC hP2 hS (by simp) (by intro t h; rw [List.mem_singleton.mp h]; exact tab2_len) (by omega) (by omega) hpt hpT hpC htT htC hoff B' X' T' kn kr kp kt ktu hks hdp hun (by dsimp only; omega) (hret _ (.bin b1 b2))
  by_cases hn : 1 < x.fmod 4 ∧ (ruleOf x).1 = Str.ofString "~" ∧ 0 < us.length
  · obtain ⟨b1, b2, b3⟩ := hn
    obtain ⟨q1, f, rfl⟩ := last_one (l := pile) (by omega)
    obtain ⟨u1, v1, rfl, hP1, hv1⟩ := hP.unsnoc
    have bf := bits f (by simp)
    have hp' := hP1.1
    have f2' := f2
    simp only [List.length_append, List.length_singleton] at f2'
    refine draw_neg (pa := pa) (us := u1) (v1 := v1) (x := x) (tx := tx) (tt := tt) (th := t3) (ts := t2) (oT := oT') (tv := tv) (text := text) (sg := (ruleOf x).1) (hid := hidS (x.fdiv 192)) (tr := (ruleOf x).2) (f1 := f) (tk0 := tk2) hxb b1 (by rw [b2]; decide +kernel) (by rw [b2]; decide +kernel) ?_ (by omega) hoT' (htr'.mono lift) (hv1.mono lift) bf.1 bf.2 (hr10.2.2 b2) (by omega) (by omega) (htt.mono (by omega)) ht3 ht2 B' F2 X' T' N3 offx hpT hxm ksg kp khd kte hks hdp hun (Nat.le_refl _) ?_
    · omega
    · exact turn_end hoT' hoC hP1 hS (by simp) (by intro t h; rw [List.mem_singleton.mp h]; exact tab1_len) (by omega) (by omega) hpt hpT hpC htT htC hoff B' X' T' kn kr kp kt ktu hks hdp hun (by dsimp only; omega) (hret _ (.neg b1 b2))
  have offy : ∀ p ∈ (ta, listOf ts.toArray tn) :: TT, p.1 ≠ pa := fun p hp => offx p (.tail _ hp)
  have hdc' : CasesOk w ((ta, listOf ts.toArray tn) :: TT) dc := hdc.mono fun p hp => .tail _ hp
  by_cases hl : x.fmod 4 = 1
  · have hlo : ligOf x < 5 := by
      have hf := fmod_bound (x.fdiv 4) (k := 5) (by decide)
      unfold ligOf; omega
    obtain ⟨l1, l2, l3, l4⟩ := lig_lt _ hlo
    refine draw_lig (pa := pa) (us := us) (x := x) (tx := tx) (tt := tt) (th := t3) (ts := t2) (oT := oT') (oC := oC) (text := text) (sg := (ruleOf x).1) (hid := hidS (x.fdiv 192)) (tk0 := tk2) hxb hl (by omega) (by omega) hoC hdc' (by omega) (by omega) (htt.mono (by omega)) ht3 B' F2 X' T' N3 offy hpT hpC hxm ksg kp khd kte hks hdp hun (Nat.le_refl _) ?_
    exact turn_end hoT' hoC hP hS (by rw [List.length_map]; omega) (by intro t h; obtain ⟨l, _, rfl⟩ := List.mem_map.mp h; exact case_len _) (by omega) (by omega) hpt hpT hpC htT htC hoff B' X' T' kn kr kp kt ktu hks hdp hun (by dsimp only; omega) (hret _ .lig)
  · have hf := fmod_bound x (k := 4) (by decide)
    refine draw_let (pa := pa) (us := us) (x := x) (tx := tx) (tt := tt) (th := t3) (ts := t2) (oT := oT') (oC := oC) (text := text) (sg := (ruleOf x).1) (hid := hidS (x.fdiv 192)) (tk0 := tk2) hxb ?_ (by omega) (by omega) hoC hdc' (by omega) (by omega) (htt.mono (by omega)) ht3 B' F2 X' T' N3 offy hpT hpC hxm ksg kp khd kte hks hdp hun (Nat.le_refl _) ?_
    · by_cases h0 : x.fmod 4 = 0
      · exact .inl h0
      · have h1 : 1 < x.fmod 4 := by omega
        by_cases ht : (ruleOf x).1 = Str.ofString "~"
        · exact .inr (.inr ⟨h1, ht, Nat.eq_zero_of_not_pos fun h => hn ⟨h1, ht, h⟩⟩)
        · exact .inr (.inl ⟨h1, ht, Nat.le_of_not_lt fun h => hb ⟨h1, ht, h⟩⟩)
    · exact turn_end hoT' hoC hP hS (by simp) (by intro t h; rw [List.mem_singleton.mp h]; exact case_len _) (by omega) (by omega) hpt hpT hpC htT htC hoff B' X' T' kn kr kp kt ktu hks hdp hun (by dsimp only; omega) (hret _ .letter)
end
section
theorem draw_ret {w : World} {ta : Addr} {text : Str} {tt : Tok} {TT : List (Addr × Obj)}
    (B' : Below (ktrTop dp un gd cn cs L a ccd cl outer) base (envX cn cs L a ccd cl :: outer) g') (F' : Fr g' L' s.heap m') (X' : (KK w.params).In g') (T' : Top qv looseL mean mg mb g')
    (N' : News g' L' s.heap TT)
    (hm1 : m' (Str.ofString "text") = some (.str text tt)) (hm2 : m' (Str.ofString "tables") = some (.ref ta))
    (hks : cs.kind = .function) (hdp : dp + 60 < recursionLimit) (hun : un + 400 < cLine)
    (hret : ∀ D n h' tk', Fr g' L' h' m' → News g' L' h' ((D, tupO [.str text tt, .ref ta] n) :: TT) → (∀ p ∈ TT, @LT.lt Nat _ p.1 D) → s.toks ≤ tk' → Qf (.ret (.ref D)) { s with heap := h', toks := tk' }) :
    wpAny (model Challenge.rw_wf0091_01.prog w) ((ktrTop dp un gd cn cs L a ccd cl outer).deeper (drEnv L')) (execs ((fnOfStm 78).2.1.drop 9) (drEnv L')) Qf E s := by
  with_reducible refine' execs_split (xs := [_]) (ys := []) ?q_e ?q_go
  case q_e => exact rfl
  obtain ⟨H, gs, dr, tks, os⟩ := s
  dsimp only at F' N' hret
  revert F' N' hret
  revert B' X' T'
  k_fill
  intro B' X' T' F' N' hret
  wrow_steps
  rename News g' L' _ _ => kN
  rename Fr g' L' _ _ => kF
  rename ∀ p ∈ TT, _ => hlt
  exact hret _ _ _ _ kF kN hlt (by first | omega | (dsimp only; omega))
noncomputable def DrawJ (w : World) (L' nl rl pa ta dc : Addr) (oC : Obj) (ys : List Value) (yn : Nat) (nums : List Int) (T0 : List (Addr × Obj)) (tk0 : Nat) (k : Nat) (m : Str → Option Value) (news : List (Addr × Obj)) (tk : Nat) : Prop :=
  ∃ (turn : Nat) (d : DS) (us ts : List Value) (pn tn : Nat) (oT : Obj) (vT : Option Value) (tt t0 : Tok) (TT : List (Addr × Obj)), k = 12 - turn ∧ turn ≤ 12 ∧ DRun nums turn d ∧ news = (pa, listOf us.toArray pn) :: (ta, listOf ts.toArray tn) :: (L' + 1 + 1, oT) :: (L' + 1, oC) :: TT ∧ (∀ p ∈ T0, p ∈ TT) ∧ oT.data = .cell vT ∧ TabsIn TT us d.pile ∧ TabsIn TT ts d.tables ∧ TkOk tk tt ∧ tk0 ≤ tk ∧
    (∀ p ∈ TT, @Ne Nat p.1 pa ∧ @Ne Nat p.1 ta ∧ @Ne Nat p.1 (L' + 1 + 1) ∧ @Ne Nat p.1 (L' + 1)) ∧
    m (Str.ofString "numbers") = some (.ref nl) ∧ m (Str.ofString "rules") = some (.ref rl) ∧ m (Str.ofString "pile") = some (.ref pa) ∧ m (Str.ofString "tables") = some (.ref ta) ∧ m (Str.ofString "text") = some (.str d.text tt) ∧ m (Str.ofString "turn") = some (.int turn t0)
noncomputable def DrawnPost (nums : List Int) (T : List (Addr × Obj)) (r : Value) (news' : List (Addr × Obj)) (tk' : Nat) : Prop :=
  ∃ (turn : Nat) (d : DS) (D ta : Addr) (n tn : Nat) (ts : List Value) (tt : Tok) (tl : List (Addr × Obj)), DRun nums turn d ∧ 6 ≤ turn ∧ turn ≤ 12 ∧ r = .ref D ∧ news' = (D, tupO [.str d.text tt, .ref ta] n) :: (ta, listOf ts.toArray tn) :: (tl ++ T) ∧ TabsIn (tl ++ T) ts d.tables ∧ TkOk tk' tt
theorem draw_loop {w : World} {L' nl rl pa ta : Addr} {ys : List Value} {pn tn yn tk0 : Nat} {tt t0 : Tok} {oT oC : Obj} {vT : Option Value} {dc : Addr} {TT T : List (Addr × Obj)} {nums : List Int}
    (hlen : nums.length = 6) (hnb : ∀ x ∈ nums, 0 ≤ x ∧ x < 1000000) (hi : IntsAre ys nums) (h26 : 2600 ≤ tk0)
    (hoT : oT.data = .cell vT) (hoC : oC.data = .cell (some (.ref dc))) (hdc : CasesOk w TT dc) (hrl : RulesOk tk0 TT rl) (hnl : (nl, listOf ys.toArray yn) ∈ TT) (htt : TkOk tk0 tt)
    (hpt : @Ne Nat pa ta) (hpT : @Ne Nat pa (L' + 1 + 1)) (hpC : @Ne Nat pa (L' + 1)) (htT : @Ne Nat ta (L' + 1 + 1)) (htC : @Ne Nat ta (L' + 1)) (hoff : ∀ p ∈ TT, @Ne Nat p.1 pa ∧ @Ne Nat p.1 ta ∧ @Ne Nat p.1 (L' + 1 + 1) ∧ @Ne Nat p.1 (L' + 1)) (hT : ∀ p ∈ T, p ∈ TT)
    {dp un : Nat} {gd : Option (List Code)} {cn : Str} {cs : Scope} {a : Addr} {ccd : Value} {cl : List (Str × Addr)} {outer : List Env} {base g' : Heap} {L : Addr} {s : Shared} {mean : ExcName → Option Value} {mg mb m' : Str → Option Value} {Q : Flow → Shared → Prop} {E : Value → Shared → Prop}
    (B' : Below (ktrTop dp un gd cn cs L a ccd cl outer) base (envX cn cs L a ccd cl :: outer) g') (F' : Fr g' L' s.heap m') (X' : (KK w.params).In g') (T' : Top qv looseL mean mg mb g')
    (N' : News g' L' s.heap ((pa, listOf #[] pn) :: (ta, listOf #[] tn) :: (L' + 1 + 1, oT) :: (L' + 1, oC) :: TT))
    (hm1 : m' (Str.ofString "numbers") = some (.ref nl)) (hm2 : m' (Str.ofString "rules") = some (.ref rl)) (hm3 : m' (Str.ofString "pile") = some (.ref pa)) (hm4 : m' (Str.ofString "tables") = some (.ref ta)) (hm5 : m' (Str.ofString "text") = some (.str ⟨#[]⟩ tt)) (hm6 : m' (Str.ofString "turn") = some (.int 0 t0))
    (hks : cs.kind = .function) (hdp : dp + 60 < recursionLimit) (hun : un + 400 < cLine) (htk : tk0 ≤ s.toks) (hE : PassesOwn (model Challenge.rw_wf0091_01.prog w) ((ktrTop dp un gd cn cs L a ccd cl outer).deeper (drEnv L')) (drEnv L') E)
    (hret : ∀ r news' h' tk' m'', Fr g' L' h' m'' → News g' L' h' news' → s.toks ≤ tk' → DrawnPost nums T r news' tk' → Q (.ret r) { s with heap := h', toks := tk' }) :
    wpAny (model Challenge.rw_wf0091_01.prog w) ((ktrTop dp un gd cn cs L a ccd cl outer).deeper (drEnv L')) (execs ((fnOfStm 78).2.1.drop 8) (drEnv L')) Q E s := by
  have e : (fnOfStm 78).2.1.drop 8 = .While (whileTest (fnOfStm 78).2.1 8) (bodyAt (fnOfStm 78).2.1 8) [] _ :: (fnOfStm 78).2.1.drop 9 := rfl
  rw [e]
  obtain ⟨H, gs, dr, tks, os⟩ := s
  dsimp only at F' N' htk hret
  refine wpAny_execs_cons (While_T (DrawJ w L' nl rl pa ta dc oC ys yn nums TT tks) (n₀ := 12) F' N' ?q_J ?q_t hE)
  case q_J => exact ⟨0, _, [], [], pn, tn, oT, vT, tt, t0, TT, rfl, by decide, .zero, rfl, fun p hp => hp, hoT, ⟨rfl, fun i v tb h => nomatch h⟩, ⟨rfl, fun i v tb h => nomatch h⟩, htt.mono htk, Nat.le_refl _, hoff, hm1, hm2, hm3, hm4, hm5, hm6⟩
  case q_t =>
    intro k m₁ news₁ h₁ tk₁ F₁ N₁ hJ
    obtain ⟨turn, d, us, ts, pn1, tn1, oT1, vT1, tt1, t1, T1, rfl, ht, hd, rfl, hsub, hoT1, hP, hS, htt1, hk1, hoff1, g1, g2, g3, g4, g5, g6⟩ := hJ
    have hfac := hd.facts
    have f2 := hfac.pl
    have hul := hP.1
    refine draw_test (pa := pa) (us := us) (turn := turn) (tt := t1) (by omega) ht (.head _) B' F₁ X' T' N₁ g3 g6 hks hdp hun ?_
    intro h2 tk2 F2 N2 hk2
    dsimp only at hk2
    by_cases c : turn < 6 ∨ turn < 12 ∧ 1 < us.length
    · rw [decide_eq_true c, if_pos rfl]
      refine draw_turn (tk0 := tk2) (d := d) (us := us) (ts := ts) (ys := ys) (yn := yn) (turn := turn) (tt := tt1) (t0 := t1) (oT := oT1) (oC := oC) (TT := T1) hd (by omega) hlen hnb hi (by omega) hoT1 hoC (hdc.mono hsub) (hrl.mono hsub (by omega)) (hsub _ hnl) hP hS (htt1.mono hk2) hpt hpT hpC htT htC hoff1 B' F2 X' T' N2 g1 g2 g3 g4 g5 g6 hks hdp hun (Nat.le_refl _) ?_
      intro d' hstep us' ts' pn' tn' oT' vT' tl t3 t4 h3 tk3 m3 F3 N3 hk3 hoT' hP' hS' htt' k1 k2 k3 k4 k5 k6 hofft
      dsimp only at hk3
      have c12 : turn < 12 := c.elim (fun h => Nat.lt_trans h (by decide)) And.left
      refine ⟨h3, tk3, m3, _, 12 - (turn + 1), rfl, F3, N3, Nat.sub_succ_lt_self 12 turn c12, turn + 1, d', us', ts', pn', tn', oT', vT', t4, t3, tl ++ T1, rfl, c12, .succ hd hstep, rfl, fun p hp => List.mem_append_right _ (hsub p hp), hoT', hP', hS', htt', by omega, ?_, k1, k2, k3, k4, k5, k6⟩
      intro p hp
      rcases List.mem_append.mp hp with hp | hp
      · exact hofft p hp
      · exact hoff1 p hp
    · rw [decide_eq_false c, if_neg Bool.false_ne_true]
      refine draw_ret (text := d.text) (tt := tt1) (ta := ta) B' F2 X' T' N2 g5 g4 hks hdp hun ?_
      intro D n h3 tk3 F3 N3 hlt hk3
      dsimp only at hk3
      refine hret _ ((D, tupO [.str d.text tt1, .ref ta] n) :: (ta, listOf ts.toArray tn1) :: (T1 ++ T)) _ _ _ F3 (News.sub N3 ?_) (by omega) ⟨turn, d, D, ta, n, tn1, ts, tt1, T1, hd, by omega, ht, rfl, rfl, hS.mono fun p hp => List.mem_append_left _ hp, htt1.mono (by omega)⟩
      intro p hp
      simp only [List.mem_cons, List.mem_append] at hp ⊢
      rcases hp with h | h | h | h
      · simp [h]
      · simp [h]
      · simp [h]
      · exact .inr (.inr (.inr (.inr (.inr (hsub p (hT p h))))))
end
section
section
variable {prog : Program} {w : World} {A : Around} {E : Value → Shared → Prop} {s : Shared} {h₀ : Heap} {L : Addr} {m : Str → Option Value} {env : Env}
open LCg
theorem Assign_ListComp_V {elt iter : Expr} {x y : Str} {px py : Pos} {scope : Scope} {cl : List (Str × Addr)} {pos spos : Pos} {Q : Flow → Shared → Prop} (F₀ : Fr h₀ L s.heap m) (hLe : env.locals = L)
    (hsw : swapsWith (.ListComp elt [⟨.Name x px, iter, [], 0⟩] scope pos) (some (.Name y py)) spos.line env = pure true)
    (hclos : closureFor scope env = pure cl) (hcell : ∀ z ∈ scope.names, z.2 ≠ .cell) (hkind : scope.kind = .function)
    (hnames : ∀ z ∈ scope.names, z.2 = .local → scope.names.lookup z.1 = some .local) (hx : scope.names.lookup x = some .local)
    (hy : env.kindOf y = some .local) (hp : (env.scope.kind == .class || (env.scope.kind == .module && env.locals != env.globals)) = false) (hh : A.handled = none)
    (h : wpAny (model prog w) A (eval iter env) (fun xv s₁ => ∃ (ax : Addr) (its : List Value) (k : Nat) (news : List (Addr × Obj)) (G : Nat → Value → Prop), xv = .ref ax ∧ (ax, listOf its.toArray k) ∈ news ∧ its.length ≤ 1000 ∧ (∃ h tk, s₁ = { s with heap := h, toks := tk }) ∧ Fr h₀ L s₁.heap m ∧ News h₀ L s₁.heap news ∧
      (∀ i v C oC TT m₂ (s₂ : Shared) (E' : Value → Shared → Prop), its[i]? = some v → NsObj oC m₂ → m₂ x = some v → (∀ p ∈ news, p ∈ TT) → Fr h₀ L s₂.heap m → News h₀ L s₂.heap ((C, oC) :: TT) →
        wpAny (model prog w) A (eval elt (compEnvC scope cl C env)) (fun y s₃ => G i y ∧ ∃ h tk, s₃ = { s₂ with heap := h, toks := tk } ∧ Fr h₀ L h m ∧ News h₀ L h ((C, oC) :: TT)) E' s₂) ∧
      (∀ D ys h tk, ys.length = its.length → (∀ (i : Nat) (y : Value), ys[i]? = some y → G i y) → Fr h₀ L h (fun z => if z = y then some (.ref D) else m z) → News h₀ L h ((D, lst ys) :: news) → (∀ p ∈ news, @Ne Nat p.1 D) → s.toks ≤ tk → Q .next { s with heap := h, toks := tk })) E s)
    (hs : ∀ x, foldedSetIterable iter env x = pure x := by intro _; rfl) :
    wpAny (model prog w) A (exec (.Assign [.Name y py] (.ListComp elt [⟨.Name x px, iter, [], 0⟩] scope pos) spos) env) Q E s := by
  refine wpAny_mono (wpAny_with_toks (Nat.le_refl _) (Assign_ListComp_U (E := fun v s' => s.toks ≤ s'.toks → E v s') (Q := fun v s' => s.toks ≤ s'.toks → Q v s') F₀ hLe hsw hclos hcell hkind hnames hx hy hp ?_ hs)) (fun _ _ q => q) fun _ _ e => e
  refine wpAny_mono h (fun xv s₁ h₁ => ?_) fun _ _ e _ => e
  obtain ⟨ax, its, k, news, G, rfl, hm, hsz, ⟨h₁, tk₁, rfl⟩, F, N, step, fin⟩ := h₁
  refine CompSrc.ledger hh F N hm (Nat.le_trans (by simpa using hsz) (by rw [sizeLine_eq]; decide)) fun g => ?_
  refine rest_inv (n := its.toArray.size) (fun i ys news' => news' = news ∧ ys.length = i ∧ ∀ (j : Nat) (y : Value), ys[j]? = some y → G j y) ?_ ?_ _ 0 [] news (Nat.zero_add _) ⟨rfl, rfl, fun j y e => by simp at e⟩
  · rintro i v I oI C oC D ys news' m₂ h tk E' hi ⟨rfl, hyl, hys⟩ hP hC hx F N off ne
    rw [List.getElem?_toArray] at hP
    refine wpAny_mono (step i v C oC ((I, oI) :: (D, lst ys) :: news') m₂ _ E' hP hC hx (fun p hp => .tail _ (.tail _ hp)) F (News.sub N swap2)) (fun y s₃ q => ?_) fun _ _ e => e
    obtain ⟨hG, h', tk', rfl, F', N'⟩ := q
    refine ⟨h', tk', news', rfl, F', News.sub N' swap2, off, .inr ⟨_, hm, rfl, _, rfl⟩, rfl, by simp [hyl], fun j z hz => ?_⟩
    rcases Nat.lt_trichotomy j ys.length with hj | hj | hj
    · rw [List.getElem?_append_left hj] at hz; exact hys j z hz
    · subst hj
      rw [List.getElem?_append_right (Nat.le_refl _)] at hz
      simp at hz
      subst hz; rw [hyl]; exact hG
    · rw [List.getElem?_eq_none (by rw [List.length_append, List.length_singleton]; omega)] at hz; cases hz
  · rintro ys news' ⟨rfl, hyl, hys⟩
    intro D h tk F N off htk
    exact fin D ys h tk (by simpa using hyl) hys F N (off1_mem _ off) htk
end
theorem ints_from : ∀ {ys : List Value} {ns : List Int} {f : Int → Int}, ys.length = ns.length → (∀ (i : Nat) (y : Value), ys[i]? = some y → ∃ t, y = .int (f (ns.getD i 0)) t) → IntsAre ys (ns.map f)
  | [], [], _, _, _ => .nil
  | [], _ :: _, _, h, _ => by simp at h
  | _ :: _, [], _, h, _ => by simp at h
  | y :: ys, n :: ns, f, h, g => by
    obtain ⟨t, ht⟩ := g 0 y rfl
    have ht' : y = .int (f n) t := ht
    subst ht'
    exact .cons _ t (ints_from (by simpa using h) fun i z hz => g (i + 1) z (by simpa using hz))
local macro_rules | `(tactic| walk_at "exec Assign cons ListComp") => `(tactic| (k_here; (with_reducible refine Stop.out ?_)))
set_option maxHeartbeats 2000000 in
theorem drawn_a {w : World} {scr : Addr} {its : List Value} {ns : List Int} {tk0 : Nat} {TT : List (Addr × Obj)} (hi : IntsAre its ns) (hn : its.length ≤ 63) (h26 : 2600 ≤ tk0)
    (B' : Below (ktrTop dp un gd cn cs L a ccd cl outer) base (envX cn cs L a ccd cl :: outer) g') (F' : Fr g' L' s.heap m') (X' : (KK w.params).In g') (T' : Top qv looseL mean mg mb g')
    (N' : News g' L' s.heap TT) (hscr : g'.IsList scr its.toArray)
    (hm1 : m' (Str.ofString "script") = some (.ref scr))
    (hks : cs.kind = .function) (hdp : dp + 60 < recursionLimit) (hun : un + 400 < cLine) (htk : tk0 ≤ s.toks)
    (hret : ∀ nl ys yn tl h' tk', Fr g' L' h' (fun y => if y = Str.ofString "numbers" then some (.ref nl) else m' y) → News g' L' h' ((nl, listOf ys.toArray yn) :: (tl ++ TT)) → s.toks ≤ tk' → IntsAre ys ((ns.take 6).map fun x => x.fmod 1000000) → (∀ p ∈ TT, @Ne Nat p.1 nl ∧ ∀ q ∈ tl, @Ne Nat p.1 q.1) → Stop (wpAny (model Challenge.rw_wf0091_01.prog w) ((ktrTop dp un gd cn cs L a ccd cl outer).deeper (drEnv L')) (execs ((fnOfStm 78).2.1.drop 1) (drEnv L')) Qf E { s with heap := h', toks := tk' })) :
    wpAny (model Challenge.rw_wf0091_01.prog w) ((ktrTop dp un gd cn cs L a ccd cl outer).deeper (drEnv L')) (execs (fnOfStm 78).2.1 (drEnv L')) Qf E s := by
  with_reducible refine' execs_split (xs := [_]) (ys := (fnOfStm 78).2.1.drop 1) ?q_e ?q_go
  case q_e => exact rfl
  obtain ⟨H, gs, dr, tks, os⟩ := s
  dsimp only at F' N' htk hret
  revert F' N' htk hret
  revert B' X' T'
  k_fill
  intro B' X' T' F' N' htk hret
  wrow_steps
  rename tks ≤ _ => htk1
  refine ⟨?_⟩
  refine Assign_ListComp_V (h₀ := g') (L := L') (m := m') (cl := []) F' rfl (by with_unfolding_all rfl) (by with_unfolding_all rfl) (by decide) rfl (by decide) rfl rfl rfl rfl ?_ (by intro _; rfl)
  refine wp_gen fun Q2 hq => ?_
  wrow_steps
  rename News g' L' _ _ => kN
  rename Fr g' L' _ _ => kF
  rename IntsAre _ (List.take _ ns) => hI9
  rename ∀ p ∈ TT, _ => l9
  have hI : IntsAre _ (ns.take 6) := hI9
  have hlen := hI.length
  have hl6 : (ns.take 6).length ≤ 6 := by rw [List.length_take]; omega
  refine (hq _ _ ⟨_, _, 0, _, fun i y => ∃ t, y = .int (((ns.take 6).getD i 0).fmod 1000000) t, rfl, .head _, by omega, ⟨_, _, rfl⟩, kF, kN, ?_, ?_⟩).out
  · intro i v C oC TT' m₂ s₂ E' hv hC hp hsub F₂ N₂
    have hil := (List.getElem?_eq_some_iff.mp hv).1
    obtain ⟨t, ht⟩ := ints_at hI i (by omega)
    rw [ht] at hv
    obtain rfl := Option.some.inj hv
    generalize hgn : (ns.take 6).getD i 0 = n at hp
    change m₂ (Str.ofString "x") = some (Value.int n t) at hp
    obtain ⟨H2, gs2, dr2, tk2, os2⟩ := s₂
    dsimp only at F₂ N₂
    refine wp_gen fun Q3 hq3 => ?_
    replace hq3 : ∀ h' tk' t', Fr g' L' h' m' → News g' L' h' ((C, oC) :: TT') → Stop (Q3 (.int (n.fmod 1000000) t') { heap := h', gens := gs2, drawn := dr2, toks := tk', os := os2 }) := fun h' tk' t' F N => hq3 _ _ ⟨⟨_, by rw [hgn]⟩, _, _, rfl, F, N⟩
    clear hq hret kF kN ht hI hI9 l9
    revert F₂ N₂
    revert B' X' T'
    k_fill
    intro B' X' T' F₂ N₂
    wrow_steps
    rename News g' L' _ _ => kN
    rename Fr g' L' _ _ => kF
    exact (hq3 _ _ _ kF kN).out
  · intro D ys h tk hyl hys F2 N2 hD htk2
    dsimp only at htk2
    refine wpAny_execs_nil (hret _ ys _ [_] h tk F2 N2 (by omega) (ints_from (by omega) hys) ?_)
    intro p hp
    exact ⟨hD _ (.tail _ hp), fun q hq => (List.mem_singleton.mp hq) ▸ Nat.ne_of_lt (l9 p hp)⟩
end
section
theorem def_cells {w : World} {f : Addr} {vs : List Value} {name : Str} {params : Arguments} {body : List Stmt} {scope : Scope} {dV kV doc pm cdv ct oc : Value} {an od : Option Addr} {osl : Array (Option Value)} {binds : List (Str × Value)}
    {dp un : Nat} {gd : Option (List Code)} {cn : Str} {cs : Scope} {a : Addr} {ccd : Value} {cl : List (Str × Addr)} {outer : List Env} {A₀ : Around} {base h₀ : Heap} {L : Addr} {m : Str → Option Value} {s : Shared} {R : Result → Shared → Prop} {news : List (Addr × Obj)} {mean : ExcName → Option Value} {mg mb : Str → Option Value}
    (B : Below A₀ base outer h₀) (F : Fr h₀ L s.heap m) (X : (KK w.params).In h₀) (N : News h₀ L s.heap news) (T : Top qv looseL mean mg mb h₀) (hks : cs.kind = .function)
    (hA : (ktrTop dp un gd cn cs L a ccd cl outer).frames = some (envX cn cs L a ccd cl :: outer))
    (ho : (KK w.params).lookup f = some ⟨oc, od, .func (fnX name name params body scope [] dV kV doc pm an cdv ct), osl⟩) (hcd : codeIn (KK w.params) cdv name = true) (hroom : (ktrTop dp un gd cn cs L a ccd cl outer).depth < recursionLimit)
    (hbind : BindsTo s (fnX name name params body scope [] dV kV doc pm an cdv ct) ⟨vs, []⟩ binds) (hkind : (binds.all fun y => scope.names.lookup y.1 == some .local || scope.names.lookup y.1 == some .cell) = true)
    (hnd : ((cellsFrom 0 scope.names []).map (·.1)).Nodup)
    (go : ∀ g L' h₁ tk cells, s.toks ≤ tk → Fr h₀ L g m → Fr g L' h₁ (bindL (envOfC name scope L' f cdv).kindOf binds fun _ => none) → News g L' h₁ (cells ++ news) →
      CellsAre (bindC (envOfC name scope L' f cdv).kindOf binds fun _ => none) (cellsFrom (L' + 1) scope.names []) cells → Below (ktrTop dp un gd cn cs L a ccd cl outer) base (envX cn cs L a ccd cl :: outer) g → h₀.StaysIn g → (KK w.params).In g → Top qv looseL mean mg mb g → (∀ p ∈ news, p.1 < L') →
      wpAny (model Challenge.rw_wf0091_01.prog w) ((ktrTop dp un gd cn cs L a ccd cl outer).deeper (envOfC name scope L' f cdv)) (execs body (envOfC name scope L' f cdv))
        (fun fl s' => LeaveK h₀ L m g R (match fl with | .ret v => v | _ => .none) s')
        (fun e s' => wpAny (model Challenge.rw_wf0091_01.prog w) ((ktrTop dp un gd cn cs L a ccd cl outer).deeper (envOfC name scope L' f cdv)) (leaving (envOfC name scope L' f cdv) e) (fun _ s'' => R (.error e) s'') (fun e' s'' => R (.error e') s'') s')
        { s with heap := h₁, toks := tk })
    (hco : scope.isCoroutine = false) (hgen : scope.isGenerator = false) (hk : scope.kind = .function) :
    codeAny (model Challenge.rw_wf0091_01.prog w) (ktrTop dp un gd cn cs L a ccd cl outer) (.call (.ref f) ⟨vs, []⟩) R s := by
  have hlim := T.nolimit
  have hfo := (X.keeps F.keep) _ _ ho
  obtain ⟨gFG, gB, gS, gL⟩ := groundX (R := R) B F N hA rfl hks
  refine codeAny_call_function hroom hfo rfl hco hgen rfl (codeRec_of (X.keeps F.keep) hcd) (hbind _ _ _ _ ?_)
  refine wpAny_with_toks (Nat.le_refl _) (wpAny_newFunctionEnv_cells hk (kindsX hkind _) fun env' he s' x => ?_)
  subst he
  obtain ⟨h₁, tk, rfl, _⟩ := x.done
  intro htk
  refine ⟨(hlim.keeps F.keep).keeps x.toInCall.keep, codeAny_func ?_⟩
  have kp := x.toInCall.keep
  obtain ⟨cells, NC, Y⟩ := Cl.news (h₀ := s.heap) (Nat.le_refl _) fun n c hm => ⟨x.cell n c (lookup_of_mem_nodup (cellsFrom_names scope.names 0 (s.heap.objs.size + 1) [] [] rfl ▸ hnd) hm), x.above n c hm⟩
  have body_ok := go _ s.heap.objs.size h₁ tk cells htk gFG ⟨x.toInCall.ns, fun b o e => kp b o (of_hideAll _ e), Nat.le_of_eq (hideAll_size _ _)⟩ (fun p hp => by
    rcases List.mem_append.mp hp with hp | hp
    · refine ⟨(NC p hp).1, (NC p hp).2.1, ?_⟩
      cases q : (hideAll s.heap (news.map (·.1))).get? p.1 with
      | none => rfl
      | some o => exact absurd ((NC p hp).2.2.symm.trans (of_hideAll _ q)) (by simp)
    · exact ⟨kp _ _ (N p hp).1, Nat.ne_of_lt (Heap.lt_size (N p hp).1), hideAll_none _ (List.mem_map_of_mem hp)⟩) Y gB gS (X.keeps gS) (T.keeps gS) (fun p hp => Heap.lt_size (N p hp).1)
  exact wpAny_mono body_ok (fun fl s' hl => gL _ _ hl) fun _ _ y => y
end
section
noncomputable def numsOf' (ns : List Int) : List Int := (ns.take 6).map (fun x => x.fmod 1000000) ++ ([236, 385, 978, 9, 11, 14] : List Int).drop ((ns.take 6).map (fun x => x.fmod 1000000)).length
theorem nums_len (ns : List Int) : (numsOf' ns).length = 6 := by
  unfold numsOf'
  rw [List.length_append, List.length_drop, List.length_map, List.length_take]
  exact Nat.add_sub_of_le (Nat.min_le_left 6 ns.length)
theorem nums_bound (ns : List Int) : ∀ x ∈ numsOf' ns, 0 ≤ x ∧ x < 1000000 := by
  intro x hx
  rcases List.mem_append.mp hx with hx | hx
  · obtain ⟨y, _, rfl⟩ := List.mem_map.mp hx
    exact fmod_bound y (by decide)
  · have := List.mem_of_mem_drop hx
    simp only [List.mem_cons, List.not_mem_nil, or_false] at this
    rcases this with rfl | rfl | rfl | rfl | rfl | rfl <;> decide
theorem drawn_e {w : World} {tk0 : Nat} {TT : List (Addr × Obj)} (h26 : 2600 ≤ tk0)
    (B' : Below (ktrTop dp un gd cn cs L a ccd cl outer) base (envX cn cs L a ccd cl :: outer) g') (F' : Fr g' L' s.heap m') (X' : (KK w.params).In g') (T' : Top qv looseL mean mg mb g')
    (N' : News g' L' s.heap TT)
    (hks : cs.kind = .function) (hdp : dp + 60 < recursionLimit) (hun : un + 400 < cLine) (htk : tk0 ≤ s.toks)
    (hret : ∀ pa ta tt t0 h' tk' m'', Fr g' L' h' m'' → News g' L' h' ((pa, listOf #[] 0) :: (ta, listOf #[] 0) :: TT) → s.toks ≤ tk' → TkOk tk' tt → (∀ p ∈ TT, @LT.lt Nat _ p.1 pa ∧ @LT.lt Nat _ p.1 ta) → @LT.lt Nat _ pa ta →
      m'' (Str.ofString "text") = some (.str ⟨#[]⟩ tt) → m'' (Str.ofString "pile") = some (.ref pa) → m'' (Str.ofString "tables") = some (.ref ta) → m'' (Str.ofString "turn") = some (.int 0 t0) → (∀ y, y ≠ Str.ofString "text" → y ≠ Str.ofString "pile" → y ≠ Str.ofString "tables" → y ≠ Str.ofString "turn" → m'' y = m' y) →
      Stop (wpAny (model Challenge.rw_wf0091_01.prog w) ((ktrTop dp un gd cn cs L a ccd cl outer).deeper (drEnv L')) (execs ((fnOfStm 78).2.1.drop 8) (drEnv L')) Qf E { s with heap := h', toks := tk' })) :
    wpAny (model Challenge.rw_wf0091_01.prog w) ((ktrTop dp un gd cn cs L a ccd cl outer).deeper (drEnv L')) (execs ((fnOfStm 78).2.1.drop 4) (drEnv L')) Qf E s := by
  with_reducible refine' execs_split (xs := [_, _, _, _]) (ys := (fnOfStm 78).2.1.drop 8) ?q_e ?q_go
  case q_e => exact rfl
  obtain ⟨H, gs, dr, tks, os⟩ := s
  dsimp only at F' N' htk hret
  revert F' N' htk hret
  revert B' X' T'
  k_fill
  intro B' X' T' F' N' htk hret
  wrow_steps
  rename News g' L' _ _ => kN
  rename Fr g' L' _ _ => kF
  rename _ < _ ∧ AllLt _ TT => l2
  rename ∀ p ∈ TT, _ => l1
  have hempty : Str.ofString "" = ⟨#[]⟩ := by decide +kernel
  refine' hret _ _ ?tt ?t0 _ _ _ kF (News.sub kN swap2) ?q_k ?q_t (fun p hp => ⟨l1 p hp, allLt_mem l2.2 p hp⟩) l2.1 ?q_1 ?q_2 ?q_3 ?q_4 ?q_5
  case q_1 => rw [← hempty]; with_unfolding_all rfl
  case q_2 => with_unfolding_all rfl
  case q_3 => with_unfolding_all rfl
  case q_4 => with_unfolding_all rfl
  case q_k => omega
  case q_t => exact (TkOk.above (n := tks) (by omega) (by dsimp only; omega)).mono (by dsimp only; omega)
  case q_5 =>
    intro y y1 y2 y3 y4
    simp only [if_neg y1, if_neg y2, if_neg y3, if_neg y4]
end
section
theorem drawn_body {w : World} {scr : Addr} {its : List Value} {ns : List Int} {T : List (Addr × Obj)} {tk0 : Nat} {oT oC : Obj} {v0 v1 : Option Value} (hI : IntsAre its ns) (hn : its.length ≤ 63) (h26 : 2600 ≤ tk0) (dC : oC.data = .cell v0) (dT : oT.data = .cell v1)
    (B' : Below (ktrTop dp un gd cn cs L a ccd cl outer) base (envX cn cs L a ccd cl :: outer) g') (F' : Fr g' L' s.heap m') (X' : (KK w.params).In g') (T'' : Top qv looseL mean mg mb g')
    (N' : News g' L' s.heap ([(L' + 1 + 1, oT), (L' + 1, oC)] ++ T)) (hscr' : g'.IsList scr its.toArray) (hLt : ∀ p ∈ T, @LT.lt Nat _ p.1 L')
    (hm0 : m' (Str.ofString "script") = some (.ref scr))
    (hks : cs.kind = .function) (hd60 : dp + 60 < recursionLimit) (hu4 : un + 400 < cLine) (e0 : tk0 ≤ s.toks) (hE : PassesOwn (model Challenge.rw_wf0091_01.prog w) ((ktrTop dp un gd cn cs L a ccd cl outer).deeper (drEnv L')) (drEnv L') E)
    (hret : ∀ r news' h' tk' m'', Fr g' L' h' m'' → News g' L' h' news' → s.toks ≤ tk' → DrawnPost (numsOf' ns) T r news' tk' → Qf (.ret r) { s with heap := h', toks := tk' }) :
    wpAny (model Challenge.rw_wf0091_01.prog w) ((ktrTop dp un gd cn cs L a ccd cl outer).deeper (drEnv L')) (execs (fnOfStm 78).2.1 (drEnv L')) Qf E s := by
  refine drawn_a (its := its) (ns := ns) (tk0 := tk0) (TT := [(L' + 1 + 1, oT), (L' + 1, oC)] ++ T) hI hn h26 B' F' X' T'' N' hscr' hm0 hks hd60 hu4 e0 ?_
  intro nl ys yn tl h1 tk1 F1 N1 hk1 hI1 hne1
  try dsimp only at hk1
  have e1 := Nat.le_trans e0 hk1
  refine ⟨?_⟩
  refine drawn_b (nl := nl) (ys := ys) (yn := yn) (tk0 := tk0) (TT := [(L' + 1 + 1, oT), (L' + 1, oC)] ++ T) hI1 (by rw [List.length_map, List.length_take]; omega) h26 B' F1 X' T'' (News.sub N1 ?q_s1) (by with_unfolding_all rfl) hks hd60 hu4 e1 ?q_b
  case q_s1 =>
    intro p hp
    rcases List.mem_cons.mp hp with rfl | hp
    · exact .head _
    · exact .tail _ (List.mem_append_right _ hp)
  case q_b =>
  intro nl' ys' tl2 h2 tk2 m2 F2 N2 hk2 hI2 hm2 hlt2
  try dsimp only at hk2
  have e2 := Nat.le_trans e1 hk2
  refine ⟨?_⟩
  have hnl1 : (L' : Nat) + 1 < nl' := hlt2 (L' + 1, oC) (.tail _ (.tail _ (.head _)))
  have hnl2 : (L' : Nat) + 1 + 1 < nl' := hlt2 (L' + 1 + 1, oT) (.tail _ (.head _))
  have N2' : News g' L' h2 ((L' + 1, oC) :: (L' + 1 + 1, oT) :: (nl', listOf ys'.toArray 0) :: T) := by
    refine News.sub N2 ?_
    intro p hp
    simp only [List.mem_cons, List.mem_append, List.not_mem_nil, or_false] at hp ⊢
    rcases hp with h | h | h | h <;> simp [h]
  have o2 : ∀ p ∈ (L' + 1 + 1, oT) :: (nl', listOf ys'.toArray 0) :: T, p.1 ≠ L' + 1 := by
    intro p hp
    simp only [List.mem_cons] at hp
    rcases hp with rfl | rfl | hp
    · exact Nat.ne_of_gt (Nat.lt_succ_self _)
    · exact Nat.ne_of_gt hnl1
    · exact Nat.ne_of_lt (Nat.lt_succ_of_lt (hLt p hp))
  with_reducible refine drawn_c (oC := oC) (tk0 := tk0) (TT := (L' + 1 + 1, oT) :: (nl', listOf ys'.toArray 0) :: T) dC h26 B' F2 X' T'' N2' o2 hks hd60 hu4 e2 ?q_c
  case q_c =>
  intro dc oC' tl3 h3 tk3 F3 N3 hk3 hdC hcs hlt3
  try dsimp only at hk3
  have e3 := Nat.le_trans e2 hk3
  refine ⟨?_⟩
  with_reducible refine drawn_d (tk0 := tk0) (TT := (L' + 1, oC') :: (tl3 ++ (L' + 1 + 1, oT) :: (nl', listOf ys'.toArray 0) :: T)) h26 B' F3 X' T'' N3 hks hd60 hu4 e3 ?_
  intro rl tl4 h4 tk4 F4 N4 hk4 hrl hlt4
  try dsimp only at hk4
  have e4 := Nat.le_trans e3 hk4
  refine ⟨?_⟩
  refine drawn_e (tk0 := tk4) (TT := tl4 ++ (L' + 1, oC') :: (tl3 ++ (L' + 1 + 1, oT) :: (nl', listOf ys'.toArray 0) :: T)) (Nat.le_trans h26 e4) B' F4 X' T'' N4 hks hd60 hu4 (Nat.le_refl _) ?_
  intro pa ta tt t0 h5 tk5 m5 F5 N5 hk5 htt hlt5 hpt g1 g2 g3 g4 g5
  try dsimp only at hk5
  have e5 := Nat.le_trans e4 hk5
  refine ⟨?_⟩
  have q1 := hlt5 (L' + 1, oC') (List.mem_append_right _ (.head _))
  have q2 := hlt5 (L' + 1 + 1, oT) (List.mem_append_right _ (.tail _ (List.mem_append_right _ (.head _))))
  dsimp only at q1 q2
  have off : ∀ p ∈ tl4 ++ (tl3 ++ (nl', listOf ys'.toArray 0) :: T), @Ne Nat p.1 pa ∧ @Ne Nat p.1 ta ∧ @Ne Nat p.1 (L' + 1 + 1) ∧ @Ne Nat p.1 (L' + 1) := by
    intro p hp
    have hq := hlt5 p (by
      simp only [List.mem_append, List.mem_cons] at hp ⊢
      rcases hp with h | h | h | h <;> simp [h])
    refine ⟨Nat.ne_of_lt hq.1, Nat.ne_of_lt hq.2, ?_⟩
    simp only [List.mem_append, List.mem_cons] at hp
    rcases hp with hp | hp | rfl | hp
    · have a1 := hlt4 p hp (L' + 1 + 1, oT) (.tail _ (List.mem_append_right _ (.head _)))
      have a2 := hlt4 p hp (L' + 1, oC') (.head _)
      exact ⟨Nat.ne_of_gt a1, Nat.ne_of_gt a2⟩
    · have a1 := hlt3 p hp
      exact ⟨Nat.ne_of_gt (a1.2 (L' + 1 + 1, oT) (.head _)), Nat.ne_of_gt a1.1⟩
    · exact ⟨Nat.ne_of_gt hnl2, Nat.ne_of_gt hnl1⟩
    · have a1 : @LT.lt Nat _ p.1 L' := hLt p hp
      exact ⟨by omega, by omega⟩
  have hI2' : IntsAre ys' (numsOf' ns) := hI2
  have hnlm : (nl', listOf ys'.toArray 0) ∈ tl4 ++ (tl3 ++ (nl', listOf ys'.toArray 0) :: T) := List.mem_append_right _ (List.mem_append_right _ (.head _))
  with_reducible refine draw_loop (pn := 0) (tn := 0) (nl := nl') (rl := rl) (pa := pa) (ta := ta) (ys := ys') (yn := 0) (tk0 := tk5) (tt := tt) (t0 := t0) (oT := oT) (oC := oC') (dc := dc) (TT := tl4 ++ (tl3 ++ (nl', listOf ys'.toArray 0) :: T)) (T := T) (nums := numsOf' ns) (nums_len ns) (nums_bound ns) hI2' (Nat.le_trans h26 e5) dT hdC (hcs.mono fun p hp => List.mem_append_right _ (List.mem_append_left _ hp)) ?q_1 hnlm htt ?q_2 ?q_3 ?q_4 ?q_5 ?q_6 off ?q_7 B' F5 X' T'' (News.sub N5 ?q_8) ?q_9 ?q_a g2 g3 g1 g4 hks hd60 hu4 (Nat.le_refl _) ?q_b ?q_c
  case q_1 => exact hrl.mono (fun p hp => List.mem_append_left _ hp) hk5
  case q_2 => exact Nat.ne_of_lt hpt
  case q_3 => exact Nat.ne_of_gt q2.1
  case q_4 => exact Nat.ne_of_gt q1.1
  case q_5 => exact Nat.ne_of_gt q2.2
  case q_6 => exact Nat.ne_of_gt q1.2
  case q_7 => exact fun p hp => List.mem_append_right _ (List.mem_append_right _ (.tail _ hp))
  case q_8 =>
    intro p hp
    simp only [List.mem_append, List.mem_cons] at hp ⊢
    rcases hp with h | h | h | h | h | h | h | h <;> simp [h]
  case q_9 => rw [g5 _ (by decide) (by decide) (by decide) (by decide)]; subst hm2; with_unfolding_all rfl
  case q_a => rw [g5 _ (by decide) (by decide) (by decide) (by decide)]; with_unfolding_all rfl
  case q_b => exact hE
  case q_c =>
    intro r news' h9 tk9 m'' F9 N9 hl9 hp9
    (try dsimp only at hl9)
    exact hret r news' h9 tk9 m'' F9 N9 (Nat.le_trans hk1 (Nat.le_trans hk2 (Nat.le_trans hk3 (Nat.le_trans hk4 (Nat.le_trans hk5 hl9))))) hp9
theorem drawn_con {w : World} {scr : Addr} {its : List Value} {ns : List Int} {T : List (Addr × Obj)} {tk0 : Nat} (hI : IntsAre its ns) (hn : its.length ≤ 63) (h26 : 2600 ≤ tk0) :
    ConS w scr its 226 [.ref scr] 70 900 tk0 T (DrawnPost (numsOf' ns) T) := by
  unfold ConS
  k_fill
  intro mean mg mb dp un gd cn cs a ccd cl outer A₀ base h₀ L m s Q E B F X N T' hks hdp hun htk hscr hret
  refine wpAny_with_toks (Nat.le_refl _) ?_
  refine wpAny_call ?_
  refine def_cells (name := Str.ofString "_law_drawn") (params := (fnOfStm 78).1) (body := (fnOfStm 78).2.1) (scope := (fnOfStm 78).2.2) (cdv := .ref 225) (binds := [(Str.ofString "script", .ref scr)]) B F X N T' hks rfl rfl (by k_is) (by ktr_room) (BindsTo.of_eq rfl) (by kernel_rfl) (by decide) ?_ rfl rfl rfl
  intro g' L' h' tk9 cells htk9 FG' F' N' C' B' hst X' T'' hLt
  obtain ⟨oT, oC, rfl, dT, dC⟩ := CellsAre.two C'
  obtain ⟨v1, dT⟩ : ∃ v, oT.data = .cell v := ⟨_, dT⟩
  obtain ⟨v0, dC⟩ : ∃ v, oC.data = .cell v := ⟨_, dC⟩
  clear C'
  have hd60 : dp + 60 < recursionLimit := Nat.lt_of_le_of_lt (Nat.add_le_add_left (by decide) _) hdp
  have hu4 : un + 400 < cLine := Nat.lt_of_le_of_lt (Nat.add_le_add_left (by decide) _) hun
  have e0 : tk0 ≤ tk9 := Nat.le_trans htk htk9
  have hscr' : g'.IsList scr its.toArray := (by obtain ⟨o, e, r⟩ := hscr; exact ⟨o, hst _ _ e, r⟩)
  refine drawn_body (its := its) (ns := ns) (T := T) (tk0 := tk0) hI hn h26 dC dT B' F' X' T'' N' hscr' hLt (by with_unfolding_all rfl) hks hd60 hu4 e0 (by passes_own) ?_
  intro r news' h9 tk9 m'' F9 N9 hl9 hp9
  (try dsimp only at hl9)
  wrow_steps
  rename News h₀ L _ _ => kN
  rename Fr h₀ L _ _ => kF
  exact hret _ _ _ _ kF kN (Nat.le_trans htk9 hl9) hp9
end
section
section
variable {R : WRecords} {cl : Str → Option Addr} {P : Params} {ord : List DictEntry → List DictEntry}
mutual
theorem lay_toks : ∀ (x : WData) (s : Shared) (r : Value × Shared), layW R cl P ord x s = some r → s.toks ≤ r.2.toks
  | .none, s, r, h => by simp only [layW, Option.some.injEq] at h; subst h; exact Nat.le_refl _
  | .bool b, s, r, h => by simp only [layW, Option.some.injEq] at h; subst h; exact Nat.le_refl _
  | .int i, s, r, h => by simp only [layW, Option.some.injEq] at h; subst h; exact Nat.le_succ _
  | .str i, s, r, h => by simp only [layW, Option.some.injEq] at h; subst h; exact Nat.le_succ _
  | .float i, s, r, h => by simp only [layW, Option.some.injEq] at h; subst h; exact Nat.le_succ _
  | .bytes i, s, r, h => by simp only [layW, Option.some.injEq] at h; subst h; exact Nat.le_succ _
  | .bytearray i, s, r, h => by simp only [layW, Option.some.injEq] at h; subst h; exact Nat.le_refl _
  | .list xs, s, r, h => by
    simp only [layW] at h
    split at h
    · rename_i q hq
      simp only [Option.some.injEq] at h; subst h
      exact lay_toks_all xs s q hq
    · cases h
  | .tuple xs, s, r, h => by
    simp only [layW] at h
    split at h
    · rename_i q hq
      simp only [Option.some.injEq] at h; subst h
      exact lay_toks_all xs s q hq
    · cases h
  | .dict xs, s, r, h => by
    simp only [layW] at h
    split at h
    · rename_i q hq
      simp only [Option.some.injEq] at h; subst h
      exact lay_toks_kv xs s q hq
    · cases h
  | .set xs, s, r, h => by
    simp only [layW] at h
    split at h
    · rename_i q hq
      simp only [Option.some.injEq] at h; subst h
      exact lay_toks_el xs s q hq
    · cases h
  | .frozenset xs, s, r, h => by
    simp only [layW] at h
    split at h
    · rename_i q hq
      simp only [Option.some.injEq] at h; subst h
      exact lay_toks_el xs s q hq
    · cases h
  | .obj c xs, s, r, h => by
    simp only [layW] at h
    split at h
    · split at h
      · split at h
        · split at h
          · rename_i q hq
            simp only [Option.some.injEq] at h; subst h
            exact lay_toks_f xs s q hq
          · cases h
        · cases h
      · cases h
    · cases h
theorem lay_toks_all : ∀ (xs : List WData) (s : Shared) (r : List Value × Shared), layAllW R cl P ord xs s = some r → s.toks ≤ r.2.toks
  | [], s, r, h => by simp only [layAllW, Option.some.injEq] at h; subst h; exact Nat.le_refl _
  | x :: xs, s, r, h => by
    simp only [layAllW] at h
    split at h
    · rename_i q hq
      split at h
      · rename_i q2 hq2
        simp only [Option.some.injEq] at h; subst h
        exact Nat.le_trans (lay_toks x s q hq) (lay_toks_all xs q.2 q2 hq2)
      · cases h
    · cases h
theorem lay_toks_kv : ∀ (xs : List (WData × WData)) (s : Shared) (r : List DictEntry × Shared), layKvW R cl P ord xs s = some r → s.toks ≤ r.2.toks
  | [], s, r, h => by simp only [layKvW, Option.some.injEq] at h; subst h; exact Nat.le_refl _
  | (k, v) :: xs, s, r, h => by
    simp only [layKvW] at h
    split at h
    · rename_i q hq
      split at h
      · rename_i q1 hq1
        split at h
        · rename_i q2 hq2
          simp only [Option.some.injEq] at h; subst h
          exact Nat.le_trans (lay_toks k s q hq) (Nat.le_trans (lay_toks v q.2 q1 hq1) (lay_toks_kv xs q1.2 q2 hq2))
        · cases h
      · cases h
    · cases h
theorem lay_toks_el : ∀ (xs : List WData) (s : Shared) (r : List DictEntry × Shared), layElemsW R cl P ord xs s = some r → s.toks ≤ r.2.toks
  | [], s, r, h => by simp only [layElemsW, Option.some.injEq] at h; subst h; exact Nat.le_refl _
  | x :: xs, s, r, h => by
    simp only [layElemsW] at h
    split at h
    · rename_i q hq
      split at h
      · rename_i q2 hq2
        simp only [Option.some.injEq] at h; subst h
        exact Nat.le_trans (lay_toks x s q hq) (lay_toks_el xs q.2 q2 hq2)
      · cases h
    · cases h
theorem lay_toks_f : ∀ (xs : List (Str × WData)) (s : Shared) (r : List DictEntry × Shared), layFieldsW R cl P ord xs s = some r → s.toks ≤ r.2.toks
  | [], s, r, h => by simp only [layFieldsW, Option.some.injEq] at h; subst h; exact Nat.le_refl _
  | (k, v) :: xs, s, r, h => by
    simp only [layFieldsW] at h
    split at h
    · rename_i q hq
      split at h
      · rename_i q2 hq2
        simp only [Option.some.injEq] at h; subst h
        have h1 := lay_toks v { s with toks := s.toks + 1 } q hq
        exact Nat.le_trans (Nat.le_succ _) (Nat.le_trans h1 (lay_toks_f xs q.2 q2 hq2))
      · cases h
    · cases h
end
end
noncomputable def WalkT (tk : Nat) (q : Program) (loose : List Str) (XP : (Str → Option Value) → Heap → Prop) (YP : World → Heap → Prop) (r : RowW) (d : DefRec) (kwd : List (Str × Expr)) (run : Value → List Value → Sem Value) : Prop :=
  ∀ (w : World) (s₀ s₁ : Shared) (mg mb : Str → Option Value), tk ≤ s₁.toks → Ground q loose r.records XP w s₀ mg mb s₁.heap → YP w s₁.heap → ∀ (a : Addr) (o : Obj) (pm cd doc dV kV : Value), s₁.heap.get? a = some o →
    o.data = .func { Calls.docDef d.name d.params d.body d.scope pm cd doc with defaults := dV, kwdefaults := kV } → s₁.heap.CodeRec cd d.name → Dflts mg s₁.heap d.params kwd dV kV → mg d.name = some (.ref a) → s₁.gens = #[] →
    ∀ (args : List WData) (vals : List Value) (as : List Addr), r.claim.pre args = true → WData.layableAll args = true → ReadsAllW r.records (classAt s₀.heap) s₁.heap vals args as → WellAll w.params s₁.heap vals args → (∀ a ∈ as, (a == sysModules) = false) →
      wpAny (model r.prog w) callerA (run (.ref a) vals) (fun v s' => GoodWG r.claim (classAt s₀.heap) (ExcName.means s₀.heap) args s₁ (.ok (.ret v)) s')
        (fun e s' => GoodWG r.claim (classAt s₀.heap) (ExcName.means s₀.heap) args s₁ (.error e) s') s₁
theorem holds_T {r : OpenRow} {q : Program} {loose : List Str} {Xt : Shared → Bool} {XP : (Str → Option Value) → Heap → Prop} {α : Type} {Yf : Shared → α} {Ya : World → α} {YP : World → Heap → Prop} {d : DefRec} {kwd : List (Str × Expr)} {N tk : Nat}
    (left : LeftO r.prog q loose Xt Yf Ya N) (hY : ∀ w s, Yf s = Ya w → YP w s.heap ∧ tk ≤ s.toks) (hYk : ∀ w h h', YP w h → (∀ b o, h.get? b = some o → h'.get? b = some o) → YP w h')
    (hX : ∀ s, Xt s = true → XP (s.heap.nsMap mainGlobals) s.heap) (hXk : ∀ mg h h', XP mg h → (∀ b o, h.get? b = some o → h'.get? b = some o) → XP mg h')
    (hdef : defOf q r.name = some (d, kwd)) (hp : r.prog.theDef r.name = some (d.params, d.body, d.scope)) (hk : kwWritten? d.params.kwonlyargs d.params.kw_defaults = some kwd) (hRf : ∀ s, Xt s = true → RecFacts r.records s.heap) (hwr : (!r.writes || r.records.isEmpty) = true)
    (k1 : r.wellSaid = true) (hch : chainsOk q = true) (o1 : opensWell r.prog = true) (k5 : frees r.toRowW = true) (k6 : r.within.isEmpty = true) (hb : r.prog.bare) (hw : r.toRowW.promised)
    (call : WalkT tk q loose XP YP r.toRowW d kwd fun f vs => PySem.call f vs) : r.Holds := by
  obtain ⟨e1, e2, e3, e4, e5⟩ := frees_parts k5
  have left' := fun w => left.behind (XP := fun mg h => XP mg h ∧ RecFacts r.records h) (fun s hs => ⟨hX s hs, hRf s hs⟩) hch w
  refine ⟨k1, hw, ⟨hb, o1, by show r.toRowW.makers.map _ = []; rw [e5]; rfl⟩, hw.witness, fun w => ⟨(left' w).1, fun s' hs' => ?_⟩⟩
  obtain ⟨s₀, hf, hg0, s, hT, hz, hgens, hg, G00, y⟩ := (left' w).2 s' hs'
  obtain ⟨y1, y2⟩ := hY w s y
  have G0 : Ground q loose [] XP w s (s.heap.nsMap mainGlobals) (s.heap.nsMap builtinsNs) s.heap := ⟨G00.T, G00.B, G00.D, G00.TE, G00.TD, G00.W, G00.X.1, G00.cls, G00.has, G00.apart, G00.once, G00.K⟩
  have RF := G00.X.2
  have G : Ground q loose r.records XP w s _ _ s.heap := RF.ground G0
  have pin : ∀ n ∈ (if r.pinned then [r.name] else []), isTheDefsW r.prog s.heap n := fun n hn => by
    obtain rfl : n = r.name := by split at hn <;> simp_all
    exact pinned_of_view hg G0 hdef hp hk
  have gens0 : s.gens = #[] := Array.eq_empty_of_size_eq_zero (beq_iff_eq.mp hgens)
  refine ⟨s₀, hf, hg0, s, hT, pin, RF.1, RF.2.1, ClaimW.callFrom_of_specG (c := r.toRowW.claim) hz gens0 fun args hpre hlay ord hord => ?_⟩
  obtain ⟨⟨vs, s₁⟩, hlaid⟩ := Option.isSome_iff_exists.mp (layAllW_isSome (P := w.params) (ord := ord) G.has args r.toRowW.args s (pre_splitW hpre).1)
  have keeps := layAllW_keeps _ _ _ hlaid
  have hal := layAllW_rest _ _ _ hlaid
  obtain ⟨as, hrd, hin, hold⟩ := reads_layAllW hord _ _ _ hlaid hlay s₁.heap (fun _ _ e => e)
  have L : Laid r.records w s s₁ args vs as := ⟨⟨ord, hord, hlaid⟩, hrd, hin, hold, keeps, hal.1.trans gens0, hal.2.2.1⟩
  have G₁ := G.keeps hXk keeps
  obtain ⟨a, o, pm, cd, doc, dV, kV, h1, h2, h3, h4, h5⟩ := G₁.fn hdef
  have run := call w s s₁ _ _ (Nat.le_trans y2 (lay_toks_all _ _ _ hlaid)) G₁ (hYk _ _ _ y1 keeps) a o pm cd doc dV kV h2 h3 h4 h5 (defOf_name hdef ▸ h1) L.gens args vs as hpre hlay L.reads L.well (L.low G.low)
  have hi := ident_freeW e2 e3 e4
  have hwi : r.toRowW.claim.within = [] := List.isEmpty_iff.mp k6
  exact ⟨vs, s₁, hlaid, wpAny_bind (wpAny_nsGet G₁.T.g (by
    rw [h1]
    refine wpAny_bind (wpAny_mono run (fun v s' g => wpAny_pure ⟨_, rfl, ?_⟩) fun e s' g => ?_)
    · have z := g.laid (c := r.toRowW.claim) e1 hwi hi L
      exact ⟨z.1, z.2.1, z.2.2, fun q => ⟨namesKept_of hT hg r.keeps keeps g.2.1.old, noTable hwr q⟩⟩
    · have z := g.laid (c := r.toRowW.claim) e1 hwi hi L
      exact ⟨z.1, z.2.1, z.2.2, fun q => ⟨namesKept_of hT hg r.keeps keeps g.2.1.old, noTable hwr q⟩⟩))⟩
end
section
set_option maxRecDepth 1000000 in
theorem loose_all : ((looseW qv looseL).all fun x => looseL.contains x) = true := by kernel_rfl
theorem loose_sub : ∀ x ∈ looseW qv looseL, x ∈ looseL := by
  have := loose_all
  intro x hx
  exact List.contains_iff_mem.mp (List.all_eq_true.mp this x hx)
set_option maxRecDepth 1000000 in
theorem no_cls : (clssOf qv (looseW qv looseL)).length = 0 := by kernel_rfl
theorem top_loose {mean : ExcName → Option Value} {mg mb : Str → Option Value} {h : Heap} (T : Top qv (looseW qv looseL) mean mg mb h) : Top qv looseL mean mg mb h := by
  refine ⟨T.g, T.b, T.nolimit, T.nodigits, T.fn, T.own, T.const, ?_, T.builtins, T.tab, T.bmain, T.seer⟩
  intro x h1 h2 h3 h4 _
  refine T.free x h1 (fun hx => h2 (loose_sub x hx)) h3 h4 (fun hm => ?_)
  obtain ⟨c, hc, _⟩ := List.mem_map.mp hm
  have e : clssOf qv (looseW qv looseL) = [] := List.eq_nil_of_length_eq_zero no_cls
  rw [e] at hc
  cases hc
noncomputable def clean (as : List Addr) (X : List (Addr × Obj)) : List (Addr × Obj) := X.filter fun p => decide (p.1 ∉ as)
theorem clean_mem {as : List Addr} {X : List (Addr × Obj)} {p : Addr × Obj} : p ∈ clean as X ↔ p ∈ X ∧ p.1 ∉ as := by
  unfold clean
  rw [List.mem_filter, decide_eq_true_iff]
noncomputable def Cells (Cs : List (Addr × Obj)) : Prop := ∀ p ∈ Cs, ∃ v, p.2.data = .cell v
theorem News.same {h₀ h : Heap} {L : Addr} {X : List (Addr × Obj)} (N : News h₀ L h X) {p q : Addr × Obj} (hp : p ∈ X) (hq : q ∈ X) (e : p.1 = q.1) : p.2 = q.2 := by
  have h1 := (N p hp).1
  have h2 := (N q hq).1
  rw [e, h2] at h1
  exact (Option.some.inj h1).symm
theorem clean_or {h₀ h : Heap} {L : Addr} {X Cs : List (Addr × Obj)} (N : News h₀ L h X) (hC : Cells Cs) (hs : ∀ p ∈ Cs, p ∈ X) : ∀ p ∈ X, p ∈ clean (Cs.map (·.1)) X ∨ ∃ v, p.2.data = .cell v := by
  intro p hp
  by_cases h : p.1 ∈ Cs.map (·.1)
  · obtain ⟨c, hc, e⟩ := List.mem_map.mp h
    obtain ⟨v, hv⟩ := hC c hc
    exact .inr ⟨v, by rw [← News.same N (hs c hc) hp e]; exact hv⟩
  · exact .inl (clean_mem.mpr ⟨hp, h⟩)
theorem clean_obj {h₀ h : Heap} {L : Addr} {X Cs : List (Addr × Obj)} (N : News h₀ L h X) (hC : Cells Cs) (hs : ∀ p ∈ Cs, p ∈ X) {a : Addr} {xs : Array Value} {n : Nat} {o : Obj} (ho : o.data = .seq xs n) (hm : (a, o) ∈ X) : (a, o) ∈ clean (Cs.map (·.1)) X := by
  rcases clean_or N hC hs _ hm with h | ⟨v, hv⟩
  · exact h
  · rw [ho] at hv; cases hv
theorem TabsIn.clean {h₀ h : Heap} {L : Addr} {X Cs : List (Addr × Obj)} (N : News h₀ L h X) (hC : Cells Cs) (hs : ∀ p ∈ Cs, p ∈ X) {vs : List Value} {tbs : List (List Int)} (h : TabsIn X vs tbs) : TabsIn (clean (Cs.map (·.1)) X) vs tbs :=
  ⟨h.1, fun i v tb h1 h2 => by
    obtain ⟨a, n, ps, e, hm, hp⟩ := h.2 i v tb h1 h2
    exact ⟨a, n, ps, e, clean_obj N hC hs rfl hm, hp⟩⟩
theorem RowsIn.clean {h₀ h : Heap} {L : Addr} {X Y Cs : List (Addr × Obj)} (N : News h₀ L h X) (hC : Cells Cs) (hs : ∀ p ∈ Cs, p ∈ X) {f : Nat → Int} {tk : Nat} {vs : List Value} {rows : List Row} (h : RowsIn f tk Y vs rows) (hY : ∀ p ∈ Y, p ∈ X) : RowsIn f tk (clean (Cs.map (·.1)) X) vs rows :=
  ⟨h.1, fun i v r h1 h2 => by
    obtain ⟨a, n, ps, e, hm, r1, r2⟩ := h.2 i v r h1 h2
    exact ⟨a, n, ps, e, clean_obj N hC hs rfl (hY _ hm), r1, r2⟩⟩
noncomputable abbrev lwEnv (L' fa : Addr) (cd : Value) : Env := envOfC (Str.ofString "law") (fnOfStm 83).2.2 L' fa cd
theorem conS_use {w : World} {scr : Addr} {its : List Value} {f : Addr} {vs : List Value} {dn un0 tk0 : Nat} {news : List (Addr × Obj)} {post : Value → List (Addr × Obj) → Nat → Prop} {mean : ExcName → Option Value} {mg mb : Str → Option Value} {dp un : Nat} {gd : Option (List Code)} {cn : Str} {cs : Scope} {a : Addr} {ccd : Value} {cl : List (Str × Addr)} {outer : List Env} {A₀ : Around} {base h₀ : Heap} {L : Addr} {m : Str → Option Value} {s : Shared} {Q E : Value → Shared → Prop}
    (B : Below A₀ base outer h₀) (F : Fr h₀ L s.heap m) (X : (KK w.params).In h₀) (T : Top qv looseL mean mg mb h₀) (hk : cs.kind = .function) (C : ConS w scr its f vs dn un0 tk0 news post) (N : News h₀ L s.heap news) (hd : dp + dn < recursionLimit) (hu : un + un0 < cLine) (htk : tk0 ≤ s.toks) (hs : h₀.IsList scr its.toArray)
    (ret : ∀ r news' h' tk', Fr h₀ L h' m → News h₀ L h' news' → s.toks ≤ tk' → post r news' tk' → Q r { s with heap := h', toks := tk' }) :
    wpAny (model Challenge.rw_wf0091_01.prog w) (ktrTop dp un gd cn cs L a ccd cl outer) (call (.ref f) vs) Q E s := C _ _ _ _ _ _ _ _ _ _ _ _ _ _ _ _ _ _ _ _ B F X N T hk hd hu htk hs ret
local macro_rules | `(tactic| walk_at "call ref") => `(tactic| (k_here; (with_reducible refine Stop.out ?_)))
theorem law_1 {w : World} {scr : Addr} {its : List Value} {ns : List Int} {tk0 : Nat} {oTa : Obj} {v0 : Option Value} {Cs : List (Addr × Obj)} (hi : IntsAre its ns) (hn : its.length ≤ 63) (h26 : 2600 ≤ tk0) (hoTa : oTa.data = .cell v0)
    {base g' : Heap} {L' fa : Addr} {cd : Value} {s : Shared} {mean : ExcName → Option Value} {mg mb m' : Str → Option Value} {Qf : Flow → Shared → Prop} {E : Value → Shared → Prop}
    (B' : Below callerA base [] g') (F' : Fr g' L' s.heap m') (X' : (KK w.params).In g') (T' : Top qv looseL mean mg mb g')
    (N' : News g' L' s.heap ((L' + 1, oTa) :: Cs)) (hC : Cells ((L' + 1, oTa) :: Cs)) (hcT : ∀ p ∈ Cs, p.1 ≠ L' + 1) (hscr : g'.IsList scr its.toArray)
    (hm1 : m' (Str.ofString "script") = some (.ref scr)) (htk : tk0 ≤ s.toks)
    (hret : ∀ turn d ta tn ts tt oTa' R h' tk' m'', DRun (numsOf' ns) turn d → 6 ≤ turn → turn ≤ 12 → Fr g' L' h' m'' → News g' L' h' ((L' + 1, oTa') :: (Cs ++ R)) → (∀ p ∈ R, p.1 ∉ ((L' + 1, oTa) :: Cs).map (·.1)) → s.toks ≤ tk' → oTa'.data = .cell (some (.ref ta)) → (ta, listOf ts.toArray tn) ∈ R → TabsIn R ts d.tables → TkOk tk' tt → m'' (Str.ofString "text") = some (.str d.text tt) →
      Stop (wpAny (model Challenge.rw_wf0091_01.prog w) (callerA.deeper (lwEnv L' fa cd)) (execs ((fnOfStm 83).2.1.drop 1) (lwEnv L' fa cd)) Qf E { s with heap := h', toks := tk' })) :
    wpAny (model Challenge.rw_wf0091_01.prog w) (callerA.deeper (lwEnv L' fa cd)) (execs (fnOfStm 83).2.1 (lwEnv L' fa cd)) Qf E s := by
  with_reducible refine' execs_split (xs := [_]) (ys := (fnOfStm 83).2.1.drop 1) ?q_e ?q_go
  case q_e => exact rfl
  obtain ⟨H, gs, dr, tks, os⟩ := s
  dsimp only at F' N' htk hret
  revert F' N' htk hret
  revert B' X' T'
  k_fill
  intro B' X' T' F' N' htk hret
  wrow_steps
  refine ⟨?_⟩
  rename News g' L' _ _ => kN
  rename Fr g' L' _ _ => kF
  rename tks ≤ _ => htk1
  with_unfolding_all refine' conS_use (tk0 := tk0) (un0 := 900) (dn := 70) ?q_B ?q_F ?q_X ?q_T ?q_k (drawn_con (its := its) (ns := ns) hi hn h26) ?q_N ?q_hd ?q_hu ?q_tk ?q_s ?_
  case q_B | q_F | q_X | q_T => k_asm
  case q_k => rfl
  case q_N => exact kN
  case q_hd => (first | ktr_room | decide)
  case q_hu => (first | ktr_units | decide)
  case q_tk => dsimp only; omega
  case q_s => exact hscr
  intro v9 news9 h9 tk9 F9 N9 hl9 hp9
  (try dsimp only at hl9)
  obtain ⟨turn, d, D, ta, n, tn, ts, tt, tl, hd, ht6, ht12, rfl, rfl, hS, htt⟩ := hp9
  clear kN kF
  have hCs : ∀ p ∈ (L' + 1, oTa) :: Cs, p ∈ (D, tupO [.str d.text tt, .ref ta] n) :: (ta, listOf ts.toArray tn) :: (tl ++ (L' + 1, oTa) :: Cs) := fun p hp => .tail _ (.tail _ (List.mem_append_right _ hp))
  have hS2 : TabsIn (clean (((L' + 1, oTa) :: Cs).map (·.1)) _) ts d.tables := TabsIn.clean N9 hC hCs (hS.mono fun p hp => .tail _ (.tail _ hp))
  have hDm := clean_obj N9 hC hCs (a := D) (o := tupO [.str d.text tt, .ref ta] n) rfl (.head _)
  have htm := clean_obj N9 hC hCs (a := ta) (o := listOf ts.toArray tn) rfl (.tail _ (.head _))
  have hoff : ∀ p ∈ clean (((L' + 1, oTa) :: Cs).map (·.1)) ((D, tupO [.str d.text tt, .ref ta] n) :: (ta, listOf ts.toArray tn) :: (tl ++ (L' + 1, oTa) :: Cs)), p.1 ∉ ((L' + 1, oTa) :: Cs).map (·.1) := fun p hp => (clean_mem.mp hp).2
  have N8 : News g' L' h9 ((L' + 1, oTa) :: (Cs ++ clean (((L' + 1, oTa) :: Cs).map (·.1)) ((D, tupO [.str d.text tt, .ref ta] n) :: (ta, listOf ts.toArray tn) :: (tl ++ (L' + 1, oTa) :: Cs)))) := by
    refine News.sub N9 fun p hp => ?_
    rcases List.mem_cons.mp hp with rfl | hp
    · exact hCs _ (.head _)
    · rcases List.mem_append.mp hp with hp | hp
      · exact hCs _ (.tail _ hp)
      · exact (clean_mem.mp hp).1
  clear N9
  generalize clean (((L' + 1, oTa) :: Cs).map (·.1)) ((D, tupO [.str d.text tt, .ref ta] n) :: (ta, listOf ts.toArray tn) :: (tl ++ (L' + 1, oTa) :: Cs)) = R at hS2 hDm htm hoff N8
  have hTT : ∀ p ∈ Cs ++ R, p.1 ≠ L' + 1 := by
    intro p hp
    rcases List.mem_append.mp hp with hp | hp
    · exact hcT p hp
    · exact fun e => hoff p hp (by rw [e]; exact .head _)
  have hDm' : (D, tupO [.str d.text tt, .ref ta] n) ∈ (L' + 1, oTa) :: (Cs ++ R) := .tail _ (List.mem_append_right _ hDm)
  generalize hTe : Cs ++ R = TT at N8 hTT hDm'
  clear hCs hS
  wrow_steps
  rename News g' L' _ _ => kN
  rename Fr g' L' _ _ => kF
  rename Obj.data _ = Data.cell (some (Value.ref ta)) => hdc
  refine hret turn d ta tn ts tt _ R _ _ _ hd ht6 ht12 kF (hTe ▸ kN) hoff (by omega) hdc htm hS2 (htt.mono (by omega)) ?_
  with_unfolding_all rfl
end
section
theorem idx_ne {α : Type} [BEq α] [LawfulBEq α] {a : α} : ∀ {l : List α} {j : Nat}, j < l.idxOf a → l[j]? ≠ some a
  | [], j, h => by simp at h
  | x :: l, 0, h => by
    intro e
    obtain rfl : x = a := by simpa using e
    simp at h
  | x :: l, j + 1, h => by
    rw [List.idxOf_cons] at h
    rw [List.getElem?_cons_succ]
    cases hx : x == a with
    | true => rw [hx] at h; simp at h
    | false => rw [hx] at h; exact idx_ne (Nat.lt_of_succ_lt_succ (by simpa using h))
section
variable {prog : Program} {w : World} {A : Around} {E : Value → Shared → Prop} {s : Shared}
open PySem.SeqAt
theorem isList_at {h : Heap} {a : Addr} {vs : List Value} {n : Nat} (hm : h.get? a = some (listOf vs.toArray n)) : h.IsList a vs.toArray := ⟨_, hm, rfl, n, rfl⟩
theorem all_ints (ps qs : List (Int × Tok)) (hl : ps.length = qs.length) : ((List.range (ps.map intV).toArray.size).all fun j => decide ((ps.map (·.1)).getD j 0 = (qs.map (·.1)).getD j 0)) = decide (ps.map (·.1) = qs.map (·.1)) := by
  have hsz : (ps.map intV).toArray.size = ps.length := by simp
  rw [hsz]
  apply Bool.eq_iff_iff.mpr
  rw [List.all_eq_true, decide_eq_true_iff]
  constructor
  · intro h
    apply List.ext_getElem?
    intro j
    rw [List.getElem?_map, List.getElem?_map]
    by_cases hj : j < ps.length
    · have := h j (List.mem_range.mpr hj)
      rw [decide_eq_true_iff] at this
      rw [List.getElem?_eq_getElem hj, List.getElem?_eq_getElem (hl ▸ hj)]
      simpa [List.getD_eq_getElem?_getD, hj, hl ▸ hj] using this
    · rw [List.getElem?_eq_none (by omega), List.getElem?_eq_none (by omega)]
  · intro h j _
    rw [h]; simp
theorem tabs_eqAt {a b : Addr} {n m : Nat} {ps qs : List (Int × Tok)} (ha : s.heap.get? a = some (listOf (ps.map intV).toArray n)) (hb : s.heap.get? b = some (listOf (qs.map intV).toArray m)) (hu : A.units < cLine) : EqAt A s (.ref a) (.ref b) (decide (ps.map (·.1) = qs.map (·.1))) := by
  by_cases hab : a = b
  · subst hab
    have e : ps.map intV = qs.map intV := by
      rw [ha] at hb
      have := congrArg Obj.data (Option.some.inj hb)
      simp only [Data.seq.injEq] at this
      simpa using this.1
    have e2 : ps.map (·.1) = qs.map (·.1) := by
      have := congrArg (List.map fun | Value.int i _ => i | _ => 0) e
      simpa [List.map_map, Function.comp_def, intV] using this
    rw [decide_eq_true e2]
    exact EqAt.same _
  · refine EqAt.of_refs hab ?_
    by_cases hl : ps.length = qs.length
    · rw [← all_ints ps qs hl]
      refine RcAt.lists (isList_at ha) (isList_at hb) (by simpa using hl) hu fun j h1 h2 => ?_
      have j1 : j < ps.length := by simpa using h1
      have j2 : j < qs.length := by simpa using h2
      have := EqAt.int_int (A := A.in1) (s := s) ps[j].1 ps[j].2 qs[j].1 qs[j].2
      have e : (ps[j].1 == qs[j].1) = decide ((ps.map (·.1)).getD j 0 = (qs.map (·.1)).getD j 0) := by
        simp [List.getD_eq_getElem?_getD, j1, j2]; rfl
      rw [← e]
      simpa [intV] using this
    · rw [decide_eq_false (fun h => hl (by simpa using congrArg List.length h))]
      exact RcAt.lists_lengths (isList_at ha) (isList_at hb) (by simpa using hl) hu
theorem tabs_ne {a b : Addr} {n m : Nat} {ps qs : List (Int × Tok)} {Q : Value → Shared → Prop} (ha : s.heap.get? a = some (listOf (ps.map intV).toArray n)) (hb : s.heap.get? b = some (listOf (qs.map intV).toArray m)) (hu : A.units < cLine)
    (h : Q (.bool (!decide (ps.map (·.1) = qs.map (·.1)))) s) : wpAny (model prog w) A (compareOp .NotEq (.ref a) (.ref b)) Q E s := by
  by_cases hl : ps.length = qs.length
  · refine RcNeAt.lists (e := fun j => decide ((ps.map (·.1)).getD j 0 = (qs.map (·.1)).getD j 0)) (isList_at ha) (isList_at hb) (by simpa using hl) hu (fun j h1 h2 => ?_) prog w E Q ?_
    · have j1 : j < ps.length := by simpa using h1
      have j2 : j < qs.length := by simpa using h2
      have := EqAt.int_int (A := A.in1) (s := s) ps[j].1 ps[j].2 qs[j].1 qs[j].2
      have e : (ps[j].1 == qs[j].1) = decide ((ps.map (·.1)).getD j 0 = (qs.map (·.1)).getD j 0) := by
        simp [List.getD_eq_getElem?_getD, j1, j2]; rfl
      rw [← e]
      simpa [intV] using this
    · rw [all_ints ps qs hl]
      exact h
  · rw [decide_eq_false (fun h => hl (by simpa using congrArg List.length h))] at h
    exact RcNeAt.lists_lengths (isList_at ha) (isList_at hb) (by simpa using hl) hu prog w E Q h
theorem tabs_index {l b : Addr} {vs : List Value} {n m : Nat} {T : List (Addr × Obj)} {tbs : List (List Int)} {ps : List (Int × Tok)} {Q : Value → Shared → Prop} (hT : ∀ p ∈ T, s.heap.get? p.1 = some p.2) (hl : s.heap.get? l = some (listOf vs.toArray n)) (hS : TabsIn T vs tbs) (hb : s.heap.get? b = some (listOf (ps.map intV).toArray m)) (hm : ps.map (·.1) ∈ tbs) (hu : A.units + 1 < cLine) (hz : tbs.length ≤ 1000)
    (h : Q (.int (tbs.idxOf (ps.map (·.1)) : Nat) s.toks) { s with toks := s.toks + 1 }) : wpAny (model prog w) A (call (.builtin "list.index") [.ref l, .ref b]) Q E s := by
  have hj : tbs.idxOf (ps.map (·.1)) < tbs.length := List.idxOf_lt_length_of_mem hm
  have hlen := hS.1
  have key : ∀ (i : Nat) (hi : i < vs.length), ∃ (a : Addr) (n' : Nat) (qs : List (Int × Tok)), vs[i] = .ref a ∧ s.heap.get? a = some (listOf (qs.map intV).toArray n') ∧ qs.map (·.1) = tbs.getD i [] := by
    intro i hi
    obtain ⟨a, n', qs, e, hm, hq⟩ := hS.2 i _ _ (List.getElem?_eq_getElem hi) (List.getElem?_eq_getElem (hlen ▸ hi))
    exact ⟨a, n', qs, e, hT _ hm, by rw [hq, List.getD_eq_getElem?_getD, List.getElem?_eq_getElem (hlen ▸ hi)]; rfl⟩
  have hrd : ∀ y, y ∈ vs → ∃ (a : Addr) (n' : Nat) (qs : List (Int × Tok)), y = .ref a ∧ s.heap.get? a = some (listOf (qs.map intV).toArray n') := by
    intro y hy
    obtain ⟨i, hi, rfl⟩ := List.getElem_of_mem hy
    obtain ⟨a, n', qs, e, hg, _⟩ := key i hi
    exact ⟨a, n', qs, e, hg⟩
  have hex : ∃ e : Value → Bool, (∀ y, y ∈ vs → EqAt A.in1 s y (.ref b) (e y)) ∧ ∀ (a : Addr) (n' : Nat) (qs : List (Int × Tok)), Value.ref a ∈ vs → s.heap.get? a = some (listOf (qs.map intV).toArray n') → e (.ref a) = decide (qs.map (·.1) = ps.map (·.1)) := by
    refine ⟨fun y => match y with
      | .ref a => match s.heap.get? a with
        | some ⟨_, _, .seq xs _, _⟩ => decide (xs.toList.map (fun | Value.int i _ => i | _ => 0) = ps.map (·.1))
        | _ => false
      | _ => false, ?_, ?_⟩
    · intro y hy
      obtain ⟨a, n', qs, rfl, hg⟩ := hrd y hy
      have : (qs.map intV).toArray.toList.map (fun | Value.int i _ => i | _ => 0) = qs.map (·.1) := by simp [List.map_map, Function.comp_def, intV]
      dsimp only
      rw [hg]
      dsimp only
      rw [this]
      exact tabs_eqAt hg hb hu
    · intro a n' qs ha hg
      have : (qs.map intV).toArray.toList.map (fun | Value.int i _ => i | _ => 0) = qs.map (·.1) := by simp [List.map_map, Function.comp_def, intV]
      dsimp only
      rw [hg]
      dsimp only
      rw [this]
  obtain ⟨e, he, hev⟩ := hex
  refine call_meets PySem.F.slot_list_index ⟨_, hl, rfl⟩ PySem.F.entry_list_index (PySem.F.args_list_index_2 _ _)
    (list_indexAt l vs.toArray n none #[] (.ref b) e (tbs.idxOf (ps.map (·.1))) (by simp; omega) (by omega) ?_ ?_) ⟨hl, fun y hy => he y (by simpa using hy), h⟩
  · have hi : tbs.idxOf (ps.map (·.1)) < vs.length := by omega
    obtain ⟨a, n', qs, e1, hg, hq⟩ := key _ hi
    show e vs[tbs.idxOf (ps.map (·.1))] = true
    rw [e1, hev a n' qs (e1 ▸ List.getElem_mem hi) hg, hq, decide_eq_true_iff, List.getD_eq_getElem?_getD, List.getElem?_eq_getElem hj]
    simpa using List.getElem_idxOf hj
  · intro i hi hlt
    have hi' : i < vs.length := by simpa using hi
    obtain ⟨a, n', qs, e1, hg, hq⟩ := key _ hi'
    show e vs[i] = false
    rw [e1, hev a n' qs (e1 ▸ List.getElem_mem hi') hg, hq, decide_eq_false_iff_not]
    intro hx
    refine idx_ne hlt ?_
    rw [List.getD_eq_getElem?_getD, List.getElem?_eq_getElem (show i < tbs.length by omega)] at hx
    rw [List.getElem?_eq_getElem (show i < tbs.length by omega)]
    simpa using hx
end
theorem index_ints {w : World} {news : List (Addr × Obj)} {l : Addr} {vs : List Value} {n : Nat} {xs : List Int} {g : Nat → Int} {tk : Nat} {x : Int} {t : Tok} (hl : (l, listOf vs.toArray n) ∈ news) (hS : IntsIn g tk vs xs) (hx : x ∈ xs) (ht : TkAt g tk x t) :
    Con w 119 [.ref l, .int x t] 3 100 0 news (fun v news' _ => news' = news ∧ ∃ u, v = .int (xs.idxOf x) u) := by
  obtain ⟨ps, rfl, rfl, hps⟩ := hS
  have hlt : (ps.map (·.1)).idxOf x < (ps.map (·.1)).length := List.idxOf_lt_length_of_mem hx
  have C := index_con (w := w) (news := news) (l := l) (vs := ps.map intV) (n := n) (b := .int x t) (same := fun i => decide ((ps.map (·.1))[i]? = some x)) (k := (ps.map (·.1)).idxOf x) (tk0 := 0) hl ?_ ?_ (by simpa using hlt) ?_ ?_
  · exact fun mean mg mb dp un gd cn cs a ccd cl outer A₀ base h₀ L m s Q E B F X N T hks hd hu htk hret => C mean mg mb dp un gd cn cs a ccd cl outer A₀ base h₀ L m s Q E B F X N T hks hd (by omega) htk hret
  · intro i v hv A s Q E hN X hu hh hQ
    rw [List.getElem?_map] at hv
    obtain ⟨p, hp, rfl⟩ := Option.map_eq_some_iff.mp hv
    have hpt := hps p (List.mem_of_getElem? hp)
    refine is_of (same_int hpt.1 ht.1 (fun e => by rw [← hpt.2.2, ← ht.2.2, e]) (none_booked X) fun c hc => hQ c fun h => ?_)
    rw [decide_eq_true_iff, List.getElem?_map, hp]
    simp [hc h]
  · intro i v hv A s Q E hN X hu hh hQ
    rw [List.getElem?_map] at hv
    obtain ⟨p, hp, rfl⟩ := Option.map_eq_some_iff.mp hv
    have e : decide ((ps.map (·.1))[i]? = some x) = (p.1 == x) := by
      rw [List.getElem?_map, hp]; simp; rfl
    rw [e] at hQ
    exact PySem.wpAny_eq_int hQ
  · rw [decide_eq_true_iff, List.getElem?_eq_getElem hlt, List.getElem_idxOf hlt]
  · intro i hi
    rw [decide_eq_false_iff_not]
    exact idx_ne hi
end
section
theorem News.ne {h₀ h : Heap} {L : Addr} {X : List (Addr × Obj)} (N : News h₀ L h X) {p q : Addr × Obj} (hp : p ∈ X) (hq : q ∈ X) (e : p.2 ≠ q.2) : p.1 ≠ q.1 := fun h => e (News.same N hp hq h)
theorem cell_ne {o q : Obj} {v : Option Value} {xs : Array Value} {n : Nat} (h : o.data = .cell v) (h2 : q.data = .seq xs n) : o ≠ q := fun e => by rw [e, h2] at h; cases h
theorem News.focus {h₀ h : Heap} {L : Addr} {X : List (Addr × Obj)} (N : News h₀ L h X) {c : Addr} {o : Obj} (hc : (c, o) ∈ X) : News h₀ L h ((c, o) :: clean [c] X) := by
  refine News.sub N fun p hp => ?_
  rcases List.mem_cons.mp hp with rfl | hp
  · exact hc
  · exact (clean_mem.mp hp).1
theorem clean_off {c : Addr} {X : List (Addr × Obj)} : ∀ p ∈ clean [c] X, p.1 ≠ c := fun p hp e => (clean_mem.mp hp).2 (by rw [e]; exact .head _)
theorem clean_in {c : Addr} {X : List (Addr × Obj)} {p : Addr × Obj} (hp : p ∈ X) (h : p.1 ≠ c) : p ∈ clean [c] X := clean_mem.mpr ⟨hp, fun hm => h (List.mem_singleton.mp hm)⟩
local macro_rules | `(tactic| walk_at "call ref") => `(tactic| (k_here; (with_reducible refine Stop.out ?_)))
theorem law_2 {w : World} {o2 : Obj} {v0 : Option Value} {TT : List (Addr × Obj)} (ho2 : o2.data = .cell v0)
    {base g' : Heap} {L' fa : Addr} {cd : Value} {s : Shared} {mean : ExcName → Option Value} {mg mb m' : Str → Option Value} {Qf : Flow → Shared → Prop} {E : Value → Shared → Prop}
    (B' : Below callerA base [] g') (F' : Fr g' L' s.heap m') (X' : (KK w.params).In g') (T' : Top qv looseL mean mg mb g')
    (N' : News g' L' s.heap ((L' + 1 + 1, o2) :: TT)) (hT : ∀ p ∈ TT, p.1 ≠ L' + 1 + 1)
    (hret : ∀ pl o2' h' tk', Fr g' L' h' m' → News g' L' h' ((L' + 1 + 1, o2') :: (pl, listOf #[] 0) :: TT) → s.toks ≤ tk' → o2'.data = .cell (some (.ref pl)) →
      Stop (wpAny (model Challenge.rw_wf0091_01.prog w) (callerA.deeper (lwEnv L' fa cd)) (execs ((fnOfStm 83).2.1.drop 2) (lwEnv L' fa cd)) Qf E { s with heap := h', toks := tk' })) :
    wpAny (model Challenge.rw_wf0091_01.prog w) (callerA.deeper (lwEnv L' fa cd)) (execs ((fnOfStm 83).2.1.drop 1) (lwEnv L' fa cd)) Qf E s := by
  with_reducible refine' execs_split (xs := [_]) (ys := (fnOfStm 83).2.1.drop 2) ?q_e ?q_go
  case q_e => exact rfl
  obtain ⟨H, gs, dr, tks, os⟩ := s
  dsimp only at F' N' hret
  revert F' N' hret
  revert B' X' T'
  k_fill
  intro B' X' T' F' N' hret
  wrow_steps
  rename News g' L' _ _ => kN
  rename Fr g' L' _ _ => kF
  rename Obj.data _ = Data.cell (some (Value.ref _)) => hdc
  refine hret _ _ _ _ kF (News.sub kN ?_) (by omega) hdc
  intro p hp
  simp only [List.mem_cons] at hp ⊢
  rcases hp with h | h | h <;> simp [h]
end
section
theorem drawn_read {d : DS} {n : Nat} {ws : List Wd} {cur : Wd} {r : RS} (h : PDrawn d n ws cur r) : ∃ outs : List (List Int), outs.length = (rdAll d.text.cps.toList).1.length + 1 ∧
    (∀ (i : Nat) (y : Str) (l : List Int), ((rdAll d.text.cps.toList).1 ++ [(rdAll d.text.cps.toList).2])[i]? = some y → outs[i]? = some l → LexR y l) ∧ outs.flatten = ((ws ++ [cur]).flatMap wdS).map symI := by
  refine ⟨(ws ++ [cur]).map fun v => (wdS v).map symI, ?_, ?_, ?_⟩
  · rw [h.rd]; simp
  · intro i y l hy hl
    rw [h.rd] at hy
    have e : (ws.map fun v => cd (wdC v)) ++ [cd (wdC cur)] = (ws ++ [cur]).map fun v => cd (wdC v) := by simp
    dsimp only at hy
    rw [e, List.getElem?_map] at hy
    rw [List.getElem?_map] at hl
    cases hv : (ws ++ [cur])[i]? with
    | none => rw [hv] at hy; cases hy
    | some v =>
      rw [hv] at hy hl
      cases hy; cases hl
      exact lex_word (h.wd v (List.mem_of_getElem? hv))
  · rw [List.flatMap_def, List.map_flatten, List.map_map]; rfl
local macro_rules | `(tactic| walk_at "call ref") => `(tactic| (k_here; (with_reducible refine Stop.out ?_)))
set_option maxHeartbeats 2000000 in
theorem law_3 {w : World} {o2 o3 : Obj} {v3 : Option Value} {pl : Addr} {TT : List (Addr × Obj)} {d : DS} {n tk0 : Nat} {ws : List Wd} {cur : Wd} {q : RS} {tx : Tok} (hd : PDrawn d n ws cur q) (hn : 1 ≤ n ∧ n ≤ 12) (h26 : 2600 ≤ tk0)
    (hc2 : (L' + 1 + 1, o2) ∈ TT) (ho2 : o2.data = .cell (some (.ref pl))) (hc3 : (L' + 1 + 1 + 1, o3) ∈ TT) (ho3 : o3.data = .cell v3) (hpl : (pl, listOf #[] 0) ∈ TT)
    {base g' : Heap} {fa : Addr} {cd : Value} {s : Shared} {mean : ExcName → Option Value} {mg mb m' : Str → Option Value} {Qf : Flow → Shared → Prop} {E : Value → Shared → Prop}
    (B' : Below callerA base [] g') (F' : Fr g' L' s.heap m') (X' : (KK w.params).In g') (T' : Top qv looseL mean mg mb g')
    (N' : News g' L' s.heap TT) (htk : tk0 ≤ s.toks) (hm1 : m' (Str.ofString "text") = some (.str d.text tx))
    (hret : ∀ sa vs svs n' sn g o3' X h' tk', Fr g' L' h' m' → News g' L' h' ((L' + 1 + 1 + 1, o3') :: X) → s.toks ≤ tk' → o3'.data = .cell (some (.ref sa)) → (pl, listOf vs.toArray n') ∈ X → (sa, listOf svs.toArray sn) ∈ X → RowsIn g tk' X vs q.rows → IntsIn g tk' svs q.seen →
      (∀ p ∈ TT, p.1 ≠ pl → p.1 ≠ L' + 1 + 1 + 1 → p ∈ X) → (∀ p ∈ X, p.1 ≠ L' + 1 + 1 + 1) →
      Stop (wpAny (model Challenge.rw_wf0091_01.prog w) (callerA.deeper (lwEnv L' fa cd)) (execs ((fnOfStm 83).2.1.drop 3) (lwEnv L' fa cd)) Qf E { s with heap := h', toks := tk' })) :
    wpAny (model Challenge.rw_wf0091_01.prog w) (callerA.deeper (lwEnv L' fa cd)) (execs ((fnOfStm 83).2.1.drop 2) (lwEnv L' fa cd)) Qf E s := by
  with_reducible refine' execs_split (xs := [_]) (ys := (fnOfStm 83).2.1.drop 3) ?q_e ?q_go
  case q_e => exact rfl
  obtain ⟨H, gs, dr, tks, os⟩ := s
  dsimp only at F' N' htk hret
  revert F' N' htk hret
  revert B' X' T'
  k_fill
  intro B' X' T' F' N' htk hret
  have hsl := hd.sl
  have htl := hd.tl
  obtain ⟨outs, ho1, ho2', ho3'⟩ := drawn_read hd
  have hlen : outs.flatten.length ≤ 1000 := by rw [ho3', List.length_map]; omega
  have hts : 1 ≤ ((ws ++ [cur]).flatMap wdS).length := by
    have h1 := hd.tn
    have h2 := congrArg List.length hd.sm.tb
    have h3 := (runS_len hd.rn).2
    simp only [List.length_map, List.length_nil, Nat.zero_add] at h2 h3
    omega
  wrow_steps
  refine ⟨?_⟩
  rename News g' L' _ _ => kN
  with_unfolding_all refine' con_use (tk0 := tk0) (un0 := 1000) (dn := 100) ?q_B ?q_F ?q_X ?q_T ?q_k (read_con (tk0 := tk0) (x := d.text) (tx := tx) (outs := outs) (by show d.text.length ≤ 1000; omega) hd.ch ho1 ho2' hlen h26) ?q_N ?q_hd ?q_hu ?q_tk ?_
  case q_B | q_F | q_X | q_T => k_asm
  case q_k => rfl
  case q_N => exact kN
  case q_hd => (first | ktr_room | decide)
  case q_hu => (first | ktr_units | decide | ((show un + 3 + _ < cLine); omega))
  case q_tk => (try dsimp only); omega
  intro v9 news9 h9 tk9 F9 N9 hl9 hp9
  (try dsimp only at hl9)
  obtain ⟨sy, ps, sn, tl, rfl, rfl, hps⟩ := hp9
  have hpsne : ps ≠ [] := by
    rintro rfl
    rw [ho3'] at hps
    have := congrArg List.length hps
    simp only [List.map_nil, List.length_nil, List.length_map] at this
    omega
  have hplX : (pl, listOf #[] 0) ∈ (sy, listOf (ps.map intV).toArray sn) :: (tl ++ TT) := .tail _ (List.mem_append_right _ hpl)
  have hsyn : sy ≠ pl := News.ne N9 (.head _) hplX (fun e => by
    have := congrArg Obj.data e
    simp only [Data.seq.injEq] at this
    exact hpsne (by simpa using this.1))
  have N8 := News.focus N9 hplX
  have hsy : (sy, listOf (ps.map intV).toArray sn) ∈ clean [pl] ((sy, listOf (ps.map intV).toArray sn) :: (tl ++ TT)) := clean_in (.head _) hsyn
  have hoffp : ∀ p ∈ clean [pl] ((sy, listOf (ps.map intV).toArray sn) :: (tl ++ TT)), p.1 ≠ pl := clean_off
  have hc2n : @Ne Nat (L' + 1 + 1) pl := News.ne N9 (p := (L' + 1 + 1, o2)) (.tail _ (List.mem_append_right _ hc2)) hplX (cell_ne ho2 rfl)
  have hc3n : @Ne Nat (L' + 1 + 1 + 1) pl := News.ne N9 (p := (L' + 1 + 1 + 1, o3)) (.tail _ (List.mem_append_right _ hc3)) hplX (cell_ne ho3 rfl)
  have hcin : ∀ p ∈ TT, p.1 ≠ pl → p ∈ clean [pl] ((sy, listOf (ps.map intV).toArray sn) :: (tl ++ TT)) := fun p hp h => clean_in (.tail _ (List.mem_append_right _ hp)) h
  generalize hT1 : clean [pl] ((sy, listOf (ps.map intV).toArray sn) :: (tl ++ TT)) = T1 at N8 hsy hoffp hcin
  have hc2' : (L' + 1 + 1, o2) ∈ (pl, listOf #[] 0) :: T1 := .tail _ (hcin _ hc2 hc2n)
  clear N9 kN
  wrow_steps
  refine ⟨?_⟩
  rename News g' L' _ _ => kN
  with_unfolding_all refine' con_use (tk0 := tk0) (un0 := 1000) (dn := 100) ?q_B ?q_F ?q_X ?q_T ?q_k (run_con (pl := pl) (sy := sy) (sn := sn) (n := 0) (T := T1) (tk0 := tk0) (syms := (ws ++ [cur]).flatMap wdS) (q := q) (ps := ps) hoffp hsy (hps.trans ho3') hd.rn hd.bn (by omega) (by omega)) ?q_N ?q_hd ?q_hu ?q_tk ?_
  case q_B | q_F | q_X | q_T => k_asm
  case q_k => rfl
  case q_N => exact kN
  case q_hd => (first | ktr_room | decide)
  case q_hu => (first | ktr_units | decide | ((show un + 3 + _ < cLine); omega))
  case q_tk => (try dsimp only); omega
  intro v9 news9 h9 tk9 F9 N9 hl9 hp9
  (try dsimp only at hl9)
  obtain ⟨sa, vs, svs, n', sn', tl', g, rfl, rfl, hR, hS, hok⟩ := hp9
  have hc3' : (L' + 1 + 1 + 1, o3) ∈ (pl, listOf vs.toArray n') :: (sa, listOf svs.toArray sn') :: (tl' ++ T1) := .tail _ (.tail _ (List.mem_append_right _ (hcin _ hc3 hc3n)))
  have N7 := News.focus N9 hc3'
  have hpl' : (pl, listOf vs.toArray n') ∈ clean [L' + 1 + 1 + 1] ((pl, listOf vs.toArray n') :: (sa, listOf svs.toArray sn') :: (tl' ++ T1)) := clean_in (.head _) (fun e => hc3n e.symm)
  have hsa' : (sa, listOf svs.toArray sn') ∈ clean [L' + 1 + 1 + 1] ((pl, listOf vs.toArray n') :: (sa, listOf svs.toArray sn') :: (tl' ++ T1)) := clean_in (.tail _ (.head _)) (News.ne N9 (p := (sa, listOf svs.toArray sn')) (q := (L' + 1 + 1 + 1, o3)) (.tail _ (.head _)) hc3' (fun e => cell_ne ho3 rfl e.symm))
  have hR' := RowsIn.clean (Cs := [(L' + 1 + 1 + 1, o3)]) N9 (fun p hp => by rw [List.mem_singleton.mp hp]; exact ⟨_, ho3⟩) (fun p hp => by rw [List.mem_singleton.mp hp]; exact hc3') hR (fun p hp => .tail _ (.tail _ hp))
  have hin' : ∀ p ∈ TT, p.1 ≠ pl → p.1 ≠ L' + 1 + 1 + 1 → p ∈ clean [L' + 1 + 1 + 1] ((pl, listOf vs.toArray n') :: (sa, listOf svs.toArray sn') :: (tl' ++ T1)) := fun p hp h1 h2 => clean_in (.tail _ (.tail _ (List.mem_append_right _ (hcin p hp h1)))) h2
  have hoff' : ∀ p ∈ clean [L' + 1 + 1 + 1] ((pl, listOf vs.toArray n') :: (sa, listOf svs.toArray sn') :: (tl' ++ T1)), p.1 ≠ L' + 1 + 1 + 1 := clean_off
  change RowsIn g _ (clean [L' + 1 + 1 + 1] _) vs q.rows at hR'
  generalize hT2 : clean [L' + 1 + 1 + 1] ((pl, listOf vs.toArray n') :: (sa, listOf svs.toArray sn') :: (tl' ++ T1)) = T2 at N7 hpl' hsa' hR' hin' hoff'
  clear N9 kN hc2'
  wrow_steps
  rename News g' L' _ _ => kN
  rename Fr g' L' _ _ => kF
  rename Obj.data _ = Data.cell (some (Value.ref sa)) => hdc
  refine hret sa vs svs n' sn' g _ T2 _ _ kF kN ?q_k hdc hpl' hsa' (hR'.mono (fun p hp => hp) (fun _ _ => rfl) ?q_k2) (hS.mono (fun _ _ => rfl) ?q_k3) hin' hoff'
  case q_k => omega
  case q_k2 => omega
  case q_k3 => omega
end
section
theorem IntsIn.at' {g : Nat → Int} {tk : Nat} {vs : List Value} {xs : List Int} (h : IntsIn g tk vs xs) {i : Nat} {v : Value} (hv : vs[i]? = some v) : ∃ x t, v = .int x t ∧ xs[i]? = some x ∧ TkAt g tk x t := by
  obtain ⟨ps, rfl, rfl, hps⟩ := h
  rw [List.getElem?_map] at hv
  obtain ⟨p, hp, rfl⟩ := Option.map_eq_some_iff.mp hv
  exact ⟨p.1, p.2, rfl, by rw [List.getElem?_map, hp]; rfl, hps p (List.mem_of_getElem? hp)⟩
noncomputable def seenE : PySem.Expr := exAt (stAt (fnOfStm 83).2.1 3).1 0
noncomputable def tabsE : PySem.Expr := exAt (stAt (fnOfStm 83).2.1 3).1 1
local macro_rules | `(tactic| walk_at "call ref") => `(tactic| (k_here; (with_reducible refine Stop.out ?_)))
local macro_rules | `(tactic| walk_at "call builtin:list.index") => `(tactic| (k_here; (with_reducible refine Stop.out ?_)))
open LCg in
set_option maxHeartbeats 2000000 in
theorem seen_comp {w : World} {o3 : Obj} {sa : Addr} {svs : List Value} {sn tk0 : Nat} {g : Nat → Int} {xs : List Int} {X : List (Addr × Obj)}
    (hc3 : (L' + 1 + 1 + 1, o3) ∈ X) (ho3 : o3.data = .cell (some (.ref sa))) (hsa : (sa, listOf svs.toArray sn) ∈ X) (hS : IntsIn g tk0 svs xs) (hz : xs.length ≤ 1000)
    {base g' : Heap} {fa : Addr} {cd : Value} {s : Shared} {mean : ExcName → Option Value} {mg mb m' : Str → Option Value} {Q : Value → Shared → Prop} {E : Value → Shared → Prop}
    (B' : Below callerA base [] g') (F' : Fr g' L' s.heap m') (X' : (KK w.params).In g') (T' : Top qv looseL mean mg mb g')
    (N' : News g' L' s.heap X)
    (hret : ∀ D ys h' tk, ys.length = xs.length → (∀ (i : Nat) (y : Value), ys[i]? = some y → ∃ t, y = .int ((xs.idxOf (xs.getD i 0) : Nat) : Int) t) → Fr g' L' h' m' → News g' L' h' ((D, lst ys) :: X) → (∀ p ∈ X, @Ne Nat p.1 D) → s.toks ≤ tk → Q (.ref D) { s with heap := h', toks := tk }) :
    wpAny (model Challenge.rw_wf0091_01.prog w) (callerA.deeper (lwEnv L' fa cd)) (eval seenE (lwEnv L' fa cd)) Q E s := by
  have e : seenE = .ListComp _ _ _ _ := rfl
  rw [e]
  have hlen : svs.length = xs.length := by obtain ⟨ps, rfl, rfl, _⟩ := hS; simp
  obtain ⟨H, gs, dr, tks, os⟩ := s
  dsimp only at F' N' hret
  refine ListComp_V (h₀ := g') (L := L') (m := m') (cl := [(Str.ofString "seen", L' + 1 + 1 + 1)]) F' (by with_unfolding_all rfl) (by decide) rfl (by decide) rfl rfl hsa (by omega) (fun i y => ∃ t, y = .int ((xs.idxOf (xs.getD i 0) : Nat) : Int) t) ?_ ?_ ?_
  · revert F' N' hret
    revert B' X' T'
    k_fill
    intro B' X' T' F' N' hret
    refine wp_gen fun Q2 hq => ?_
    wrow_steps
    exact (hq _ _ ⟨rfl, Nat.le_refl _, ⟨_, _, rfl⟩, F', N'⟩).out
  · intro i v C oC TT m₂ s₂ E' hv hC hp hsub F₂ N₂
    obtain ⟨x, t, rfl, hx, ht⟩ := hS.at' hv
    have hxd : xs.getD i 0 = x := by rw [List.getD_eq_getElem?_getD, hx]; rfl
    change m₂ (Str.ofString "one") = some (Value.int x t) at hp
    have hc3' : (L' + 1 + 1 + 1, o3) ∈ (C, oC) :: TT := .tail _ (hsub _ hc3)
    have hsa' : (sa, listOf svs.toArray sn) ∈ (C, oC) :: TT := .tail _ (hsub _ hsa)
    obtain ⟨H2, gs2, dr2, tk2, os2⟩ := s₂
    dsimp only at F₂ N₂
    refine wp_gen fun Q3 hq3 => ?_
    replace hq3 : ∀ h' tk' u, Fr g' L' h' m' → News g' L' h' ((C, oC) :: TT) → Stop (Q3 (.int ((xs.idxOf x : Nat) : Int) u) { heap := h', gens := gs2, drawn := dr2, toks := tk', os := os2 }) := fun h' tk' u F N => hq3 _ _ ⟨⟨u, by rw [hxd]⟩, _, _, rfl, F, N⟩
    clear hret F' N'
    revert F₂ N₂
    revert B' X' T'
    k_fill
    intro B' X' T' F₂ N₂
    wrow_steps
    refine ⟨?_⟩
    rename News g' L' _ _ => kN
    with_unfolding_all refine' con_use (tk0 := 0) (un0 := 100) (dn := 3) ?q_B ?q_F ?q_X ?q_T ?q_k (index_ints (w := w) (tk := tk0) hsa' hS (List.mem_of_getElem? hx) ht) ?q_N ?q_hd ?q_hu (Nat.zero_le _) ?_
    case q_B | q_F | q_X | q_T => k_asm
    case q_k => rfl
    case q_N => exact kN
    case q_hd => (first | ktr_room | decide)
    case q_hu => (first | ktr_units | decide | ((show un + 3 + _ < cLine); omega))
    intro v9 news9 h9 tk9 F9 N9 hl9 hp9
    (try dsimp only at hl9)
    obtain ⟨rfl, u, rfl⟩ := hp9
    wrow_steps
    rename News g' L' _ _ => kN
    rename Fr g' L' _ _ => kF
    exact (hq3 _ _ _ kF kN).out
  · intro D ys h tk hyl hys F2 N2 hD htk2
    exact hret D ys h tk (by omega) hys F2 N2 hD htk2
open LCg in
set_option maxHeartbeats 2000000 in
theorem tabs_comp {w : World} {o1 : Obj} {ta : Addr} {ts : List Value} {tn : Nat} {tbs : List (List Int)} {X : List (Addr × Obj)}
    (hc1 : (L' + 1, o1) ∈ X) (ho1 : o1.data = .cell (some (.ref ta))) (hta : (ta, listOf ts.toArray tn) ∈ X) (hS : TabsIn X ts tbs) (hz : tbs.length ≤ 1000)
    {base g' : Heap} {fa : Addr} {cd : Value} {s : Shared} {mean : ExcName → Option Value} {mg mb m' : Str → Option Value} {Q : Value → Shared → Prop} {E : Value → Shared → Prop}
    (B' : Below callerA base [] g') (F' : Fr g' L' s.heap m') (X' : (KK w.params).In g') (T' : Top qv looseL mean mg mb g')
    (N' : News g' L' s.heap X)
    (hret : ∀ D ys h' tk, ys.length = tbs.length → (∀ (i : Nat) (y : Value), ys[i]? = some y → ∃ t, y = .int ((tbs.idxOf (tbs.getD i []) : Nat) : Int) t) → Fr g' L' h' m' → News g' L' h' ((D, lst ys) :: X) → (∀ p ∈ X, @Ne Nat p.1 D) → s.toks ≤ tk → Q (.ref D) { s with heap := h', toks := tk }) :
    wpAny (model Challenge.rw_wf0091_01.prog w) (callerA.deeper (lwEnv L' fa cd)) (eval tabsE (lwEnv L' fa cd)) Q E s := by
  have e : tabsE = .ListComp _ _ _ _ := rfl
  rw [e]
  have hlen := hS.1
  obtain ⟨H, gs, dr, tks, os⟩ := s
  dsimp only at F' N' hret
  refine ListComp_V (h₀ := g') (L := L') (m := m') (cl := [(Str.ofString "tables", L' + 1)]) F' (by with_unfolding_all rfl) (by decide) rfl (by decide) rfl rfl hta (by omega) (fun i y => ∃ t, y = .int ((tbs.idxOf (tbs.getD i []) : Nat) : Int) t) ?_ ?_ ?_
  · revert F' N' hret
    revert B' X' T'
    k_fill
    intro B' X' T' F' N' hret
    refine wp_gen fun Q2 hq => ?_
    wrow_steps
    exact (hq _ _ ⟨rfl, Nat.le_refl _, ⟨_, _, rfl⟩, F', N'⟩).out
  · intro i v C oC TT m₂ s₂ E' hv hC hp hsub F₂ N₂
    have hi : i < tbs.length := hlen ▸ (List.getElem?_eq_some_iff.mp hv).1
    obtain ⟨b, nb, ps, rfl, hb, hps⟩ := hS.2 i v _ hv (List.getElem?_eq_getElem hi)
    have hxd : tbs.getD i [] = ps.map (·.1) := by rw [List.getD_eq_getElem?_getD, List.getElem?_eq_getElem hi, hps]; rfl
    change m₂ (Str.ofString "one") = some (Value.ref b) at hp
    have hc1' : (L' + 1, o1) ∈ (C, oC) :: TT := .tail _ (hsub _ hc1)
    have hta' : (ta, listOf ts.toArray tn) ∈ (C, oC) :: TT := .tail _ (hsub _ hta)
    have hb' : (b, listOf (ps.map intV).toArray nb) ∈ (C, oC) :: TT := .tail _ (hsub _ hb)
    obtain ⟨H2, gs2, dr2, tk2, os2⟩ := s₂
    dsimp only at F₂ N₂
    refine wp_gen fun Q3 hq3 => ?_
    replace hq3 : ∀ h' tk' u, Fr g' L' h' m' → News g' L' h' ((C, oC) :: TT) → Stop (Q3 (.int ((tbs.idxOf (ps.map (·.1)) : Nat) : Int) u) { heap := h', gens := gs2, drawn := dr2, toks := tk', os := os2 }) := fun h' tk' u F N => hq3 _ _ ⟨⟨u, by rw [hxd]⟩, _, _, rfl, F, N⟩
    clear hret F' N'
    revert F₂ N₂
    revert B' X' T'
    k_fill
    intro B' X' T' F₂ N₂
    wrow_steps
    refine ⟨?_⟩
    rename News g' L' _ _ => kN
    rename Fr g' L' _ _ => kF
    refine tabs_index (T := X) (fun p hp => (kN p (.tail _ (hsub p hp))).1) (kN _ hta').1 hS (kN _ hb').1 (hps ▸ List.getElem_mem hi) ?q_u hz ?_
    case q_u => (first | decide | ktr_units)
    exact (hq3 _ _ _ kF kN).out
  · intro D ys h tk hyl hys F2 N2 hD htk2
    exact hret D ys h tk (by omega) hys F2 N2 hD htk2
end
section
theorem ints_ps {ys : List Value} {f : Nat → Int} {n : Nat} (hl : ys.length = n) (h : ∀ (i : Nat) (y : Value), ys[i]? = some y → ∃ t, y = .int (f i) t) : ∃ ps : List (Int × Tok), ys = ps.map intV ∧ ps.map (·.1) = (List.range n).map f := tab_of hl h
theorem idx_range {α : Type} [BEq α] {l : List α} {d : α} : (List.range l.length).map (fun i => ((l.idxOf (l.getD i d) : Nat) : Int)) = l.map fun x => ((l.idxOf x : Nat) : Int) := by
  apply List.ext_getElem?
  intro i
  rw [List.getElem?_map, List.getElem?_map]
  by_cases hi : i < l.length
  · rw [List.getElem?_range hi, List.getElem?_eq_getElem hi]
    simp [List.getD_eq_getElem?_getD, hi]
  · rw [List.getElem?_eq_none (by simp; omega), List.getElem?_eq_none (by omega)]; rfl
local macro_rules | `(tactic| walk_at "eval ListComp") => `(tactic| (k_here; (with_reducible refine Stop.out ?_)))
local macro_rules | `(tactic| walk_at "compareOp NotEq") => `(tactic| (k_here; (with_reducible refine Stop.out ?_)))
local macro_rules | `(tactic| walk_at "compareOp NotEq ref") => `(tactic| (k_here; (with_reducible refine Stop.out ?_)))
local macro_rules | `(tactic| walk_at "compareOp NotEq ref ref") => `(tactic| (k_here; (with_reducible refine Stop.out ?_)))
open LCg in
set_option maxHeartbeats 2000000 in
theorem law_4 {w : World} {o1 o3 : Obj} {ta sa : Addr} {ts svs : List Value} {tn sn tk0 : Nat} {g : Nat → Int} {xs : List Int} {tbs : List (List Int)} {X : List (Addr × Obj)}
    (hc1 : (L' + 1, o1) ∈ X) (ho1 : o1.data = .cell (some (.ref ta))) (hta : (ta, listOf ts.toArray tn) ∈ X) (hT : TabsIn X ts tbs) (hz1 : tbs.length ≤ 1000)
    (hc3 : (L' + 1 + 1 + 1, o3) ∈ X) (ho3 : o3.data = .cell (some (.ref sa))) (hsa : (sa, listOf svs.toArray sn) ∈ X) (hS : IntsIn g tk0 svs xs) (hz : xs.length ≤ 1000)
    (hsame : tbs.map (fun t => tbs.idxOf t) = xs.map fun x => xs.idxOf x)
    {base g' : Heap} {fa : Addr} {cd : Value} {s : Shared} {mean : ExcName → Option Value} {mg mb m' : Str → Option Value} {Qf : Flow → Shared → Prop} {E : Value → Shared → Prop}
    (B' : Below callerA base [] g') (F' : Fr g' L' s.heap m') (X' : (KK w.params).In g') (T' : Top qv looseL mean mg mb g')
    (N' : News g' L' s.heap X)
    (hret : ∀ h' tk', Fr g' L' h' m' → News g' L' h' X → s.toks ≤ tk' →
      Stop (wpAny (model Challenge.rw_wf0091_01.prog w) (callerA.deeper (lwEnv L' fa cd)) (execs ((fnOfStm 83).2.1.drop 4) (lwEnv L' fa cd)) Qf E { s with heap := h', toks := tk' })) :
    wpAny (model Challenge.rw_wf0091_01.prog w) (callerA.deeper (lwEnv L' fa cd)) (execs ((fnOfStm 83).2.1.drop 3) (lwEnv L' fa cd)) Qf E s := by
  with_reducible refine' execs_split (xs := [_]) (ys := (fnOfStm 83).2.1.drop 4) ?q_e ?q_go
  case q_e => exact rfl
  obtain ⟨H, gs, dr, tks, os⟩ := s
  dsimp only at F' N' hret
  revert F' N' hret
  revert B' X' T'
  k_fill
  intro B' X' T' F' N' hret
  wrow_steps
  refine ⟨?_⟩
  rename News g' L' _ _ => kN
  rename Fr g' L' _ _ => kF
  refine seen_comp hc3 ho3 hsa hS hz B' kF X' T' kN ?_
  intro D1 ys1 h1 tk1 hl1 hy1 F1 N1 hD1 hk1
  (try dsimp only at hk1)
  clear kF kN
  wrow_steps
  refine ⟨?_⟩
  rename News g' L' _ _ => kN
  rename Fr g' L' _ _ => kF
  refine tabs_comp (X := (D1, lst ys1) :: X) (.tail _ hc1) ho1 (.tail _ hta) (hT.mono fun p hp => .tail _ hp) hz1 B' kF X' T' kN ?_
  intro D2 ys2 h2 tk2 hl2 hy2 F2 N2 hD2 hk2
  (try dsimp only at hk2)
  clear kF kN
  obtain ⟨ps1, rfl, e1⟩ := ints_ps hl1 hy1
  obtain ⟨ps2, rfl, e2⟩ := ints_ps hl2 hy2
  have heq : ps1.map (·.1) = ps2.map (·.1) := by
    rw [e1, e2, idx_range, idx_range]
    have := congrArg (List.map (fun n : Nat => (n : Int))) hsame
    simpa [List.map_map, Function.comp_def] using this.symm
  wrow_steps
  refine ⟨?_⟩
  rename News g' L' _ _ => kN
  rename Fr g' L' _ _ => kF
  refine tabs_ne (ps := ps1) (qs := ps2) (kN _ (.tail _ (.head _))).1 (kN _ (.head _)).1 ?q_u ?_
  case q_u => (first | decide | ktr_units)
  rw [decide_eq_true heq]
  wrow_steps
  rename News g' L' _ _ => kN
  rename Fr g' L' _ _ => kF
  exact hret _ _ kF (News.sub kN fun p hp => .tail _ (.tail _ hp)) (by omega)
end
section
theorem item_neg1 {prog : Program} {w : World} {A : Around} {E : Value → Shared → Prop} {s : Shared} {h₀ : Heap} {L l : Addr} {value slice : PySem.Expr} {news : List (Addr × Obj)} {us : List Value} {n : Nat} {k : Int} {u : Tok} {v : Value} {Q : Value → Shared → Prop} (N : News h₀ L s.heap news) (hk : k = -1) (hm : (l, listOf (us ++ [v]).toArray n) ∈ news) (hz : us.length ≤ 100000) (h : Q v s)
    (hs : subscripted slice false (.ref l) (.int k u) = operate [.ref l, .int k u] (getItem (.ref l) (.int k u)) := by with_unfolding_all rfl) :
    wpAny (model prog w) A (subscriptTail value slice (.ref l) (.int k u)) Q E s := by
  have hl : s.heap.IsList l (us ++ [v]).toArray := ⟨_, (N _ hm).1, rfl, n, rfl⟩
  subst hk
  refine tail_any hl.typeIs slot_list_getitem.lookup (wpAny_getItem_list_neg hl (by decide) (by simp; omega) (by decide) ?_ h) hs
  have : ((-1 : Int) + ((us ++ [v]).toArray.size : Int)).toNat = us.length := by simp; omega
  rw [this]; simp
local macro_rules | `(tactic| walk_at "subscriptTail") => `(tactic| (walk_at "sh ri"; k_dflt (refine' item_neg1 (by k_asm) (by rfl) (by k_mem) (by omega) ?_ (by with_unfolding_all rfl); k_whole)))
local macro_rules | `(tactic| walk_at "subscriptTail Name UnaryOp ref int") => `(tactic| (walk_at "sh ri"; k_dflt (refine' item_neg1 (by k_asm) (by rfl) (by k_mem) (by omega) ?_ (by with_unfolding_all rfl); k_whole)))
set_option maxHeartbeats 2000000 in
theorem law_5 {w : World} {o1 o3 o4 : Obj} {v4 : Option Value} {ta sa tb : Addr} {us vs : List Value} {tn sn : Nat} {x : Int} {tx : Tok} {TT : List (Addr × Obj)}
    (ho4 : o4.data = .cell v4) (hc1 : (L' + 1, o1) ∈ TT) (ho1 : o1.data = .cell (some (.ref ta))) (hta : (ta, listOf (us ++ [Value.ref tb]).toArray tn) ∈ TT) (hz1 : us.length ≤ 1000)
    (hc3 : (L' + 1 + 1 + 1, o3) ∈ TT) (ho3 : o3.data = .cell (some (.ref sa))) (hsa : (sa, listOf (vs ++ [Value.int x tx]).toArray sn) ∈ TT) (hz : vs.length ≤ 1000)
    {base g' : Heap} {fa : Addr} {cd : Value} {s : Shared} {mean : ExcName → Option Value} {mg mb m' : Str → Option Value} {Qf : Flow → Shared → Prop} {E : Value → Shared → Prop}
    (B' : Below callerA base [] g') (F' : Fr g' L' s.heap m') (X' : (KK w.params).In g') (T' : Top qv looseL mean mg mb g')
    (N' : News g' L' s.heap ((L' + 1 + 1 + 1 + 1, o4) :: TT)) (hcT : ∀ p ∈ TT, p.1 ≠ L' + 1 + 1 + 1 + 1)
    (hret : ∀ o4' h' tk', Fr g' L' h' (fun y => if y = Str.ofString "root" then some (.int x tx) else m' y) → News g' L' h' ((L' + 1 + 1 + 1 + 1, o4') :: TT) → o4'.data = .cell (some (.ref tb)) → s.toks ≤ tk' →
      Stop (wpAny (model Challenge.rw_wf0091_01.prog w) (callerA.deeper (lwEnv L' fa cd)) (execs ((fnOfStm 83).2.1.drop 6) (lwEnv L' fa cd)) Qf E { s with heap := h', toks := tk' })) :
    wpAny (model Challenge.rw_wf0091_01.prog w) (callerA.deeper (lwEnv L' fa cd)) (execs ((fnOfStm 83).2.1.drop 4) (lwEnv L' fa cd)) Qf E s := by
  with_reducible refine' execs_split (xs := [_, _]) (ys := (fnOfStm 83).2.1.drop 6) ?q_e ?q_go
  case q_e => exact rfl
  obtain ⟨H, gs, dr, tks, os⟩ := s
  dsimp only at F' N' hret
  revert F' N' hret
  revert B' X' T'
  k_fill
  intro B' X' T' F' N' hret
  have hc1' : (L' + 1, o1) ∈ (L' + 1 + 1 + 1 + 1, o4) :: TT := .tail _ hc1
  have hc3' : (L' + 1 + 1 + 1, o3) ∈ (L' + 1 + 1 + 1 + 1, o4) :: TT := .tail _ hc3
  have hta' : (ta, listOf (us ++ [Value.ref tb]).toArray tn) ∈ (L' + 1 + 1 + 1 + 1, o4) :: TT := .tail _ hta
  have hsa' : (sa, listOf (vs ++ [Value.int x tx]).toArray sn) ∈ (L' + 1 + 1 + 1 + 1, o4) :: TT := .tail _ hsa
  wrow_steps
  rename News g' L' _ _ => kN
  rename Fr g' L' _ _ => kF
  rename Obj.data _ = Data.cell (some (Value.ref tb)) => hdc
  exact hret _ _ _ kF kN hdc (by omega)
end
section
theorem bit_and : ∀ i : Nat, i < 16 → ∀ l : Nat, l < 4 → Builtin.bitAnd ((i : Int).fdiv (2 ^ (3 - (l : Int)).toNat)) 1 = if bitAt i l = true then 1 else 0 := by decide +kernel
theorem bit_and' {i : Nat} {l : Int} (hi : i < 16) (hl : 0 ≤ l ∧ l < 4) : Builtin.bitAnd ((i : Int).fdiv (2 ^ (3 - l).toNat)) 1 = if bitAt i l.toNat = true then 1 else 0 := by
  have := bit_and i hi l.toNat (by omega)
  rwa [show ((l.toNat : Nat) : Int) = l by omega] at this
theorem lev_at {rows : List Row} {j : Nat} {r : Row} (hr : rows[j]? = some r) : lev rows (256 + (j : Int)) = r.1 := by
  unfold lev
  rw [if_neg (by omega), show (256 + (j : Int) - 256).toNat = j by omega, hr]; rfl
theorem row3 {f : Nat → Int} {tk : Nat} {T : List (Addr × Obj)} {vs : List Value} {rows : List Row} (h : RowsIn f tk T vs rows) {j : Nat} {r : Row} (hr : rows[j]? = some r) : ∃ (a : Addr) (n : Nat) (t1 t2 t3 : Tok), vs[j]? = some (.ref a) ∧ (a, tupO [.int r.1 t1, .int r.2.1 t2, .int r.2.2 t3] n) ∈ T := by
  have hj := (List.getElem?_eq_some_iff.mp hr).1
  obtain ⟨a, n, ps, e, hm, hp, _⟩ := h.2 j _ r (List.getElem?_eq_getElem (h.1 ▸ hj)) hr
  obtain ⟨t1, t2, t3, rfl⟩ := map3 hp
  exact ⟨a, n, t1, t2, t3, by rw [List.getElem?_eq_getElem (h.1 ▸ hj), e], hm⟩
theorem nd_row {rows : List Row} {n : Int} (h : Nd rows n) (h2 : 256 ≤ n) : ∃ (j : Nat) (r : Row), n = 256 + (j : Int) ∧ rows[j]? = some r := by
  rcases h with h | h | ⟨j, h, hj⟩
  · omega
  · omega
  · exact ⟨j, _, h, List.getElem?_eq_getElem hj⟩
noncomputable def DownJ (rows : List Row) (X : List (Addr × Obj)) (x root : Int) (i : Nat) (m0 : Str → Option Value) (tk0 : Nat) (n : Nat) (m : Str → Option Value) (news : List (Addr × Obj)) (tk : Nat) : Prop :=
  ∃ (node : Int) (t : Tok), Nd rows node ∧ n = (4 - lev rows node).toNat ∧ ev rows node i = ev rows root i ∧ news = X ∧ tk0 ≤ tk ∧ m (Str.ofString "node") = some (.int node t) ∧ ∀ y, y ≠ Str.ofString "node" → y ≠ Str.ofString "letter" → y ≠ Str.ofString "low" → y ≠ Str.ofString "high" → m y = m0 y
noncomputable def lwBody : List Stmt := bodyAt (fnOfStm 83).2.1 6
set_option maxHeartbeats 2000000 in
theorem law_turn {w : World} {o2 o4 : Obj} {pl tb : Addr} {vs : List Value} {pn bn tk0 : Nat} {f : Nat → Int} {rows : List Row} {root : Int} {tr ti : Tok} {i : Nat} {bs : List (Int × Tok)} {X : List (Addr × Obj)}
    (R : RowsOk rows) (hnd : Nd rows root) (hrl : rows.length ≤ 20000) (hi : i < 16)
    (hc2 : (L' + 1 + 1, o2) ∈ X) (ho2 : o2.data = .cell (some (.ref pl))) (hpl : (pl, listOf vs.toArray pn) ∈ X) (hR : RowsIn f tk0 X vs rows)
    (hc4 : (L' + 1 + 1 + 1 + 1, o4) ∈ X) (ho4 : o4.data = .cell (some (.ref tb))) (htb : (tb, listOf (bs.map intV).toArray bn) ∈ X) (hbs : bs.map (·.1) = tabOf rows root)
    {base g' : Heap} {fa : Addr} {cd : Value} {s : Shared} {mean : ExcName → Option Value} {mg mb m' : Str → Option Value} {Qf : Flow → Shared → Prop} {E : Value → Shared → Prop}
    (B' : Below callerA base [] g') (F' : Fr g' L' s.heap m') (X' : (KK w.params).In g') (T' : Top qv looseL mean mg mb g')
    (N' : News g' L' s.heap X) (hm1 : m' (Str.ofString "root") = some (.int root tr)) (hm2 : m' (Str.ofString "which") = some (.int i ti)) (hE : PassesOwn (model Challenge.rw_wf0091_01.prog w) (callerA.deeper (lwEnv L' fa cd)) (lwEnv L' fa cd) E)
    (hret : ∀ h' tk' m'', Fr g' L' h' m'' → News g' L' h' X → s.toks ≤ tk' → (∀ y, y ≠ Str.ofString "node" → y ≠ Str.ofString "letter" → y ≠ Str.ofString "low" → y ≠ Str.ofString "high" → m'' y = m' y) → Qf .next { s with heap := h', toks := tk' }) :
    wpAny (model Challenge.rw_wf0091_01.prog w) (callerA.deeper (lwEnv L' fa cd)) (execs lwBody (lwEnv L' fa cd)) Qf E s := by
  with_reducible refine' execs_split (xs := [_]) (ys := lwBody.drop 1) ?q_e ?q_go
  case q_e => exact rfl
  obtain ⟨H, gs, dr, tks, os⟩ := s
  dsimp only at F' N' hret
  revert F' N' hret
  revert B' X' T' hE
  k_fill
  intro B' X' T' hE F' N' hret
  wrow_steps
  refine ⟨?_⟩
  rename News g' L' _ _ => kN
  rename Fr g' L' _ _ => kF
  have e : lwBody.drop 1 = .While _ _ [] _ :: lwBody.drop 2 := rfl
  rw [e]
  refine wpAny_execs_cons (While_T (DownJ rows X root root i m' tks) (n₀ := (4 - lev rows root).toNat) kF kN ?q_J ?q_t hE)
  case q_J =>
    refine ⟨root, tr, hnd, rfl, rfl, rfl, by dsimp only; omega, by with_unfolding_all rfl, fun y y1 y2 y3 y4 => by simp [y1]⟩
  case q_t =>
    intro n m₁ news₁ h₁ tk₁ F₁ N₁ hJ
    obtain ⟨node, t, hn, rfl, hev, rfl, hk1, g1, g2⟩ := hJ
    clear kF kN
    refine wpAny_mono (Q := fun b s₂ => b = decide (256 ≤ node) ∧ ∃ h' tk', tk₁ ≤ tk' ∧ s₂ = (⟨h', gs, dr, tk', os⟩ : Shared) ∧ Fr g' L' h' m₁ ∧ News g' L' h' news₁) ?q_test (fun b s₂ hb => ?q_body) (fun _ _ e => e)
    case q_test =>
      wrow_steps
      all_goals first | exact Nat.le_add_right _ _ | assumption
    case q_body =>
      obtain ⟨rfl, h2, tk2, hk2, rfl, F2, N2⟩ := hb
      by_cases c : 256 ≤ node
      · rw [decide_eq_true c, if_pos rfl]
        obtain ⟨j, r, rfl, hr⟩ := nd_row hn c
        obtain ⟨a, an, t1, t2, t3, hv, ha⟩ := row3 hR hr
        have hjl : j < rows.length := (List.getElem?_eq_some_iff.mp hr).1
        have hit : ItemAt vs (256 + (j : Int) - 256) (.ref a) := ⟨by omega, by omega, by rw [show (256 + (j : Int) - 256).toNat = j by omega]; exact hv⟩
        have g3 : m₁ (Str.ofString "which") = some (Value.int i ti) := (g2 _ (by decide) (by decide) (by decide) (by decide)).trans hm2
        have hlo := R.lo j r hr
        have hba := bit_and' hi hlo
        have hevr := ev_row R (x := i) hr
        have hch := R.nd j r hr
        have hlv := R.lv j r hr
        have hll := lev_at hr
        wrow_steps
        · rename News g' L' _ _ => kN
          rename Fr g' L' _ _ => kF
          rename Builtin.bitAnd _ _ ≠ 0 => hb1
          have hb2 : bitAt i r.1.toNat = true := by
            cases hh : bitAt i r.1.toNat with
            | true => rfl
            | false => rw [hba, hh] at hb1; exact absurd rfl hb1
          rw [hb2, if_pos rfl] at hevr
          have hl4 := lev_le R hch.2
          refine ⟨_, _, _, _, (4 - lev rows r.2.2).toNat, rfl, kF, kN, by rw [hll]; exact fall hlv.2 hlo.2, r.2.2, t3, hch.2, rfl, hevr.symm.trans hev, rfl, by (try dsimp only); omega, by with_unfolding_all rfl, fun y y1 y2 y3 y4 => ?_⟩
          simp only [if_neg y1, if_neg y2, if_neg y3, if_neg y4]
          exact g2 y y1 y2 y3 y4
        · rename News g' L' _ _ => kN
          rename Fr g' L' _ _ => kF
          rename Builtin.bitAnd _ _ = 0 => hb1
          have hb2 : bitAt i r.1.toNat = false := by
            cases hh : bitAt i r.1.toNat with
            | false => rfl
            | true => rw [hba, hh] at hb1; exact absurd hb1 (by decide)
          rw [hb2, if_neg Bool.false_ne_true] at hevr
          have hl4 := lev_le R hch.1
          refine ⟨_, _, _, _, (4 - lev rows r.2.1).toNat, rfl, kF, kN, by rw [hll]; exact fall hlv.1 hlo.2, r.2.1, t2, hch.1, rfl, hevr.symm.trans hev, rfl, by (try dsimp only); omega, by with_unfolding_all rfl, fun y y1 y2 y3 y4 => ?_⟩
          simp only [if_neg y1, if_neg y2, if_neg y3, if_neg y4]
          exact g2 y y1 y2 y3 y4
      · rw [decide_eq_false c, if_neg Bool.false_ne_true]
        have g3 : m₁ (Str.ofString "which") = some (Value.int i ti) := (g2 _ (by decide) (by decide) (by decide) (by decide)).trans hm2
        have hlt : node < 256 := by omega
        have hen : node = ev rows root i := by rw [← hev, ev_term hlt]
        have hbl : bs.length = 16 := by
          have := congrArg List.length hbs
          rw [List.length_map, tab_len] at this; exact this
        obtain ⟨t9, h9⟩ : ∃ t9, (bs.map intV)[i]? = some (.int node t9) := by
          have hb1 : (bs.map (·.1))[i]? = some node := by
            rw [hbs, tabOf, List.getElem?_map, List.getElem?_range hi, hen]; rfl
          rw [List.getElem?_map] at hb1
          obtain ⟨b, hb, e⟩ := Option.map_eq_some_iff.mp hb1
          exact ⟨b.2, by rw [List.getElem?_map, hb, ← e]; rfl⟩
        have hit : ItemAt (bs.map intV) (i : Int) (.int node t9) := ⟨by omega, by omega, by simpa using h9⟩
        wrow_steps
        all_goals first
          | (rename node ≠ node => hne; exact absurd rfl hne)
          | exact hret _ _ _ F2 N2 (by (try dsimp only); omega) g2
end
section
section
variable {prog : Program} {w : World} {A : Around} {s : Shared} {env : Env} {h₀ : Heap}
theorem iter_rng {R : Result → Shared → Prop} {E : Value → Shared → Prop} {x : Str} {px : Pos} {body : List Stmt} {r : Addr} {n : Nat} {tr ur vr : Tok} {m : Str → Option Value}
    {news : List (Addr × Obj)} (hh : A.handled = none) (hx : env.kindOf x = some .local)
    (hp : (env.scope.kind == .class || (env.scope.kind == .module && env.locals != env.globals)) = false)
    (hr : IsRange s.heap r 0 (n : Int) 1 tr ur vr) (hsm : Builtin.Range.small 0 (n : Int) 1 = true) (hsz : Builtin.Range.rangeSize 0 (n : Int) 1 = (n : Int)) (F : Fr h₀ env.locals s.heap m) (N : News h₀ env.locals s.heap news)
    (J : Nat → (Str → Option Value) → List (Addr × Obj) → Nat → Prop) (h0 : J 0 m news s.toks)
    (turn : ∀ i t m₁ news₁ h tk₁ tk I oI, i < n → oI.cls ≠ .type "tuple" → t = tk₁ → tk₁ ≤ tk → J i m₁ news₁ tk₁ → (∀ q ∈ news₁, q.1 ≠ I) →
      Fr h₀ env.locals h (fun y => if y = x then some (.int (i : Int) t) else m₁ y) → News h₀ env.locals h ((I, oI) :: news₁) →
      wpAny (model prog w) A (execs body env) (TurnT h₀ env.locals I oI [] s (J (i + 1)) (fun f s' => R (.ok f) s')) (notedBy (model prog w) A env fun e s' => R (.error e) s') { s with heap := h, toks := tk })
    (hR : ∀ h' tk m' news', Fr h₀ env.locals h' m' → News h₀ env.locals h' news' → J n m' news' tk → R (.ok .next) { s with heap := h', toks := tk }) :
    wpAny (model prog w) A (pyIter (.ref r)) (fun it s₂ => codeAny (model prog w) A (.forLoop (.Name x px) it body [] env) R s₂) E s := by
  refine wpAny_pyIter_range hr hsm ?_
  have W := WkT.range (prog := prog) (w := w) hh s.heap.objs.size 0 1 n
  refine forLoop_T (ls := []) W hx hp (fun e => absurd F.ns.lt (e ▸ Nat.lt_irrefl _)) (next_is_new F) (fun p hp e => absurd (Heap.lt_size (N p hp).1) (e ▸ Nat.lt_irrefl _)) (fun p hp => nomatch hp) ?_ (F.push _) (fun p hp => ⟨Heap.get?_push_of_some _ (N p hp).1, (N p hp).2⟩) J h0 ?_ hR
  · show Heap.get? _ _ = _
    rw [hsz, show (0 : Int) + ((0 : Nat) : Int) * 1 = 0 by omega, show (n : Int) - ((0 : Nat) : Int) = (n : Int) by omega]
    exact Heap.get?_push_size _ rfl
  · rintro i v m₁ news₁ h tk₁ tk₂ tk oI hi hcI rfl h12 h23 hJ hq _ F₁ N₁
    rw [show (0 : Int) + (i : Int) * 1 = (i : Int) by omega] at F₁
    exact turn i _ m₁ news₁ h tk₁ tk _ oI hi hcI rfl (Nat.le_trans h12 h23) hJ hq F₁ N₁
end
noncomputable def WhichJ (X : List (Addr × Obj)) (root : Int) (tr : Tok) (tk0 : Nat) (m0 : Str → Option Value) (_ : Nat) (m : Str → Option Value) (news : List (Addr × Obj)) (tk : Nat) : Prop :=
  news = X ∧ tk0 ≤ tk ∧ m (Str.ofString "root") = some (.int root tr)
local macro_rules | `(tactic| walk_at "pyIter ref") => `(tactic| (k_here; (with_reducible refine Stop.out ?_)))
set_option maxHeartbeats 2000000 in
theorem law_6 {w : World} {o2 o4 : Obj} {pl tb : Addr} {vs : List Value} {pn bn tk0 : Nat} {f : Nat → Int} {rows : List Row} {root : Int} {tr : Tok} {bs : List (Int × Tok)} {X : List (Addr × Obj)}
    (R : RowsOk rows) (hnd : Nd rows root) (hrl : rows.length ≤ 20000)
    (hc2 : (L' + 1 + 1, o2) ∈ X) (ho2 : o2.data = .cell (some (.ref pl))) (hpl : (pl, listOf vs.toArray pn) ∈ X) (hR : RowsIn f tk0 X vs rows)
    (hc4 : (L' + 1 + 1 + 1 + 1, o4) ∈ X) (ho4 : o4.data = .cell (some (.ref tb))) (htb : (tb, listOf (bs.map intV).toArray bn) ∈ X) (hbs : bs.map (·.1) = tabOf rows root)
    {base g' : Heap} {fa : Addr} {cd : Value} {s : Shared} {mean : ExcName → Option Value} {mg mb m' : Str → Option Value} {Qf : Flow → Shared → Prop} {E : Value → Shared → Prop}
    (B' : Below callerA base [] g') (F' : Fr g' L' s.heap m') (X' : (KK w.params).In g') (T' : Top qv looseL mean mg mb g')
    (N' : News g' L' s.heap X) (hm1 : m' (Str.ofString "root") = some (.int root tr)) (hE : PassesOwn (model Challenge.rw_wf0091_01.prog w) (callerA.deeper (lwEnv L' fa cd)) (lwEnv L' fa cd) E)
    (hret : ∀ h' tk' m'', Fr g' L' h' m'' → News g' L' h' X → s.toks ≤ tk' → m'' (Str.ofString "root") = some (.int root tr) →
      Stop (wpAny (model Challenge.rw_wf0091_01.prog w) (callerA.deeper (lwEnv L' fa cd)) (execs ((fnOfStm 83).2.1.drop 7) (lwEnv L' fa cd)) Qf E { s with heap := h', toks := tk' })) :
    wpAny (model Challenge.rw_wf0091_01.prog w) (callerA.deeper (lwEnv L' fa cd)) (execs ((fnOfStm 83).2.1.drop 6) (lwEnv L' fa cd)) Qf E s := by
  have e : (fnOfStm 83).2.1.drop 6 = .For (.Name (Str.ofString "which") _) _ lwBody [] _ :: (fnOfStm 83).2.1.drop 7 := rfl
  rw [e]
  obtain ⟨H, gs, dr, tks, os⟩ := s
  dsimp only at F' N' hret
  refine wpAny_execs_cons (wpAny_For ?_ (fun _ => rfl))
  refine wpAny_with_toks (Nat.le_refl _) ?_
  refine wp_gen fun Q2 hq => ?_
  revert F' N' hret
  revert B' X' T' hE
  k_fill
  intro B' X' T' hE F' N' hret
  wrow_steps
  rename News g' L' _ _ => kN
  rename Fr g' L' _ _ => kF
  rename IsRange _ _ _ _ _ _ _ _ => hrg
  refine (hq _ _ fun htk9 => ?_).out
  dsimp only at htk9
  refine iter_rng (h₀ := g') (n := 16) rfl rfl rfl hrg (by decide) (by decide) kF kN (WhichJ X root tr tks m') ⟨rfl, htk9, hm1⟩ ?_ ?_
  · intro i t m₁ news₁ h tk₁ tk I oI hi hcI _ hk hJ hq1 F₁ N₁
    obtain ⟨rfl, hk0, g1⟩ := hJ
    refine law_turn (ti := t) (tr := tr) (tk0 := tk0) R hnd hrl hi (.tail _ hc2) ho2 (.tail _ hpl) (hR.mono (fun p hp => .tail _ hp) (fun _ _ => rfl) (Nat.le_refl _)) (.tail _ hc4) ho4 (.tail _ htb) hbs B' F₁ X' T' N₁ ?q_1 ?q_2 (by passes_own) ?_
    case q_1 => rw [if_neg (by decide)]; exact g1
    case q_2 => with_unfolding_all rfl
    intro h' tk' m'' F2 N2 hk2 g2
    refine ⟨h', tk', m'', news₁, rfl, F2, N2, hq1, (fun q hq => nomatch hq), rfl, ?_, ?_⟩
    · dsimp only at hk2; omega
    · rw [g2 _ (by decide) (by decide) (by decide) (by decide)]
      (try dsimp only)
      rw [if_neg (by decide)]; exact g1
  · intro h' tk' m'' news' F₁ N₁ hJ
    obtain ⟨rfl, hk0, g1⟩ := hJ
    exact (hret h' tk' m'' F₁ N₁ hk0 g1).out
end
section
set_option maxHeartbeats 2000000 in
theorem law_7 {w : World} {root : Int} {tr : Tok} {X : List (Addr × Obj)}
    {base g' : Heap} {L' fa : Addr} {cd : Value} {s : Shared} {mean : ExcName → Option Value} {mg mb m' : Str → Option Value} {Qf : Flow → Shared → Prop} {E : Value → Shared → Prop}
    (B' : Below callerA base [] g') (F' : Fr g' L' s.heap m') (X' : (KK w.params).In g') (T' : Top qv looseL mean mg mb g')
    (N' : News g' L' s.heap X) (hm1 : m' (Str.ofString "root") = some (.int root tr))
    (hret : ∀ ra wa h' tk' m'', Fr g' L' h' m'' → News g' L' h' ((wa, listOf #[.int root tr] 0) :: (ra, listOf #[] 0) :: X) → s.toks ≤ tk' → @LT.lt Nat _ ra wa → (∀ p ∈ X, @LT.lt Nat _ p.1 ra) → m'' (Str.ofString "reached") = some (.ref ra) → m'' (Str.ofString "waiting") = some (.ref wa) →
      Stop (wpAny (model Challenge.rw_wf0091_01.prog w) (callerA.deeper (lwEnv L' fa cd)) (execs ((fnOfStm 83).2.1.drop 9) (lwEnv L' fa cd)) Qf E { s with heap := h', toks := tk' })) :
    wpAny (model Challenge.rw_wf0091_01.prog w) (callerA.deeper (lwEnv L' fa cd)) (execs ((fnOfStm 83).2.1.drop 7) (lwEnv L' fa cd)) Qf E s := by
  with_reducible refine' execs_split (xs := [_, _]) (ys := (fnOfStm 83).2.1.drop 9) ?q_e ?q_go
  case q_e => exact rfl
  obtain ⟨H, gs, dr, tks, os⟩ := s
  dsimp only at F' N' hret
  revert F' N' hret
  revert B' X' T'
  k_fill
  intro B' X' T' F' N' hret
  wrow_steps
  rename News g' L' _ _ => kN
  rename Fr g' L' _ _ => kF
  rename _ < _ ∧ AllLt _ X => l2
  rename ∀ p ∈ X, _ => l1
  exact hret _ _ _ _ _ kF kN (by omega) l2.1 l1 (by with_unfolding_all rfl) (by with_unfolding_all rfl)
end
section
noncomputable def ReachJ (rows : List Row) (X : List (Addr × Obj)) (root : Int) (wa ra : Addr) (tk0 : Nat) (n : Nat) (m : Str → Option Value) (news : List (Addr × Obj)) (tk : Nat) : Prop :=
  ∃ (wps rps : List (Int × Tok)) (wn rn : Nat), n = 3 * (rows.length - rps.length) + wps.length ∧ DInv rows root (rps.map (·.1)) (wps.map (·.1)) ∧ news = (wa, listOf (wps.map intV).toArray wn) :: (ra, listOf (rps.map intV).toArray rn) :: X ∧ tk0 ≤ tk ∧ m (Str.ofString "reached") = some (.ref ra) ∧ m (Str.ofString "waiting") = some (.ref wa)
section
variable {prog : Program} {w : World} {A : Around} {E : Value → Shared → Prop} {s : Shared}
open PySem.SeqAt
theorem ints_notIn {a : Addr} {n : Nat} {ps : List (Int × Tok)} {x : Int} {t : Tok} {Q : Value → Shared → Prop} (ha : s.heap.get? a = some (listOf (ps.map intV).toArray n))
    (h : Q (.bool (!decide (x ∈ ps.map (·.1)))) s) : wpAny (model prog w) A (compareOp .NotIn (.int x t) (.ref a)) Q E s := by
  refine notIn_listAt (fun y => match y with | .int i _ => i == x | _ => false) (isList_at ha) (fun y hy => ?_) ?_
  · simp only [List.mem_toArray, List.mem_map] at hy
    obtain ⟨p, _, rfl⟩ := hy
    exact EqAt.int_int _ _ _ _
  · have e : (ps.map intV).toArray.any (fun y => match y with | .int i _ => i == x | _ => false) = decide (x ∈ ps.map (·.1)) := by
      rw [List.any_toArray]
      apply Bool.eq_iff_iff.mpr
      rw [List.any_eq_true, decide_eq_true_iff]
      constructor
      · rintro ⟨y, hy, h⟩
        obtain ⟨p, hp, rfl⟩ := List.mem_map.mp hy
        exact List.mem_map.mpr ⟨p, hp, beq_iff_eq.mp h⟩
      · intro h
        obtain ⟨p, hp, e⟩ := List.mem_map.mp h
        exact ⟨intV p, List.mem_map_of_mem hp, beq_iff_eq.mpr e⟩
    rw [e]; exact h
end
theorem slice_tup1 {prog : Program} {w : World} {A : Around} {E : Value → Shared → Prop} {s : Shared} {h₀ : Heap} {L t : Addr} {m : Str → Option Value} {news : List (Addr × Obj)} {value slice : PySem.Expr} {v1 v2 v3 : Value} {u : Tok} {Q : Value → Shared → Prop} (F : Fr h₀ L s.heap m) (N : News h₀ L s.heap news) (ht : IsTup s.heap t #[v1, v2, v3])
    (h : ∀ D h', Fr h₀ L h' m → News h₀ L h' ((D, tupO [v2, v3] 0) :: news) → (∀ p ∈ news, @LT.lt Nat _ p.1 D) → Q (.ref D) { s with heap := h' })
    (hs : subscripted slice false (.ref t) (.ref s.heap.objs.size) = operate [.ref s.heap.objs.size, .ref t] (getItem (.ref t) (.ref s.heap.objs.size)) := by with_unfolding_all rfl) (hg : ∀ r, letTemporaryGo value (.ref t) r = pure () := by intro _; with_unfolding_all rfl) :
    wpAny (model prog w) A (subscriptTail value slice (.ref t) (.ref s.heap.objs.size)) Q E { s with heap := s.heap.push { cls := .type "slice", data := .fields #[.int 1 u, .none, .none] } } :=
  slice_tuple_from (a := 1) F N ht (Nat.le_refl _) (by simp) (fun h' F' N' => h _ h' F' N' fun p hp => Nat.lt_succ_of_lt (Heap.lt_size (N p hp).1)) hs hg (by show 3 ≤ sizeLine; decide +kernel)
theorem ext_T {prog : Program} {w : World} {A : Around} {E : Value → Shared → Prop} {s : Shared} {h₀ : Heap} {L D b : Addr} {m : Str → Option Value} {news news' : List (Addr × Obj)} {us mvs : List Value} {n n2 : Nat} {Q : Value → Shared → Prop} (F : Fr h₀ L s.heap m) (N : News h₀ L s.heap news) (hb : (b, tupO mvs n2) ∈ news)
    (U : Upd D (listOf us.toArray n) (listOf (us ++ mvs).toArray (n + 1)) news news') (hne : 1 ≤ mvs.length) (hz : us.length + mvs.length ≤ 100000)
    (h : ∀ h', Fr h₀ L h' m → News h₀ L h' news' → Q .none { s with heap := h' }) : wpAny (model prog w) A (call (.builtin "list.extend") [.ref D, .ref b]) Q E s := by
  refine kup_extend F N hb (l := us ++ mvs) (by simp) (by simp; intro e; rw [e] at hne; simp at hne) U ?_ (by simp [sizeLine_eq]; omega) (by simp [sizeLine_eq]; omega) h
  rw [not_long (by simpa using hz), Bool.and_false]
  exact Bool.false_ne_true
local macro_rules | `(tactic| walk_at "call builtin:list.extend") => `(tactic| (k_here; (with_reducible refine Stop.out ?_)))
local macro_rules | `(tactic| walk_at "subscriptTail Name Slice ref ref") => `(tactic| (k_here; (with_reducible refine Stop.out ?_)))
local macro_rules | `(tactic| walk_at "subscriptTail") => `(tactic| (k_here; (with_reducible show wpAny _ _ (subscriptTail _ _ (Value.ref _) (Value.ref _)) _ _ _); (with_reducible refine Stop.out ?_)))
local macro_rules | `(tactic| walk_at "compareOp NotEq") => `(tactic| (k_here; (with_reducible refine Stop.out ?_)))
local macro_rules | `(tactic| walk_at "compareOp NotEq ref") => `(tactic| (k_here; (with_reducible refine Stop.out ?_)))
local macro_rules | `(tactic| walk_at "compareOp NotEq ref ref") => `(tactic| (k_here; (with_reducible refine Stop.out ?_)))
local macro_rules | `(tactic| walk_at "compareOp NotIn") => `(tactic| (k_here; (with_reducible refine Stop.out ?_)))
local macro_rules | `(tactic| walk_at "compareOp NotIn int ref") => `(tactic| (k_here; (with_reducible refine Stop.out ?_)))
set_option maxHeartbeats 2000000 in
theorem law_8 {w : World} {o2 : Obj} {pl ra wa : Addr} {vs : List Value} {pn tk0 : Nat} {f : Nat → Int} {rows : List Row} {root : Int} {tr : Tok} {X : List (Addr × Obj)}
    (R : RowsOk rows) (hnd : Nd rows root) (hrl : rows.length ≤ 20000)
    (hc2 : (L' + 1 + 1, o2) ∈ X) (ho2 : o2.data = .cell (some (.ref pl))) (hpl : (pl, listOf vs.toArray pn) ∈ X) (hR : RowsIn f tk0 X vs rows)
    (hrw : @LT.lt Nat _ ra wa) (hXr : ∀ p ∈ X, @LT.lt Nat _ p.1 ra)
    {base g' : Heap} {fa : Addr} {cd : Value} {s : Shared} {mean : ExcName → Option Value} {mg mb m' : Str → Option Value} {Qf : Flow → Shared → Prop} {E : Value → Shared → Prop}
    (B' : Below callerA base [] g') (F' : Fr g' L' s.heap m') (X' : (KK w.params).In g') (T' : Top qv looseL mean mg mb g')
    (N' : News g' L' s.heap ((wa, listOf #[.int root tr] 0) :: (ra, listOf #[] 0) :: X)) (hm1 : m' (Str.ofString "reached") = some (.ref ra)) (hm2 : m' (Str.ofString "waiting") = some (.ref wa)) (hE : PassesOwn (model Challenge.rw_wf0091_01.prog w) (callerA.deeper (lwEnv L' fa cd)) (lwEnv L' fa cd) E)
    (hret : ∀ (rps : List (Int × Tok)) rn h' tk' m'', Fr g' L' h' m'' → News g' L' h' ((ra, listOf (rps.map intV).toArray rn) :: X) → s.toks ≤ tk' → DInv rows root (rps.map (·.1)) [] → m'' (Str.ofString "reached") = some (.ref ra) →
      Stop (wpAny (model Challenge.rw_wf0091_01.prog w) (callerA.deeper (lwEnv L' fa cd)) (execs ((fnOfStm 83).2.1.drop 10) (lwEnv L' fa cd)) Qf E { s with heap := h', toks := tk' })) :
    wpAny (model Challenge.rw_wf0091_01.prog w) (callerA.deeper (lwEnv L' fa cd)) (execs ((fnOfStm 83).2.1.drop 9) (lwEnv L' fa cd)) Qf E s := by
  have e : (fnOfStm 83).2.1.drop 9 = .While _ _ [] _ :: (fnOfStm 83).2.1.drop 10 := rfl
  rw [e]
  obtain ⟨H, gs, dr, tks, os⟩ := s
  dsimp only at F' N' hret
  revert F' N' hret
  revert B' X' T' hE
  k_fill
  intro B' X' T' hE F' N' hret
  refine wpAny_execs_cons (While_T (ReachJ rows X root wa ra tks) (n₀ := 3 * (rows.length - 0) + 1) F' N' ?q_J ?q_t hE)
  case q_J => exact ⟨[(root, tr)], [], 0, 0, rfl, .start, rfl, Nat.le_refl _, hm1, hm2⟩
  case q_t =>
    intro n m₁ news₁ h₁ tk₁ F₁ N₁ hJ
    obtain ⟨wps, rps, wn, rn, rfl, hD, rfl, hk1, g1, g2⟩ := hJ
    have hbd := DInv.bound R hnd hD
    have hln := hD.len
    simp only [List.length_map] at hbd hln
    refine wpAny_mono (Q := fun b s₂ => b = decide (wps ≠ []) ∧ ∃ h' tk', tk₁ ≤ tk' ∧ s₂ = (⟨h', gs, dr, tk', os⟩ : Shared) ∧ Fr g' L' h' m₁ ∧ News g' L' h' ((wa, listOf (wps.map intV).toArray wn) :: (ra, listOf (rps.map intV).toArray rn) :: X)) ?q_test (fun b s₂ hb => ?q_body) (fun _ _ e => e)
    case q_test =>
      refine wpAny_with_toks (n := tk₁) (Nat.le_refl _) ?_
      wrow_steps
      refine ⟨?_⟩
      rename News g' L' _ _ => kN
      rename Fr g' L' _ _ => kF
      refine tabs_ne (ps := wps) (qs := []) (kN _ (.tail _ (.head _))).1 (kN _ (.head _)).1 ?q_u ?_
      case q_u => (first | decide | ktr_units)
      wrow_steps
      · cases wps <;> simp
      · exact Nat.le_refl _
      · exact kF
      · exact News.sub kN fun p hp => .tail _ hp
    case q_body =>
      obtain ⟨rfl, h2, tk2, hk2, rfl, F2, N2⟩ := hb
      by_cases c : wps = []
      · subst c
        rw [decide_eq_false (by simp), if_neg Bool.false_ne_true]
        exact (hret rps rn h2 tk2 m₁ F2 (News.sub N2 fun p hp => .tail _ hp) (by (try dsimp only); omega) hD g1).out
      · rw [decide_eq_true c, if_pos rfl]
        obtain ⟨us, ⟨x, t⟩, rfl⟩ : ∃ us v, wps = us ++ [v] := ⟨wps.dropLast, wps.getLast c, (List.dropLast_concat_getLast c).symm⟩
        simp only [List.map_append, List.map_cons, List.map_nil, List.length_append, List.length_singleton] at hD hln N2
        change News g' L' _ ((wa, listOf (us.map intV ++ [Value.int x t]).toArray wn) :: _) at N2
        have hul : (us.map intV).length ≤ 100000 := by simp; omega
        have hXw : ∀ p ∈ X, p.1 ≠ wa := fun p hp => Nat.ne_of_lt (Nat.lt_trans (hXr p hp) hrw)
        have hXra : ∀ p ∈ X, p.1 ≠ ra := fun p hp => Nat.ne_of_lt (hXr p hp)
        have hwr : @Ne Nat wa ra := Nat.ne_of_gt hrw
        have hxn : Nd rows x := Reach.nd R hnd (hD.wt x (List.mem_append_right _ (.head _)))
        by_cases c3 : 256 ≤ x
        · obtain ⟨j, r, rfl, hr⟩ := nd_row hxn c3
          obtain ⟨a, an, t1, t2, t3, hv, ha⟩ := row3 hR hr
          have hjl : j < rows.length := (List.getElem?_eq_some_iff.mp hr).1
          have hit : ItemAt vs (256 + (j : Int) - 256) (.ref a) := ⟨by omega, by omega, by rw [show (256 + (j : Int) - 256).toNat = j by omega]; exact hv⟩
          wrow_steps
          refine ⟨?_⟩
          rename News g' L' _ _ => kN
          rename Fr g' L' _ _ => kF
          refine ints_notIn (ps := rps) (kN _ (.tail _ (.head _))).1 ?_
          by_cases c2 : 256 + (j : Int) ∈ rps.map (·.1)
          · rw [decide_eq_true c2]
            wrow_steps
            rename News g' L' _ _ => kN
            rename Fr g' L' _ _ => kF
            refine ⟨_, _, _, _, 3 * (rows.length - rps.length) + us.length, rfl, kF, kN, ?_, us, rps, wn + 1, rn, rfl, DInv.skip hD (.inr c2), rfl, ?_, ?_, ?_⟩
            · simp
            · (try dsimp only); omega
            · with_unfolding_all exact g1
            · with_unfolding_all exact g2
          · rw [decide_eq_false c2]
            wrow_steps
            refine ⟨?_⟩
            rename News g' L' _ _ => kN
            rename Fr g' L' _ _ => kF
            have ha' := (kN _ (.tail _ (.tail _ ha))).1
            refine kba_turn (value' := PySem.Expr.Name (PySem.Str.ofString "_") ⟨0, 0, 0, 0⟩) (fun _ => rfl) ?_
            refine slice_tup1 (s := ⟨_, _, _, _, _⟩) kF kN ⟨_, ha', rfl, _, rfl⟩ ?_
            intro D h9 F9 N9 hlt9
            have hlt9' : ∀ p ∈ X, @LT.lt Nat _ p.1 D := fun p hp => hlt9 p (.tail _ (.tail _ hp))
            clear kN kF
            have hwD : @Ne Nat wa D := Nat.ne_of_lt (hlt9 _ (.head _))
            wrow_steps
            refine ⟨?_⟩
            rename News g' L' _ _ => kN
            rename Fr g' L' _ _ => kF
            refine ext_T (us := us.map intV) (n := wn + 1) (mvs := [.int r.2.1 t2, .int r.2.2 t3]) (n2 := 0) (news' := (wa, listOf (us.map intV ++ [Value.int r.2.1 t2, .int r.2.2 t3]).toArray (wn + 1 + 1)) :: (D, tupO [.int r.2.1 t2, .int r.2.2 t3] 0) :: (ra, listOf (rps.map intV ++ [Value.int (256 + (j : Int)) t]).toArray (rn + 1)) :: X) kF (News.sub (l' := (wa, listOf (us.map intV).toArray (wn + 1)) :: (D, tupO [.int r.2.1 t2, .int r.2.2 t3] 0) :: (ra, listOf (rps.map intV ++ [Value.int (256 + (j : Int)) t]).toArray (rn + 1)) :: X) kN ?q_s) (.tail _ (.head _)) (Upd.head ?q_h) (by simp) (by simp; omega) ?_
            case q_s =>
              intro p hp
              have e9 : (rps.map intV).toArray.push (Value.int (256 + (j : Int)) t) = (rps.map intV ++ [Value.int (256 + (j : Int)) t]).toArray := by simp
              rw [e9]
              exact swap2 p hp
            case q_h =>
              intro p hp
              rcases List.mem_cons.mp hp with rfl | hp
              · exact fun e => hwD e.symm
              rcases List.mem_cons.mp hp with rfl | hp
              · exact fun e => hwr e.symm
              · exact hXw p hp
            intro h8 F8 N8
            clear kN kF
            wrow_steps
            rename News g' L' _ _ => kN
            rename Fr g' L' _ _ => kF
            refine ⟨_, _, _, _, 3 * (rows.length - (rps ++ [(256 + (j : Int), t)]).length) + (us ++ [(r.2.1, t2), (r.2.2, t3)]).length, rfl, kF, News.sub (l' := (wa, listOf ((us ++ [(r.2.1, t2), (r.2.2, t3)]).map intV).toArray (wn + 1 + 1)) :: (ra, listOf ((rps ++ [(256 + (j : Int), t)]).map intV).toArray (rn + 1)) :: X) kN ?q_s2, ?q_m, us ++ [(r.2.1, t2), (r.2.2, t3)], rps ++ [(256 + (j : Int), t)], wn + 1 + 1, rn + 1, rfl, ?q_d, rfl, ?q_k, ?q_1, ?q_2⟩
            case q_s2 =>
              intro p hp
              simp only [List.map_append, List.map_cons, List.map_nil] at hp
              rcases List.mem_cons.mp hp with rfl | hp
              · exact .head _
              · exact .tail _ (.tail _ hp)
            case q_m =>
              have hb2 := DInv.bound R hnd (DInv.take hD hr c2)
              simp only [List.length_append, List.length_map, List.length_cons, List.length_nil] at hb2 ⊢
              omega
            case q_d =>
              simp only [List.map_append, List.map_cons, List.map_nil]
              exact DInv.take hD hr c2
            case q_k => (try dsimp only); omega
            case q_1 => with_unfolding_all exact g1
            case q_2 => with_unfolding_all exact g2
        · wrow_steps
          rename News g' L' _ _ => kN
          rename Fr g' L' _ _ => kF
          refine ⟨_, _, _, _, 3 * (rows.length - rps.length) + us.length, rfl, kF, kN, ?_, us, rps, wn + 1, rn, rfl, DInv.skip hD (.inl (by omega)), rfl, ?_, ?_, ?_⟩
          · simp
          · (try dsimp only); omega
          · with_unfolding_all exact g1
          · with_unfolding_all exact g2
end
section
theorem row3t {f : Nat → Int} {tk : Nat} {T : List (Addr × Obj)} {vs : List Value} {rows : List Row} (h : RowsIn f tk T vs rows) {j : Nat} {r : Row} (hr : rows[j]? = some r) : ∃ (a : Addr) (n : Nat) (t1 t2 t3 : Tok), vs[j]? = some (.ref a) ∧ (a, tupO [.int r.1 t1, .int r.2.1 t2, .int r.2.2 t3] n) ∈ T ∧ TkAt f tk r.1 t1 := by
  have hj := (List.getElem?_eq_some_iff.mp hr).1
  obtain ⟨a, n, ps, e, hm, hp, ht⟩ := h.2 j _ r (List.getElem?_eq_getElem (h.1 ▸ hj)) hr
  obtain ⟨t1, t2, t3, rfl⟩ := map3 hp
  exact ⟨a, n, t1, t2, t3, by rw [List.getElem?_eq_getElem (h.1 ▸ hj), e], hm, ht (r.1, t1) (.head _)⟩
local macro_rules | `(tactic| walk_at "exec Assign cons ListComp") => `(tactic| (k_here; (with_reducible refine Stop.out ?_)))
open LCg in
set_option maxHeartbeats 2000000 in
theorem law_9 {w : World} {o2 : Obj} {pl ra : Addr} {vs : List Value} {pn rn tk0 : Nat} {f : Nat → Int} {rows : List Row} {rps : List (Int × Tok)} {X : List (Addr × Obj)}
    (hc2 : (L' + 1 + 1, o2) ∈ X) (ho2 : o2.data = .cell (some (.ref pl))) (hpl : (pl, listOf vs.toArray pn) ∈ X) (hR : RowsIn f tk0 X vs rows) (hra : (ra, listOf (rps.map intV).toArray rn) ∈ X) (hrl : rows.length ≤ 20000) (hz : rps.length ≤ 1000)
    (hrn : ∀ p ∈ rps, Nd rows p.1 ∧ 256 ≤ p.1)
    {base g' : Heap} {fa : Addr} {cd : Value} {s : Shared} {mean : ExcName → Option Value} {mg mb m' : Str → Option Value} {Qf : Flow → Shared → Prop} {E : Value → Shared → Prop}
    (B' : Below callerA base [] g') (F' : Fr g' L' s.heap m') (X' : (KK w.params).In g') (T' : Top qv looseL mean mg mb g')
    (N' : News g' L' s.heap X) (hm1 : m' (Str.ofString "reached") = some (.ref ra))
    (hret : ∀ (la : Addr) (lvs : List Value) (ln : Nat) h' tk', Fr g' L' h' (fun z => if z = Str.ofString "letters" then some (.ref la) else m' z) → News g' L' h' ((la, listOf lvs.toArray ln) :: X) → s.toks ≤ tk' → IntsIn f tk0 lvs ((rps.map (·.1)).map (lev rows)) → (∀ p ∈ X, @Ne Nat p.1 la) →
      Stop (wpAny (model Challenge.rw_wf0091_01.prog w) (callerA.deeper (lwEnv L' fa cd)) (execs ((fnOfStm 83).2.1.drop 11) (lwEnv L' fa cd)) Qf E { s with heap := h', toks := tk' })) :
    wpAny (model Challenge.rw_wf0091_01.prog w) (callerA.deeper (lwEnv L' fa cd)) (execs ((fnOfStm 83).2.1.drop 10) (lwEnv L' fa cd)) Qf E s := by
  with_reducible refine' execs_split (xs := [_]) (ys := (fnOfStm 83).2.1.drop 11) ?q_e ?q_go
  case q_e => exact rfl
  obtain ⟨H, gs, dr, tks, os⟩ := s
  dsimp only at F' N' hret
  revert F' N' hret
  revert B' X' T'
  k_fill
  intro B' X' T' F' N' hret
  wrow_steps
  rename tks ≤ _ => htk1
  refine ⟨?_⟩
  refine Assign_ListComp_V (h₀ := g') (L := L') (m := m') (cl := [(Str.ofString "pool", L' + 1 + 1)]) F' rfl (by with_unfolding_all rfl) (by with_unfolding_all rfl) (by decide) rfl (by decide) rfl rfl rfl rfl ?_ (by intro _; rfl)
  refine wp_gen fun Q2 hq => ?_
  wrow_steps
  rename News g' L' _ _ => kN
  rename Fr g' L' _ _ => kF
  refine (hq _ _ ⟨ra, rps.map intV, rn, X, fun i y => ∃ t, y = .int (((rps.map (·.1)).map (lev rows)).getD i 0) t ∧ TkAt f tk0 (((rps.map (·.1)).map (lev rows)).getD i 0) t, rfl, hra, by simpa using hz, ⟨_, _, rfl⟩, kF, kN, ?_, ?_⟩).out
  · intro i v C oC TT m₂ s₂ E' hv hC hp hsub F₂ N₂
    rw [List.getElem?_map] at hv
    obtain ⟨⟨x, t⟩, hpi, rfl⟩ := Option.map_eq_some_iff.mp hv
    have hxm := hrn _ (List.mem_of_getElem? hpi)
    obtain ⟨j, r, e, hr⟩ := nd_row hxm.1 hxm.2
    dsimp only at e
    subst e
    obtain ⟨a, an, t1, t2, t3, hva, ha, ht1⟩ := row3t hR hr
    have hjl : j < rows.length := (List.getElem?_eq_some_iff.mp hr).1
    have hit : ItemAt vs (256 + (j : Int) - 256) (.ref a) := ⟨by omega, by omega, by rw [show (256 + (j : Int) - 256).toNat = j by omega]; exact hva⟩
    have hxd : ((rps.map (·.1)).map (lev rows)).getD i 0 = r.1 := by
      rw [List.getD_eq_getElem?_getD, List.getElem?_map, List.getElem?_map, hpi]
      exact lev_at hr
    change m₂ (Str.ofString "one") = some (Value.int (256 + (j : Int)) t) at hp
    have hc2' : (L' + 1 + 1, o2) ∈ (C, oC) :: TT := .tail _ (hsub _ hc2)
    have hpl' : (pl, listOf vs.toArray pn) ∈ (C, oC) :: TT := .tail _ (hsub _ hpl)
    have ha' : (a, tupO [.int r.1 t1, .int r.2.1 t2, .int r.2.2 t3] an) ∈ (C, oC) :: TT := .tail _ (hsub _ ha)
    obtain ⟨H2, gs2, dr2, tk2, os2⟩ := s₂
    dsimp only at F₂ N₂
    refine wp_gen fun Q3 hq3 => ?_
    replace hq3 : ∀ h' tk', Fr g' L' h' m' → News g' L' h' ((C, oC) :: TT) → Stop (Q3 (.int r.1 t1) { heap := h', gens := gs2, drawn := dr2, toks := tk', os := os2 }) := fun h' tk' F N => hq3 _ _ ⟨⟨t1, by rw [hxd], by rw [hxd]; exact ht1⟩, _, _, rfl, F, N⟩
    clear hq hret kF kN
    revert F₂ N₂
    revert B' X' T'
    k_fill
    intro B' X' T' F₂ N₂
    wrow_steps
    rename News g' L' _ _ => kN
    rename Fr g' L' _ _ => kF
    exact (hq3 _ _ kF kN).out
  · intro D ys h tk hyl hys F2 N2 hD htk2
    dsimp only at htk2
    obtain ⟨lps, rfl, hlps⟩ := tab_of hyl fun i y h => by obtain ⟨t, e, _⟩ := hys i y h; exact ⟨t, e⟩
    refine wpAny_execs_nil (hret D _ _ h tk F2 N2 (by omega) ⟨lps, rfl, ?_, ?_⟩ hD)
    · rw [hlps]
      apply List.ext_getElem?
      intro i
      rw [List.getElem?_map]
      by_cases hi : i < rps.length
      · rw [List.getElem?_range (by simpa using hi)]
        simp [List.getD_eq_getElem?_getD, hi]
      · rw [List.getElem?_eq_none (by simp; omega), List.getElem?_eq_none (by simp; omega)]; rfl
    · intro p hp
      obtain ⟨i, hi, rfl⟩ := List.getElem_of_mem hp
      obtain ⟨t, e, ht⟩ := hys i (intV lps[i]) (by rw [List.getElem?_map, List.getElem?_eq_getElem hi]; rfl)
      have e1 := congrArg (fun | Value.int i t => (i, t) | _ => (0, 0)) e
      have e2 : lps[i] = (_, t) := e1
      rw [e2]
      exact ht
end
section
section
variable {prog : Program} {w : World} {A : Around} {E : Value → Shared → Prop} {s : Shared} {h₀ : Heap} {L : Addr} {m : Str → Option Value} {env : Env}
open LCg
theorem rangec_st {I : Addr} {a c : Int} {n : Nat} : ∀ i (h h' : Heap) (o : Obj) (nw : List (Addr × Obj)), IsRangeIter h I (a + (i : Nat) * c) ((n : Int) - (i : Nat)) c → h.get? I = some o → h'.get? I = some o → (∀ b o, h₀.get? b = some o → h'.get? b = some o) → News h₀ L h' nw → True → IsRangeIter h' I (a + (i : Nat) * c) ((n : Int) - (i : Nat)) c :=
  fun i h h' o nw st e e' _ _ _ => by
    have st' : h.get? I = some _ := st
    show h'.get? I = some _
    rw [e', ← e]; exact st'
theorem ListComp_R {elt iter : Expr} {x : Str} {px : Pos} {scope : Scope} {cl : List (Str × Addr)} {pos : Pos} {Q : Value → Shared → Prop}
    (hclos : closureFor scope env = pure cl) (hcell : ∀ y ∈ scope.names, y.2 ≠ .cell) (hkind : scope.kind = .function)
    (hnames : ∀ y ∈ scope.names, y.2 = .local → scope.names.lookup y.1 = some .local) (hx : scope.names.lookup x = some .local)
    (h : wpAny (model prog w) A (eval iter env) (fun xv s₁ => ∃ (r : Addr) (a b c : Int) (t u v : Tok) (n : Nat) (news : List (Addr × Obj)), xv = .ref r ∧ A.handled = none ∧ Fr h₀ L s₁.heap m ∧ News h₀ L s₁.heap news ∧ IsRange s₁.heap r a b c t u v ∧ Builtin.Range.small a b c = true ∧ Builtin.Range.rangeSize a b c = ((n : Nat) : Int) ∧ n ≤ sizeLine ∧
      ∀ s₂ : Shared, (∃ h, s₂ = { s₁ with heap := h }) → CompRest prog w A h₀ L m env elt x scope cl s₂ (fun _ => True) (fun i v => i < n ∧ ∃ t, v = .int (a + (i : Int) * c) t) (FinE h₀ L m s₂ Q) n 0 [] news) E s)
    (hs : ∀ x, foldedSetIterable iter env x = pure x := by intro _; rfl) :
    wpAny (model prog w) A (eval (.ListComp elt [⟨.Name x px, iter, [], 0⟩] scope pos) env) Q E s := by
  rw [eval_ListComp]
  refine wpAny_comprehension_free (use := none) rfl hs hclos hkind hnames (wpAny_mono h (fun xv s₁ h₁ => ?_) fun _ _ e => e)
  obtain ⟨r, a, b, c, t, u, v, n, news, rfl, hh, F, N, hr, hsm, hn, hsz, R⟩ := h₁
  refine wpAny_pyIter_range hr hsm ?_
  refine block_U ((Walks.range hh s₁.heap.objs.size a c n).bound) hsz (fun i h st => ⟨_, st⟩) rangec_st hcell hkind hx (by show IsRangeIter _ _ _ _ _; rw [hn]; simpa using Heap.get?_push_size _ rfl) (fun b hb => ?_)
    (F.keeps fun _ _ e => Heap.get?_push_of_some _ e) (N.grown fun _ _ e => Heap.get?_push_of_some _ e) (Nat.ne_of_lt F.ns.lt) (next_is_new F) (fun p hp => Nat.ne_of_lt (Heap.lt_size (N p hp).1)) trivial (R _ ⟨_, rfl⟩) ?_
  · rw [List.mem_singleton.mp hb]
    show s₁.heap.objs.size < (s₁.heap.push _).objs.size
    rw [Heap.size_push]; exact Nat.lt_succ_self _
  · intro D C h tk m' ys news' F' N' o1 hn hC₀ hD₀ hCL hDL hCD offC fin
    refine ⟨m', hn, fun h'' hs'' => fin D h'' tk (F'.change hs'' hCL hC₀) (fun p hp => ?_) o1⟩
    refine ⟨hs''.extBut _ _ ?_ (N' p hp).1, (N' p hp).2⟩
    rcases List.mem_cons.mp hp with rfl | hp
    · exact Ne.symm hCD
    · exact offC p hp
end
end
section
noncomputable def lw11 : List Stmt := bodyAt (fnOfStm 83).2.1 11
noncomputable def parts1E : PySem.Expr := (stAt lw11 1).1
noncomputable def parts2E : PySem.Expr := (stAt lw11 2).1
theorem shr_cases {p : Nat} (hp : p < 4) : p = 0 ∧ shr p = 16 ∧ 2 ^ p = 1 ∨ p = 1 ∧ shr p = 8 ∧ 2 ^ p = 2 ∨ p = 2 ∧ shr p = 4 ∧ 2 ^ p = 4 ∨ p = 3 ∧ shr p = 2 ∧ 2 ^ p = 8 := by
  have : p = 0 ∨ p = 1 ∨ p = 2 ∨ p = 3 := by omega
  rcases this with rfl | rfl | rfl | rfl <;> decide
theorem shr_le {p : Nat} (hp : p < 4) : 2 ≤ shr p ∧ shr p ≤ 16 := by rcases shr_cases hp with ⟨_, e, _⟩ | ⟨_, e, _⟩ | ⟨_, e, _⟩ | ⟨_, e, _⟩ <;> rw [e] <;> decide
theorem pow_le {p : Nat} (hp : p < 4) : 2 ^ p ≤ 16 := Nat.pow_le_pow_right (by decide) (Nat.le_of_lt hp)
theorem min_part {kk sz : Nat} (h : kk + sz ≤ 16) : min ((kk : Int) + (sz : Int)).toNat 16 - kk = sz := by
  rw [show ((kk : Int) + (sz : Int)).toNat = kk + sz from rfl, Nat.min_eq_left h, Nat.add_sub_cancel_left]
theorem part_le {p i : Nat} (hp : p < 4) (hi : i < 2 ^ p) : i * shr p + shr p ≤ 16 := by
  rcases shr_cases hp with ⟨rfl, e, e2⟩ | ⟨rfl, e, e2⟩ | ⟨rfl, e, e2⟩ | ⟨rfl, e, e2⟩ <;> rw [e2] at hi <;> rw [e] <;> omega
open LCg in
set_option maxHeartbeats 2000000 in
theorem parts1_comp {w : World} {o4 o5 : Obj} {tb : Addr} {bs : List (Int × Tok)} {bn p : Nat} {tz : Tok} {X : List (Addr × Obj)} (hp : p < 4) (hbl : bs.length = 16)
    (hc4 : (L' + 1 + 1 + 1 + 1, o4) ∈ X) (ho4 : o4.data = .cell (some (.ref tb))) (htb : (tb, listOf (bs.map intV).toArray bn) ∈ X)
    (hc5 : (L' + 1 + 1 + 1 + 1 + 1, o5) ∈ X) (ho5 : o5.data = .cell (some (.int (shr p : Nat) tz)))
    {base g' : Heap} {fa : Addr} {cd : Value} {s : Shared} {mean : ExcName → Option Value} {mg mb m' : Str → Option Value} {Q : Value → Shared → Prop} {E : Value → Shared → Prop}
    (B' : Below callerA base [] g') (F' : Fr g' L' s.heap m') (X' : (KK w.params).In g') (T' : Top qv looseL mean mg mb g')
    (N' : News g' L' s.heap X)
    (hret : ∀ D ys tl h' tk, ys.length = 2 ^ p → TabsIn (tl ++ X) ys ((List.range (2 ^ p)).map (partAt (bs.map (·.1)) p)) → Fr g' L' h' m' → News g' L' h' ((D, lst ys) :: (tl ++ X)) → s.toks ≤ tk → Q (.ref D) { s with heap := h', toks := tk }) :
    wpAny (model Challenge.rw_wf0091_01.prog w) (callerA.deeper (lwEnv L' fa cd)) (eval parts1E (lwEnv L' fa cd)) Q E s := by
  have e : parts1E = .ListComp _ _ _ _ := rfl
  rw [e]
  have hcs := shr_cases hp
  have hz0 : 2 ≤ shr p ∧ shr p ≤ 16 := shr_le hp
  obtain ⟨H, gs, dr, tks, os⟩ := s
  dsimp only at F' N' hret
  refine wpAny_with_toks (Nat.le_refl _) ?_
  refine ListComp_R (h₀ := g') (L := L') (m := m') (cl := [(Str.ofString "table", L' + 1 + 1 + 1 + 1), (Str.ofString "size", L' + 1 + 1 + 1 + 1 + 1)]) (by with_unfolding_all rfl) (by decide) rfl (by decide) rfl ?_
  revert F' N' hret
  revert B' X' T'
  k_fill
  intro B' X' T' F' N' hret
  refine wp_gen fun Q2 hq => ?_
  generalize hsz : (shr p : Nat) = sz at ho5 hz0
  wrow_steps
  rename News g' L' _ _ => kN
  rename Fr g' L' _ _ => kF
  rename IsRange _ _ _ _ _ _ _ _ => hrg
  have hsm : Builtin.Range.small 0 16 (sz : Int) = true := by rw [← hsz]; rcases hcs with ⟨rfl, e, e2⟩ | ⟨rfl, e, e2⟩ | ⟨rfl, e, e2⟩ | ⟨rfl, e, e2⟩ <;> decide
  have hrs : Builtin.Range.rangeSize 0 16 (sz : Int) = ((2 ^ p : Nat) : Int) := by rw [← hsz]; rcases hcs with ⟨rfl, e, e2⟩ | ⟨rfl, e, e2⟩ | ⟨rfl, e, e2⟩ | ⟨rfl, e, e2⟩ <;> decide
  have hp2 := pow_le hp
  have hpl : ∀ i, i < 2 ^ p → i * sz + sz ≤ 16 := fun i hi => hsz ▸ part_le hp hi
  refine (hq _ _ ⟨_, 0, 16, (sz : Int), _, _, _, 2 ^ p, X, rfl, rfl, kF, kN, hrg, hsm, hrs, Nat.le_trans hp2 (by rw [sizeLine_eq]; decide), ?_⟩).out
  rintro s₂ ⟨g, rfl⟩
  refine rest_inv (n := 2 ^ p) (fun i ys news' => ∃ tl, news' = tl ++ X ∧ ys.length = i ∧ TabsIn (tl ++ X) ys ((List.range i).map (partAt (bs.map (·.1)) p))) ?_ ?_ _ 0 [] X (Nat.zero_add _) ⟨[], rfl, rfl, rfl, fun i v tb h1 h2 => nomatch h1⟩
  · rintro i v I oI C oC D ys news' m₂ h tk E' hi ⟨tl, rfl, hyl, hys⟩ ⟨_, t, rfl⟩ hC hp1 F₂ N₂ off ne
    have hk := hpl i hi
    obtain ⟨kk, hkk⟩ : ∃ kk : Nat, kk = i * sz := ⟨_, rfl⟩
    rw [← hkk] at hk
    have ekk : (0 : Int) + (i : Int) * (sz : Int) = (kk : Int) := by rw [hkk]; simp
    rw [ekk] at hp1
    change m₂ (Str.ofString "k") = some (Value.int (kk : Int) t) at hp1
    have hbs := ints_map bs
    have hbsl : (bs.map (·.1)).length = 16 := by simpa using hbl
    refine wp_gen fun Q3 hq3 => ?_
    clear hq hret kF kN hrg hcs hsm hrs hp2 hpl e
    revert F₂ N₂
    revert B' X' T'
    k_fill
    intro B' X' T' F₂ N₂
    have hc4' : (L' + 1 + 1 + 1 + 1, o4) ∈ (I, oI) :: (C, oC) :: (D, lst ys) :: (tl ++ X) := .tail _ (.tail _ (.tail _ (List.mem_append_right _ hc4)))
    have hc5' : (L' + 1 + 1 + 1 + 1 + 1, o5) ∈ (I, oI) :: (C, oC) :: (D, lst ys) :: (tl ++ X) := .tail _ (.tail _ (.tail _ (List.mem_append_right _ hc5)))
    have htb' : (tb, listOf (bs.map intV).toArray bn) ∈ (I, oI) :: (C, oC) :: (D, lst ys) :: (tl ++ X) := .tail _ (.tail _ (.tail _ (List.mem_append_right _ htb)))
    generalize hTL : tl ++ X = TL at N₂ off hys hc4' hc5' htb'
    wrow_steps
    rename News g' L' _ _ => kN
    rename Fr g' L' _ _ => kF
    rename IntsAre _ (List.take _ _) => hI9
    rename I < _ ∧ C < _ ∧ D < _ ∧ AllLt _ TL => l9
    obtain ⟨ps9, rfl, e9⟩ := ints_pair hI9
    have hpart : ps9.map (·.1) = partAt (bs.map (·.1)) p i := by
      rw [e9]
      show List.take (min ((kk : Int) + (sz : Int)).toNat (bs.map (·.1)).length - ((kk : Int)).toNat) (List.drop ((kk : Int)).toNat (bs.map (·.1))) = List.take (shr p) (List.drop (i * shr p) (bs.map (·.1)))
      rw [hbsl, hsz, ← hkk, show ((kk : Int)).toNat = kk by omega, min_part hk]
    subst hTL
    refine (hq3 _ _ ⟨_, _, (_, listOf (ps9.map intV).toArray 0) :: (tl ++ X), rfl, kF, News.sub kN ?_, ⟨⟨Nat.ne_of_gt l9.1, Nat.ne_of_gt l9.2.1, Nat.ne_of_gt l9.2.2.1⟩, off⟩, trivial, (_, listOf (ps9.map intV).toArray 0) :: tl, rfl, by simp [hyl], ?_⟩).out
    · intro p hp
      simp only [List.mem_cons] at hp ⊢
      rcases hp with h | h | h | h | h <;> simp [h]
    · rw [List.range_succ, List.map_append]
      refine TabsIn.app (hys.mono fun p hp => .tail _ hp) ⟨rfl, fun j v tb' h1 h2 => ?_⟩
      match j, h1, h2 with
      | 0, h1, h2 =>
        cases h1; cases h2
        exact ⟨_, 0, ps9, rfl, .head _, hpart⟩
  · rintro ys news' ⟨tl, rfl, hyl, hys⟩
    intro D h tk F N off htk
    exact hret D ys tl h tk hyl hys F N htk
end
section
theorem wp_genA {α : Type} {M : Model} {A : Around} {X : Sem α} {s : Shared} {Q : α → Shared → Prop} {E : Value → Shared → Prop} (h : ∀ Q2 : α → Shared → Prop, (∀ y s', Q y s' → Stop (Q2 y s')) → wpAny M A X Q2 E s) : wpAny M A X Q E s := h Q fun _ _ q => ⟨q⟩
local macro_rules | `(tactic| walk_at "compareOp NotEq") => `(tactic| (k_here; (with_reducible refine Stop.out ?_)))
local macro_rules | `(tactic| walk_at "compareOp NotEq ref") => `(tactic| (k_here; (with_reducible refine Stop.out ?_)))
local macro_rules | `(tactic| walk_at "compareOp NotEq ref ref") => `(tactic| (k_here; (with_reducible refine Stop.out ?_)))
open LCg LCt in
set_option maxHeartbeats 2000000 in
theorem parts2_comp {w : World} {o5 o6 : Obj} {pa : Addr} {ys : List Value} {yn sz : Nat} {tz : Tok} {parts : List (List Int)} {X : List (Addr × Obj)} (hz : 2 ≤ sz ∧ sz ≤ 16)
    (hc5 : (L' + 1 + 1 + 1 + 1 + 1, o5) ∈ X) (ho5 : o5.data = .cell (some (.int (sz : Nat) tz))) (hc6 : (L' + 1 + 1 + 1 + 1 + 1 + 1, o6) ∈ X) (ho6 : o6.data = .cell (some (.ref pa))) (hpa : (pa, listOf ys.toArray yn) ∈ X) (hys : TabsIn X ys parts) (hpl : ys.length ≤ 16) (hps : ∀ t ∈ parts, t.length ≤ 16)
    {base g' : Heap} {fa : Addr} {cd : Value} {s : Shared} {mean : ExcName → Option Value} {mg mb m' : Str → Option Value} {Q : Value → Shared → Prop} {E : Value → Shared → Prop}
    (B' : Below callerA base [] g') (F' : Fr g' L' s.heap m') (X' : (KK w.params).In g') (T' : Top qv looseL mean mg mb g')
    (N' : News g' L' s.heap X)
    (hret : ∀ D ys' h' tk, TabsIn X ys' (parts.filter fun t => decide (t.take (sz / 2) ≠ t.drop (sz / 2))) → Fr g' L' h' m' → News g' L' h' ((D, lst ys') :: X) → s.toks ≤ tk → Q (.ref D) { s with heap := h', toks := tk }) :
    wpAny (model Challenge.rw_wf0091_01.prog w) (callerA.deeper (lwEnv L' fa cd)) (eval parts2E (lwEnv L' fa cd)) Q E s := by
  have e : parts2E = .ListComp _ _ _ _ := rfl
  rw [e]
  obtain ⟨H, gs, dr, tks, os⟩ := s
  dsimp only at F' N' hret
  refine wpAny_with_toks (Nat.le_refl _) ?_
  refine LCt.ListComp_T (h₀ := g') (L := L') (m := m') (cl := [(Str.ofString "size", L' + 1 + 1 + 1 + 1 + 1)]) F' (by with_unfolding_all rfl) (by decide) rfl (by decide) rfl ?_
  revert F' N' hret
  revert B' X' T'
  k_fill
  intro B' X' T' F' N' hret
  refine wp_gen fun Q2 hq => ?_
  wrow_steps
  rename News g' L' _ _ => kN
  rename Fr g' L' _ _ => kF
  refine (hq _ _ (CompSrcT.ledger rfl kF kN hpa (by rw [sizeLine_eq]; simp; omega) fun g => ?_)).out
  refine restT_inv (n := ys.toArray.size) (fun i zs news' => news' = X ∧ TabsIn X zs ((parts.take i).filter fun t => decide (t.take (sz / 2) ≠ t.drop (sz / 2)))) ?_ ?_ _ 0 [] X (Nat.zero_add _) ⟨rfl, rfl, fun j v tb h1 h2 => nomatch h1⟩
  · rintro i v I oI C oC D zs news' m₂ h tk E' hi ⟨rfl, hzs⟩ hP hC hp1 F₂ N₂ off ne
    rw [List.getElem?_toArray] at hP
    have hil : i < parts.length := hys.1 ▸ (List.getElem?_eq_some_iff.mp hP).1
    obtain ⟨b, nb, ps, rfl, hb, hpe⟩ := hys.2 i v _ hP (List.getElem?_eq_getElem hil)
    have hpl16 : (ps.map (·.1)).length ≤ 16 := hpe ▸ hps _ (List.getElem_mem hil)
    have htk : parts.take (i + 1) = parts.take i ++ [ps.map (·.1)] := by rw [List.take_succ_eq_append_getElem hil, hpe]
    change m₂ (Str.ofString "part") = some (Value.ref b) at hp1
    have hbs := ints_map ps
    have hps16 : (ps.map intV).length ≤ 16 := by simpa using hpl16
    have hfd : ((sz : Int)).fdiv 2 = ((sz / 2 : Nat) : Int) := by rw [Int.fdiv_eq_ediv_of_nonneg _ (by decide)]; omega
    have hfd0 : 0 ≤ ((sz : Int)).fdiv 2 := by omega
    refine wp_genA fun Q3 hq3 => ?_
    clear hq hret kF kN e
    revert F₂ N₂
    revert B' X' T'
    k_fill
    intro B' X' T' F₂ N₂
    have hc5' : (L' + 1 + 1 + 1 + 1 + 1, o5) ∈ (I, oI) :: (C, oC) :: (D, lst zs) :: news' := .tail _ (.tail _ (.tail _ hc5))
    have hb' : (b, listOf (ps.map intV).toArray nb) ∈ (I, oI) :: (C, oC) :: (D, lst zs) :: news' := .tail _ (.tail _ (.tail _ hb))
    wrow_steps
    refine ⟨?_⟩
    rename News g' L' _ _ => kN
    rename Fr g' L' _ _ => kF
    rename IntsAre _ (List.drop _ _) => hI2
    rename IntsAre _ (List.take _ _) => hI1
    obtain ⟨p1, rfl, e1⟩ := ints_pair hI1
    obtain ⟨p2, rfl, e2⟩ := ints_pair hI2
    rw [hfd, Int.toNat_natCast] at e1 e2
    refine tabs_ne (ps := p1) (qs := p2) (kN _ (.tail _ (.head _))).1 (kN _ (.head _)).1 ?q_u ?_
    case q_u => (first | decide | ktr_units)
    refine wpAny_truthy_bool ?_
    have kN2 : News g' L' _ ((I, oI) :: (C, oC) :: (D, lst zs) :: news') := News.sub kN fun p hp => .tail _ (.tail _ hp)
    refine (hq3 _ _ ?_).out
    rw [e1, e2, htk]
    by_cases hc : (ps.map (·.1)).take (sz / 2) = (ps.map (·.1)).drop (sz / 2)
    · rw [decide_eq_true hc]
      simp only [Bool.not_true, Bool.false_eq_true, if_false]
      refine ⟨_, _, news', rfl, kF, kN2, off, .inr ⟨_, hpa, rfl, _, rfl⟩, rfl, ?_⟩
      rw [List.filter_append, List.filter_cons_of_neg (by simpa using hc), List.filter_nil, List.append_nil]
      exact hzs
    · rw [decide_eq_false hc]
      simp only [Bool.not_false, if_true]
      refine wp_gen fun Q4 hq4 => ?_
      clear hq3 kN
      wrow_steps
      refine (hq4 _ _ ⟨_, _, news', rfl, kF, kN2, off, .inr ⟨_, hpa, rfl, _, rfl⟩, rfl, ?_⟩).out
      rw [List.filter_append, List.filter_cons_of_pos (by simpa using hc), List.filter_nil]
      refine TabsIn.app hzs ⟨rfl, fun j v tb' h1 h2 => ?_⟩
      match j, h1, h2 with
      | 0, h1, h2 =>
        cases h1; cases h2
        exact ⟨b, nb, ps, rfl, hb, rfl⟩
  · rintro zs news' ⟨rfl, hzs⟩
    rw [List.take_of_length_le (by rw [← hys.1]; simp)] at hzs
    intro D h tk F N off htk
    exact hret D zs h tk hzs F N htk
end
section
noncomputable def CountJ (xs : List Int) (x : Int) (u : Tok) (news : List (Addr × Obj)) (tk0 : Nat) (i : Nat) (m : Str → Option Value) (news' : List (Addr × Obj)) (tk : Nat) : Prop :=
  ∃ t, news' = news ∧ tk0 ≤ tk ∧ m (Str.ofString "count") = some (.int (((xs.take i).filter fun y => decide (y = x)).length : Nat) t) ∧ m (Str.ofString "b") = some (.int x u)
local macro_rules | `(tactic| walk_at "compareOp Is") => `(tactic| (k_here; (with_reducible refine Stop.out ?_)))
local macro_rules | `(tactic| walk_at "compareOp Is int int") => `(tactic| (k_here; (with_reducible refine Stop.out ?_)))
set_option maxHeartbeats 2000000 in
theorem count_con {w : World} {news : List (Addr × Obj)} {l : Addr} {vs : List Value} {n : Nat} {xs : List Int} {g : Nat → Int} {tk1 : Nat} {x : Int} {u : Tok} (hl : (l, listOf vs.toArray n) ∈ news) (hS : IntsIn g tk1 vs xs) (hu : u ≠ 0) (hu1 : tk1 ≤ u) (hz : xs.length ≤ 1000) :
    Con w 105 [.ref l, .int x u] 3 100 0 news (fun r news' _ => news' = news ∧ ∃ t, r = .int ((xs.filter fun y => decide (y = x)).length : Nat) t) := by
  unfold Con
  k_fill
  intro mean mg mb dp un gd cn cs a ccd cl outer A₀ base h₀ L m s Q E B F X N T' hks hdp hun htk0 hret
  refine wpAny_with_toks (Nat.le_refl _) ?_
  refine wpAny_call ?_
  refine code_def (name := Str.ofString "countOf") (params := (fnOfStm 13).1) (body := (fnOfStm 13).2.1) (scope := (fnOfStm 13).2.2) (cdv := .ref 104) (binds := [(Str.ofString "a", .ref l), (Str.ofString "b", .int x u)]) B F X N T' rfl rfl hks (by k_is) (by k_is) (by ktr_room) (BindsTo.of_eq rfl) (locs rfl) ?_ rfl rfl rfl (by decide)
  intro g' L' h' FG' F' N' B' X' T''
  have hlen : vs.length = xs.length := by obtain ⟨ps, rfl, rfl, _⟩ := hS; simp
  with_reducible refine' execs_split (xs := [_]) (ys := (fnOfStm 13).2.1.drop 1) ?q_e ?q_go
  case q_e => exact rfl
  have hlow := tkLow s.toks
  wrow_steps
  refine ⟨?_⟩
  try dsimp only
  rename Fr g' L' _ _ => kF
  rename News g' L' _ _ => kN
  conv => (arg 3; arg 1; whnf)
  refine wpAny_execs_cons (wpAny_For ?_ (fun _ => rfl))
  refine ld kF (by with_unfolding_all rfl) ?_
  refine iter_list (h₀ := g') (l := l) (vs := vs) (nn := n) rfl rfl rfl hl kF kN (CountJ xs x u news s.toks) ?_ ?_ ?_
  · exact ⟨_, rfl, by dsimp only; omega, by with_unfolding_all rfl, by with_unfolding_all rfl⟩
  · intro i v m₁ news₁ h tk₁ tk I oI hv hcI htk1 hJ hq1 hq2 F₁ N₁
    obtain ⟨t, rfl, hk0, g1, g2⟩ := hJ
    obtain ⟨y, ty, rfl, hy, hty⟩ := hS.at' hv
    have hil : i < xs.length := (List.getElem?_eq_some_iff.mp hy).1
    have htake : (xs.take (i + 1)).filter (fun y => decide (y = x)) = (xs.take i).filter (fun y => decide (y = x)) ++ (if y = x then [y] else []) := by
      have : xs[i] = y := by rw [List.getElem?_eq_getElem hil] at hy; exact Option.some.inj hy
      rw [List.take_succ_eq_append_getElem hil, List.filter_append, this]
      by_cases e : y = x <;> simp [e]
    have hcl : ((xs.take i).filter fun y => decide (y = x)).length ≤ 1000 := Nat.le_trans (List.length_filter_le _ _) (by rw [List.length_take]; omega)
    generalize hcn : ((xs.take i).filter fun y => decide (y = x)).length = cn' at g1 hcl
    have hXt := X'.keeps F₁.keep
    wrow_steps
    refine ⟨is_of (same_int hty.1 hu (fun e => absurd e (Nat.ne_of_lt (Nat.lt_of_lt_of_le hty.2.1 hu1))) (none_booked hXt) fun c hc => ?_)⟩
    have hyes : ∀ {h' : Heap} {tk' : Nat} {m₂ : Str → Option Value} {t' : Tok}, y = x → Fr g' L' h' m₂ → News g' L' h' ((I, oI) :: news₁) → s.toks ≤ tk' → m₂ (Str.ofString "count") = some (.int ((cn' : Int) + 1) t') → m₂ (Str.ofString "b") = some (.int x u) →
        ∃ h'' tk'' m'' news'', (⟨h', s.gens, s.drawn, tk', s.os⟩ : Shared) = { s with heap := h'', toks := tk'' } ∧ Fr g' L' h'' m'' ∧ News g' L' h'' ((I, oI) :: news'') ∧ (∀ q ∈ news'', q.1 ≠ I) ∧ (∀ q ∈ [(l, listOf vs.toArray n)], q ∈ news'') ∧ CountJ xs x u news₁ s.toks (i + 1) m'' news'' tk'' := by
      intro h' tk' m₂ t' e F2 N2 hk e1 e2
      refine ⟨h', tk', m₂, news₁, rfl, F2, N2, hq1, fun q hq => by rw [List.mem_singleton.mp hq]; exact hq2, t', rfl, hk, ?_, e2⟩
      rw [htake, List.length_append, hcn, if_pos e, e1]
      simp
    have hno : ∀ {h' : Heap} {tk' : Nat} {m₂ : Str → Option Value} {t' : Tok}, y ≠ x → Fr g' L' h' m₂ → News g' L' h' ((I, oI) :: news₁) → s.toks ≤ tk' → m₂ (Str.ofString "count") = some (.int (cn' : Int) t') → m₂ (Str.ofString "b") = some (.int x u) →
        ∃ h'' tk'' m'' news'', (⟨h', s.gens, s.drawn, tk', s.os⟩ : Shared) = { s with heap := h'', toks := tk'' } ∧ Fr g' L' h'' m'' ∧ News g' L' h'' ((I, oI) :: news'') ∧ (∀ q ∈ news'', q.1 ≠ I) ∧ (∀ q ∈ [(l, listOf vs.toArray n)], q ∈ news'') ∧ CountJ xs x u news₁ s.toks (i + 1) m'' news'' tk'' := by
      intro h' tk' m₂ t' e F2 N2 hk e1 e2
      refine ⟨h', tk', m₂, news₁, rfl, F2, N2, hq1, fun q hq => by rw [List.mem_singleton.mp hq]; exact hq2, t', rfl, hk, ?_, e2⟩
      rw [htake, List.length_append, hcn, if_neg e, e1]
      simp
    cases c with
    | true =>
      have hyx := hc rfl
      wrow_steps
      rename News g' L' _ _ => kN
      rename Fr g' L' _ _ => kF
      exact hyes hyx kF kN (by (try dsimp only); omega) (by with_unfolding_all rfl) (by with_unfolding_all exact g2)
    | false =>
      wrow_steps
      · rename News g' L' _ _ => kN
        rename Fr g' L' _ _ => kF
        rename y = x => hyx
        exact hyes hyx kF kN (by (try dsimp only); omega) (by with_unfolding_all rfl) (by with_unfolding_all exact g2)
      · rename y ≠ x => hyx
        exact hno hyx (by assumption) (by assumption) (by (try dsimp only); omega) (by with_unfolding_all exact g1) (by with_unfolding_all exact g2)
  · intro h' tk m'' news' F₁ N₁ hJ
    obtain ⟨t, rfl, hk0, g1, g2⟩ := hJ
    rw [hlen, List.take_length] at g1
    refine wpAny_execs_cons (wpAny_Return_some (ld F₁ g1 ?_))
    wrow_steps
    rename News h₀ L _ _ => kN
    rename Fr h₀ L _ _ => kF
    exact hret _ _ _ _ kF kN (by (try dsimp only); omega) ⟨rfl, _, rfl⟩
end
section
noncomputable def placesE : PySem.Expr := exAt (exAt (stAt lw11 3).1 1) 0
local macro_rules | `(tactic| walk_at "call builtin:list.index") => `(tactic| (k_here; (with_reducible refine Stop.out ?_)))
open LCg LCt in
set_option maxHeartbeats 2000000 in
theorem places_comp {w : World} {o6 : Obj} {pa : Addr} {ys : List Value} {yn : Nat} {parts : List (List Int)} {X : List (Addr × Obj)}
    (hc6 : (L' + 1 + 1 + 1 + 1 + 1 + 1, o6) ∈ X) (ho6 : o6.data = .cell (some (.ref pa))) (hpa : (pa, listOf ys.toArray yn) ∈ X) (hys : TabsIn X ys parts) (hpl : ys.length ≤ 16)
    {base g' : Heap} {fa : Addr} {cd : Value} {s : Shared} {mean : ExcName → Option Value} {mg mb m' : Str → Option Value} {Q : Value → Shared → Prop} {E : Value → Shared → Prop}
    (B' : Below callerA base [] g') (F' : Fr g' L' s.heap m') (X' : (KK w.params).In g') (T' : Top qv looseL mean mg mb g')
    (N' : News g' L' s.heap X)
    (hret : ∀ D zs h' tk, zs.length = unlike parts → Fr g' L' h' m' → News g' L' h' ((D, lst zs) :: X) → s.toks ≤ tk → Q (.ref D) { s with heap := h', toks := tk }) :
    wpAny (model Challenge.rw_wf0091_01.prog w) (callerA.deeper (lwEnv L' fa cd)) (eval placesE (lwEnv L' fa cd)) Q E s := by
  have e : placesE = .ListComp _ _ _ _ := rfl
  rw [e]
  obtain ⟨H, gs, dr, tks, os⟩ := s
  dsimp only at F' N' hret
  refine wpAny_with_toks (Nat.le_refl _) ?_
  refine LCt.ListComp_T (h₀ := g') (L := L') (m := m') (cl := [(Str.ofString "parts", L' + 1 + 1 + 1 + 1 + 1 + 1)]) F' (by with_unfolding_all rfl) (by decide) rfl (by decide) rfl ?_
  revert F' N' hret
  revert B' X' T'
  k_fill
  intro B' X' T' F' N' hret
  refine wp_gen fun Q2 hq => ?_
  wrow_steps
  rename News g' L' _ _ => kN
  rename Fr g' L' _ _ => kF
  rename IsRange _ _ _ _ _ _ _ _ => hrg
  have hpn := hys.1
  have hrs : Builtin.Range.rangeSize 0 (ys.length : Int) 1 = ((ys.length : Nat) : Int) := by rw [rangeSize_nat]; omega
  refine (hq _ _ (CompSrcT.range (n := ys.length) rfl kF kN hrg (small_one (by decide) (by decide) (by omega) (by omega)) hrs (by rw [sizeLine_eq]; omega) fun g => ?_)).out
  refine restT_inv (n := ys.length) (fun i zs news' => news' = X ∧ zs.length = ((List.range i).filter fun k => decide (parts.idxOf (parts.getD k []) = k)).length) ?_ ?_ _ 0 [] X (Nat.zero_add _) ⟨rfl, rfl⟩
  · rintro i v I oI C oC D zs news' m₂ h tk E' hi ⟨rfl, hzl⟩ ⟨t, rfl⟩ hC hp1 F₂ N₂ off ne
    have hil : i < parts.length := hpn ▸ hi
    obtain ⟨v, hv⟩ : ∃ v, ys[i]? = some v := ⟨_, List.getElem?_eq_getElem hi⟩
    obtain ⟨b, nb, ps, rfl, hb, hpe⟩ := hys.2 i v _ hv (List.getElem?_eq_getElem hil)
    have hxd : parts.getD i [] = ps.map (·.1) := by rw [List.getD_eq_getElem?_getD, List.getElem?_eq_getElem hil, hpe]; rfl
    have hmem : ps.map (·.1) ∈ parts := hpe ▸ List.getElem_mem hil
    have hrange : (List.range (i + 1)).filter (fun k => decide (parts.idxOf (parts.getD k []) = k)) = (List.range i).filter (fun k => decide (parts.idxOf (parts.getD k []) = k)) ++ (if parts.idxOf (ps.map (·.1)) = i then [i] else []) := by
      rw [List.range_succ, List.filter_append]
      by_cases hc : parts.idxOf (ps.map (·.1)) = i
      · rw [List.filter_cons_of_pos (by rw [hxd]; simpa using hc), if_pos hc, List.filter_nil]
      · rw [List.filter_cons_of_neg (by rw [hxd]; simpa using hc), if_neg hc, List.filter_nil]
    have e0 : (0 : Int) + (i : Int) = (i : Int) := by omega
    rw [e0] at hp1
    change m₂ (Str.ofString "k") = some (Value.int (i : Int) t) at hp1
    have hit : ItemAt ys (i : Int) (.ref b) := ⟨by omega, by omega, by simpa using hv⟩
    refine wp_genA fun Q3 hq3 => ?_
    clear hq hret kF kN e hrg hrs
    revert F₂ N₂
    revert B' X' T'
    k_fill
    intro B' X' T' F₂ N₂
    have hc6' : (L' + 1 + 1 + 1 + 1 + 1 + 1, o6) ∈ (I, oI) :: (C, oC) :: (D, lst zs) :: news' := .tail _ (.tail _ (.tail _ hc6))
    have hpa' : (pa, listOf ys.toArray yn) ∈ (I, oI) :: (C, oC) :: (D, lst zs) :: news' := .tail _ (.tail _ (.tail _ hpa))
    have hb' : (b, listOf (ps.map intV).toArray nb) ∈ (I, oI) :: (C, oC) :: (D, lst zs) :: news' := .tail _ (.tail _ (.tail _ hb))
    wrow_steps
    refine ⟨?_⟩
    rename News g' L' _ _ => kN
    rename Fr g' L' _ _ => kF
    refine tabs_index (T := news') (fun p hp => (kN p (.tail _ (.tail _ (.tail _ hp)))).1) (kN _ hpa').1 hys (kN _ hb').1 hmem ?q_u (by omega) ?_
    case q_u => (first | decide | ktr_units)
    wrow_steps
    refine (hq3 _ _ ?_).out
    by_cases hc : parts.idxOf (ps.map (·.1)) = i
    · have hb : (((parts.idxOf (ps.map (·.1)) : Nat) : Int) == (i : Int)) = true := by rw [hc]; simp
      rw [hb, hrange, if_pos hc]
      simp only [if_true]
      refine wp_gen fun Q4 hq4 => ?_
      clear hq3
      wrow_steps
      refine (hq4 _ _ ⟨_, _, news', rfl, kF, kN, off, trivial, rfl, ?_⟩).out
      rw [List.length_append, List.length_append, hzl]; rfl
    · have hb : (((parts.idxOf (ps.map (·.1)) : Nat) : Int) == (i : Int)) = false := by rw [beq_eq_false_iff_ne]; omega
      rw [hb, hrange, if_neg hc]
      simp only [Bool.false_eq_true, if_false]
      exact ⟨_, _, news', rfl, kF, kN, off, trivial, rfl, by rw [List.append_nil]; exact hzl⟩
  · rintro zs news' ⟨rfl, hzl⟩
    intro D h tk F N off htk
    refine hret D zs h tk ?_ F N htk
    rw [hzl, hpn]; rfl
end
section
theorem TabsIn.uncell {c : Addr} {o : Obj} {v : Option Value} {X : List (Addr × Obj)} {vs : List Value} {tbs : List (List Int)} (h : TabsIn ((c, o) :: X) vs tbs) (ho : o.data = .cell v) : TabsIn X vs tbs :=
  ⟨h.1, fun i w tb h1 h2 => by
    obtain ⟨a, n, ps, e, hm, hp⟩ := h.2 i w tb h1 h2
    rcases List.mem_cons.mp hm with hm | hm
    · injection hm with _ hm
      rw [← hm] at ho; cases ho
    · exact ⟨a, n, ps, e, hm, hp⟩⟩
theorem TabsIn.focus {h₀ h : Heap} {L : Addr} {X : List (Addr × Obj)} (N : News h₀ L h X) {c : Addr} {o : Obj} {v : Option Value} (hc : (c, o) ∈ X) (ho : o.data = .cell v) {vs : List Value} {tbs : List (List Int)} (hT : TabsIn X vs tbs) : TabsIn (WB.clean [c] X) vs tbs :=
  TabsIn.clean (Cs := [(c, o)]) N (fun p hp => by rw [List.mem_singleton.mp hp]; exact ⟨_, ho⟩) (fun p hp => by rw [List.mem_singleton.mp hp]; exact hc) hT
theorem shr_int {p : Nat} (hp : p < 4) : (16 : Int).fdiv (2 ^ ((p : Int)).toNat) = ((shr p : Nat) : Int) := by
  have : p = 0 ∨ p = 1 ∨ p = 2 ∨ p = 3 := by omega
  rcases this with rfl | rfl | rfl | rfl <;> decide
local macro_rules | `(tactic| walk_at "eval ListComp") => `(tactic| (k_here; (with_reducible refine Stop.out ?_)))
local macro_rules | `(tactic| walk_at "call ref") => `(tactic| (k_here; (with_reducible refine Stop.out ?_)))
set_option maxHeartbeats 2000000 in
theorem place_0 {w : World} {o5 : Obj} {v5 : Option Value} {p : Nat} {tp : Tok} {TT : List (Addr × Obj)} (hp : p < 4) (ho5 : o5.data = .cell v5)
    {base g' : Heap} {L' fa : Addr} {cd : Value} {s : Shared} {mean : ExcName → Option Value} {mg mb m' : Str → Option Value} {Qf : Flow → Shared → Prop} {E : Value → Shared → Prop}
    (B' : Below callerA base [] g') (F' : Fr g' L' s.heap m') (X' : (KK w.params).In g') (T' : Top qv looseL mean mg mb g')
    (N' : News g' L' s.heap ((L' + 1 + 1 + 1 + 1 + 1, o5) :: TT)) (hT : ∀ p ∈ TT, p.1 ≠ L' + 1 + 1 + 1 + 1 + 1) (hm1 : m' (Str.ofString "place") = some (.int p tp))
    (hret : ∀ o5' tz h' tk', Fr g' L' h' m' → News g' L' h' ((L' + 1 + 1 + 1 + 1 + 1, o5') :: TT) → s.toks ≤ tk' → o5'.data = .cell (some (.int (shr p : Nat) tz)) →
      Stop (wpAny (model Challenge.rw_wf0091_01.prog w) (callerA.deeper (lwEnv L' fa cd)) (execs (lw11.drop 1) (lwEnv L' fa cd)) Qf E { s with heap := h', toks := tk' })) :
    wpAny (model Challenge.rw_wf0091_01.prog w) (callerA.deeper (lwEnv L' fa cd)) (execs lw11 (lwEnv L' fa cd)) Qf E s := by
  with_reducible refine' execs_split (xs := [_]) (ys := lw11.drop 1) ?q_e ?q_go
  case q_e => exact rfl
  obtain ⟨H, gs, dr, tks, os⟩ := s
  dsimp only at F' N' hret
  revert F' N' hret
  revert B' X' T'
  k_fill
  intro B' X' T' F' N' hret
  have hsh := shr_int hp
  wrow_steps
  rename News g' L' _ _ => kN
  rename Fr g' L' _ _ => kF
  rename Obj.data _ = Data.cell (some _) => hdc
  rw [hsh] at hdc
  exact hret _ _ _ _ kF kN (by omega) hdc
open LCg in
set_option maxHeartbeats 2000000 in
theorem place_1 {w : World} {o4 o5 o6 : Obj} {v6 : Option Value} {tb : Addr} {bs : List (Int × Tok)} {bn p : Nat} {tz : Tok} {X : List (Addr × Obj)} (hp : p < 4) (hbl : bs.length = 16)
    (hc4 : (L' + 1 + 1 + 1 + 1, o4) ∈ X) (ho4 : o4.data = .cell (some (.ref tb))) (htb : (tb, listOf (bs.map intV).toArray bn) ∈ X)
    (hc5 : (L' + 1 + 1 + 1 + 1 + 1, o5) ∈ X) (ho5 : o5.data = .cell (some (.int (shr p : Nat) tz))) (hc6 : (L' + 1 + 1 + 1 + 1 + 1 + 1, o6) ∈ X) (ho6 : o6.data = .cell v6)
    {base g' : Heap} {fa : Addr} {cd : Value} {s : Shared} {mean : ExcName → Option Value} {mg mb m' : Str → Option Value} {Qf : Flow → Shared → Prop} {E : Value → Shared → Prop}
    (B' : Below callerA base [] g') (F' : Fr g' L' s.heap m') (X' : (KK w.params).In g') (T' : Top qv looseL mean mg mb g')
    (N' : News g' L' s.heap X)
    (hret : ∀ o6' pa ys yn X2 h' tk', Fr g' L' h' m' → News g' L' h' ((L' + 1 + 1 + 1 + 1 + 1 + 1, o6') :: X2) → s.toks ≤ tk' → o6'.data = .cell (some (.ref pa)) → (pa, listOf ys.toArray yn) ∈ X2 → ys.length = 2 ^ p → TabsIn X2 ys ((List.range (2 ^ p)).map (partAt (bs.map (·.1)) p)) → (∀ q ∈ X, q.1 ≠ L' + 1 + 1 + 1 + 1 + 1 + 1 → q ∈ X2) → (∀ q ∈ X2, q.1 ≠ L' + 1 + 1 + 1 + 1 + 1 + 1) →
      Stop (wpAny (model Challenge.rw_wf0091_01.prog w) (callerA.deeper (lwEnv L' fa cd)) (execs (lw11.drop 2) (lwEnv L' fa cd)) Qf E { s with heap := h', toks := tk' })) :
    wpAny (model Challenge.rw_wf0091_01.prog w) (callerA.deeper (lwEnv L' fa cd)) (execs (lw11.drop 1) (lwEnv L' fa cd)) Qf E s := by
  with_reducible refine' execs_split (xs := [_]) (ys := lw11.drop 2) ?q_e ?q_go
  case q_e => exact rfl
  obtain ⟨H, gs, dr, tks, os⟩ := s
  dsimp only at F' N' hret
  revert F' N' hret
  revert B' X' T'
  k_fill
  intro B' X' T' F' N' hret
  wrow_steps
  refine ⟨?_⟩
  rename News g' L' _ _ => kN
  rename Fr g' L' _ _ => kF
  refine parts1_comp hp hbl hc4 ho4 htb hc5 ho5 B' kF X' T' kN ?_
  intro D ys tl h1 tk1 hyl hys F1 N1 hk1
  (try dsimp only at hk1)
  have hc6' : (L' + 1 + 1 + 1 + 1 + 1 + 1, o6) ∈ (D, lst ys) :: (tl ++ X) := .tail _ (List.mem_append_right _ hc6)
  have N2 := News.focus N1 hc6'
  have hD : (D, lst ys) ∈ clean [L' + 1 + 1 + 1 + 1 + 1 + 1] ((D, lst ys) :: (tl ++ X)) := clean_in (.head _) (News.ne N1 (p := (D, lst ys)) (q := (L' + 1 + 1 + 1 + 1 + 1 + 1, o6)) (.head _) hc6' (fun e => cell_ne ho6 rfl e.symm))
  have hys2 := TabsIn.focus N1 hc6' ho6 (hys.mono fun q hq => .tail _ hq)
  have hin : ∀ q ∈ X, q.1 ≠ L' + 1 + 1 + 1 + 1 + 1 + 1 → q ∈ clean [L' + 1 + 1 + 1 + 1 + 1 + 1] ((D, lst ys) :: (tl ++ X)) := fun q hq h => clean_in (.tail _ (List.mem_append_right _ hq)) h
  have hoff : ∀ q ∈ clean [L' + 1 + 1 + 1 + 1 + 1 + 1] ((D, lst ys) :: (tl ++ X)), q.1 ≠ L' + 1 + 1 + 1 + 1 + 1 + 1 := clean_off
  generalize clean [L' + 1 + 1 + 1 + 1 + 1 + 1] ((D, lst ys) :: (tl ++ X)) = X2 at N2 hD hys2 hin hoff
  clear N1 kN kF
  wrow_steps
  rename News g' L' _ _ => kN
  rename Fr g' L' _ _ => kF
  rename Obj.data _ = Data.cell (some (Value.ref D)) => hdc
  exact hret _ D ys _ X2 _ _ kF kN (by omega) hdc hD hyl hys2 hin hoff
open LCg in
set_option maxHeartbeats 2000000 in
theorem place_2 {w : World} {o5 o6 : Obj} {pa : Addr} {ys : List Value} {yn sz : Nat} {tz : Tok} {parts : List (List Int)} {X : List (Addr × Obj)} (hz : 2 ≤ sz ∧ sz ≤ 16)
    (hc5 : (L' + 1 + 1 + 1 + 1 + 1, o5) ∈ X) (ho5 : o5.data = .cell (some (.int (sz : Nat) tz))) (ho6 : o6.data = .cell (some (.ref pa))) (hpa : (pa, listOf ys.toArray yn) ∈ X) (hys : TabsIn X ys parts) (hpl : ys.length ≤ 16) (hps : ∀ t ∈ parts, t.length ≤ 16)
    {base g' : Heap} {fa : Addr} {cd : Value} {s : Shared} {mean : ExcName → Option Value} {mg mb m' : Str → Option Value} {Qf : Flow → Shared → Prop} {E : Value → Shared → Prop}
    (B' : Below callerA base [] g') (F' : Fr g' L' s.heap m') (X' : (KK w.params).In g') (T' : Top qv looseL mean mg mb g')
    (N' : News g' L' s.heap ((L' + 1 + 1 + 1 + 1 + 1 + 1, o6) :: X)) (hoff : ∀ q ∈ X, q.1 ≠ L' + 1 + 1 + 1 + 1 + 1 + 1)
    (hret : ∀ o6' D zs h' tk', Fr g' L' h' m' → News g' L' h' ((L' + 1 + 1 + 1 + 1 + 1 + 1, o6') :: (D, lst zs) :: X) → s.toks ≤ tk' → o6'.data = .cell (some (.ref D)) → TabsIn X zs (parts.filter fun t => decide (t.take (sz / 2) ≠ t.drop (sz / 2))) →
      Stop (wpAny (model Challenge.rw_wf0091_01.prog w) (callerA.deeper (lwEnv L' fa cd)) (execs (lw11.drop 3) (lwEnv L' fa cd)) Qf E { s with heap := h', toks := tk' })) :
    wpAny (model Challenge.rw_wf0091_01.prog w) (callerA.deeper (lwEnv L' fa cd)) (execs (lw11.drop 2) (lwEnv L' fa cd)) Qf E s := by
  with_reducible refine' execs_split (xs := [_]) (ys := lw11.drop 3) ?q_e ?q_go
  case q_e => exact rfl
  obtain ⟨H, gs, dr, tks, os⟩ := s
  dsimp only at F' N' hret
  revert F' N' hret
  revert B' X' T'
  k_fill
  intro B' X' T' F' N' hret
  wrow_steps
  refine ⟨?_⟩
  rename News g' L' _ _ => kN
  rename Fr g' L' _ _ => kF
  refine parts2_comp (parts := parts) hz (.tail _ hc5) ho5 (.head _) ho6 (.tail _ hpa) (hys.mono fun q hq => .tail _ hq) hpl hps B' kF X' T' kN ?_
  intro D zs h1 tk1 hzs F1 N1 hk1
  (try dsimp only at hk1)
  have hDn : @Ne Nat D (L' + 1 + 1 + 1 + 1 + 1 + 1) := News.ne N1 (p := (D, lst zs)) (q := (L' + 1 + 1 + 1 + 1 + 1 + 1, o6)) (.head _) (.tail _ (.head _)) (fun e => cell_ne ho6 rfl e.symm)
  have N2 := News.sub N1 (l' := (L' + 1 + 1 + 1 + 1 + 1 + 1, o6) :: (D, lst zs) :: X) swap2
  have hoff2 : ∀ q ∈ (D, lst zs) :: X, q.1 ≠ L' + 1 + 1 + 1 + 1 + 1 + 1 := by
    intro q hq
    rcases List.mem_cons.mp hq with rfl | hq
    · exact hDn
    · exact hoff q hq
  clear N1 kN kF
  wrow_steps
  rename News g' L' _ _ => kN
  rename Fr g' L' _ _ => kF
  rename Obj.data _ = Data.cell (some (Value.ref D)) => hdc
  exact hret _ D zs _ _ kF kN (by omega) hdc (hzs.uncell ho6)
end
section
local macro_rules | `(tactic| walk_at "eval ListComp") => `(tactic| (k_here; (with_reducible refine Stop.out ?_)))
local macro_rules | `(tactic| walk_at "call ref") => `(tactic| (k_here; (with_reducible refine Stop.out ?_)))
open LCg in
set_option maxHeartbeats 2000000 in
theorem place_3 {w : World} {o6 : Obj} {pa la : Addr} {ys lvs : List Value} {yn ln p tk0 : Nat} {tp : Tok} {f : Nat → Int} {xs : List Int} {parts : List (List Int)} {X : List (Addr × Obj)} (hp : p < 4)
    (hc6 : (L' + 1 + 1 + 1 + 1 + 1 + 1, o6) ∈ X) (ho6 : o6.data = .cell (some (.ref pa))) (hpa : (pa, listOf ys.toArray yn) ∈ X) (hys : TabsIn X ys parts) (hpl : ys.length ≤ 16)
    (hla : (la, listOf lvs.toArray ln) ∈ X) (hlv : IntsIn f tk0 lvs xs) (hxl : xs.length ≤ 1000) (h26 : 2600 ≤ tk0) (htp : tk0 ≤ tp)
    (hcount : (xs.filter fun l => decide (l = (p : Int))).length = unlike parts)
    {base g' : Heap} {fa : Addr} {cd : Value} {s : Shared} {mean : ExcName → Option Value} {mg mb m' : Str → Option Value} {Qf : Flow → Shared → Prop} {E : Value → Shared → Prop}
    (B' : Below callerA base [] g') (F' : Fr g' L' s.heap m') (X' : (KK w.params).In g') (T' : Top qv looseL mean mg mb g')
    (N' : News g' L' s.heap X) (hm1 : m' (Str.ofString "place") = some (.int p tp)) (hm2 : m' (Str.ofString "letters") = some (.ref la))
    (hret : ∀ h' tk', Fr g' L' h' m' → News g' L' h' X → s.toks ≤ tk' → Qf .next { s with heap := h', toks := tk' }) :
    wpAny (model Challenge.rw_wf0091_01.prog w) (callerA.deeper (lwEnv L' fa cd)) (execs (lw11.drop 3) (lwEnv L' fa cd)) Qf E s := by
  with_reducible refine' execs_split (xs := [_]) (ys := []) ?q_e ?q_go
  case q_e => exact rfl
  obtain ⟨H, gs, dr, tks, os⟩ := s
  dsimp only at F' N' hret
  revert F' N' hret
  revert B' X' T'
  k_fill
  intro B' X' T' F' N' hret
  have hzl2 : unlike parts ≤ 1000 := by rw [← hcount]; exact Nat.le_trans (List.length_filter_le _ _) hxl
  wrow_steps
  refine ⟨?_⟩
  rename News g' L' _ _ => kN
  with_unfolding_all refine' con_use (tk0 := 0) (un0 := 100) (dn := 3) ?q_B ?q_F ?q_X ?q_T ?q_k (count_con (w := w) (g := f) (tk1 := tk0) (xs := xs) (x := (p : Int)) (u := tp) hla hlv (Nat.ne_of_gt (Nat.lt_of_lt_of_le (by omega) htp)) htp hxl) ?q_N ?q_hd ?q_hu (Nat.zero_le _) ?_
  case q_B | q_F | q_X | q_T => k_asm
  case q_k => rfl
  case q_N => exact kN
  case q_hd => (first | ktr_room | decide)
  case q_hu => (first | ktr_units | decide | ((show un + 3 + _ < cLine); omega))
  intro v9 news9 h9 tk9 F9 N9 hl9 hp9
  (try dsimp only at hl9)
  obtain ⟨rfl, t9, rfl⟩ := hp9
  rw [hcount]
  wrow_steps
  refine ⟨?_⟩
  refine places_comp hc6 ho6 hpa hys hpl B' F9 X' T' N9 ?_
  intro D zs h1 tk1 hzl F1 N1 hk1
  (try dsimp only at hk1)
  have hzz : zs.length ≤ 100000 := by omega
  clear N9 F9
  wrow_steps
  refine ⟨wpAny_execs_nil ?_⟩
  exact hret _ _ F1 (News.sub N1 fun q hq => .tail _ hq) (by (try dsimp only); omega)
end
section
noncomputable def PlaceJ (L' la : Addr) (X : List (Addr × Obj)) (tk0 : Nat) (_ : Nat) (m : Str → Option Value) (news : List (Addr × Obj)) (tk : Nat) : Prop :=
  ∃ (o5 o6 : Obj) (v5 v6 : Option Value), news = (L' + 1 + 1 + 1 + 1 + 1, o5) :: (L' + 1 + 1 + 1 + 1 + 1 + 1, o6) :: X ∧ o5.data = .cell v5 ∧ o6.data = .cell v6 ∧ tk0 ≤ tk ∧ m (Str.ofString "letters") = some (.ref la)
local macro_rules | `(tactic| walk_at "pyIter ref") => `(tactic| (k_here; (with_reducible refine Stop.out ?_)))
set_option maxHeartbeats 2000000 in
theorem law_10 {w : World} {o4 o5 o6 : Obj} {v5 v6 : Option Value} {tb la : Addr} {lvs : List Value} {bn ln tk0 : Nat} {f : Nat → Int} {rows : List Row} {root : Int} {reached : List Int} {bs : List (Int × Tok)} {X : List (Addr × Obj)}
    (R : RowsOk rows) (hnd : Nd rows root) (hD : DInv rows root reached []) (hrz : reached.length ≤ 1000) (h26 : 2600 ≤ tk0)
    (hc4 : (L' + 1 + 1 + 1 + 1, o4) ∈ X) (ho4 : o4.data = .cell (some (.ref tb))) (htb : (tb, listOf (bs.map intV).toArray bn) ∈ X) (hbs : bs.map (·.1) = tabOf rows root)
    (hla : (la, listOf lvs.toArray ln) ∈ X) (hlv : IntsIn f tk0 lvs (reached.map (lev rows)))
    (ho5 : o5.data = .cell v5) (ho6 : o6.data = .cell v6) (hoff : ∀ q ∈ X, q.1 ≠ L' + 1 + 1 + 1 + 1 + 1 ∧ q.1 ≠ L' + 1 + 1 + 1 + 1 + 1 + 1)
    {base g' : Heap} {fa : Addr} {cd : Value} {s : Shared} {mean : ExcName → Option Value} {mg mb m' : Str → Option Value} {Qf : Flow → Shared → Prop} {E : Value → Shared → Prop}
    (B' : Below callerA base [] g') (F' : Fr g' L' s.heap m') (X' : (KK w.params).In g') (T' : Top qv looseL mean mg mb g')
    (N' : News g' L' s.heap ((L' + 1 + 1 + 1 + 1 + 1, o5) :: (L' + 1 + 1 + 1 + 1 + 1 + 1, o6) :: X)) (htk : tk0 ≤ s.toks) (hm1 : m' (Str.ofString "letters") = some (.ref la))
    (hret : ∀ h' tk' m'' X2, Fr g' L' h' m'' → News g' L' h' X2 → s.toks ≤ tk' →
      Stop (wpAny (model Challenge.rw_wf0091_01.prog w) (callerA.deeper (lwEnv L' fa cd)) (execs ((fnOfStm 83).2.1.drop 12) (lwEnv L' fa cd)) Qf E { s with heap := h', toks := tk' })) :
    wpAny (model Challenge.rw_wf0091_01.prog w) (callerA.deeper (lwEnv L' fa cd)) (execs ((fnOfStm 83).2.1.drop 11) (lwEnv L' fa cd)) Qf E s := by
  have e : (fnOfStm 83).2.1.drop 11 = .For (.Name (Str.ofString "place") _) _ lw11 [] _ :: (fnOfStm 83).2.1.drop 12 := rfl
  rw [e]
  have hbl : bs.length = 16 := by
    have := congrArg List.length hbs
    rw [List.length_map, tab_len] at this; exact this
  obtain ⟨H, gs, dr, tks, os⟩ := s
  dsimp only at F' N' hret htk
  refine wpAny_execs_cons (wpAny_For ?_ (fun _ => rfl))
  refine wpAny_with_toks (Nat.le_refl _) ?_
  refine wp_gen fun Q2 hq => ?_
  revert F' N' hret
  revert B' X' T'
  k_fill
  intro B' X' T' F' N' hret
  wrow_steps
  rename News g' L' _ _ => kN
  rename Fr g' L' _ _ => kF
  rename IsRange _ _ _ _ _ _ _ _ => hrg
  refine (hq _ _ fun htk9 => ?_).out
  dsimp only at htk9
  have hc56 : @Ne Nat (L' + 1 + 1 + 1 + 1 + 1) (L' + 1 + 1 + 1 + 1 + 1 + 1) := Nat.ne_of_lt (Nat.lt_succ_self _)
  refine iter_rng (h₀ := g') (n := 4) rfl rfl rfl hrg (by decide) (by decide) kF kN (PlaceJ L' la X tks) ⟨o5, o6, v5, v6, rfl, ho5, ho6, htk9, hm1⟩ ?_ ?_
  · intro p t m₁ news₁ h tk₁ tk I oI hp hcI ht hk hJ hq1 F₁ N₁
    obtain ⟨o5, o6, v5, v6, rfl, ho5, ho6, hk0, g1⟩ := hJ
    subst ht
    have hI5 : @Ne Nat I (L' + 1 + 1 + 1 + 1 + 1) := fun e => hq1 _ (.head _) e.symm
    have hI6 : @Ne Nat I (L' + 1 + 1 + 1 + 1 + 1 + 1) := fun e => hq1 _ (.tail _ (.head _)) e.symm
    refine place_0 (p := p) (tp := t) (TT := (I, oI) :: (L' + 1 + 1 + 1 + 1 + 1 + 1, o6) :: X) hp ho5 B' F₁ X' T' (News.sub N₁ swap2) ?q_o (by with_unfolding_all rfl) ?q_0
    case q_o =>
      intro q hq
      rcases List.mem_cons.mp hq with rfl | hq
      · exact hI5
      rcases List.mem_cons.mp hq with rfl | hq
      · exact hc56.symm
      · exact (hoff q hq).1
    case q_0 =>
    intro o5' tz h1 tk1 F1 N1 hk1 ho5'
    (try dsimp only at hk1)
    refine ⟨?_⟩
    have hXs : ∀ q ∈ X, q ∈ (L' + 1 + 1 + 1 + 1 + 1, o5') :: (I, oI) :: (L' + 1 + 1 + 1 + 1 + 1 + 1, o6) :: X := fun q hq => .tail _ (.tail _ (.tail _ hq))
    refine place_1 (p := p) (v6 := v6) (X := (L' + 1 + 1 + 1 + 1 + 1, o5') :: (I, oI) :: (L' + 1 + 1 + 1 + 1 + 1 + 1, o6) :: X) hp hbl (hXs _ hc4) ho4 (hXs _ htb) (.head _) ho5' (.tail _ (.tail _ (.head _))) ho6 B' F1 X' T' N1 ?q_1
    case q_1 =>
    intro o6' pa ys yn X2 h2 tk2 F2 N2 hk2 ho6' hpa hyl hys hin hoff2
    (try dsimp only at hk2)
    refine ⟨?_⟩
    have hz := shr_le hp
    have hz2 := pow_le hp
    have h5in := hin (L' + 1 + 1 + 1 + 1 + 1, o5') (.head _) hc56
    have hIin := hin (I, oI) (.tail _ (.head _)) hI6
    have hXin : ∀ q ∈ X, q ∈ X2 := fun q hq => hin q (hXs q hq) (hoff q hq).2
    have hparts : ∀ t ∈ (List.range (2 ^ p)).map (partAt (bs.map (·.1)) p), t.length ≤ 16 := by
      intro t ht
      obtain ⟨k, _, rfl⟩ := List.mem_map.mp ht
      unfold partAt
      rw [List.length_take]
      exact Nat.le_trans (Nat.min_le_left ..) hz.2
    refine place_2 (sz := shr p) (parts := (List.range (2 ^ p)).map (partAt (bs.map (·.1)) p)) (X := X2) hz h5in ho5' ho6' hpa hys (by omega) hparts B' F2 X' T' N2 hoff2 ?q_2
    case q_2 =>
    intro o6'' D zs h3 tk3 F3 N3 hk3 ho6'' hzs
    (try dsimp only at hk3)
    refine ⟨?_⟩
    have hcnt := count_ok R hnd hD hp
    have hpo : partsOf (tabOf rows root) p = ((List.range (2 ^ p)).map (partAt (bs.map (·.1)) p)).filter fun t => decide (t.take (shr p / 2) ≠ t.drop (shr p / 2)) := by rw [hbs]; rfl
    rw [hpo] at hcnt
    have hzl : zs.length ≤ 16 := by
      rw [hzs.1]
      refine Nat.le_trans (List.length_filter_le _ _) ?_
      rw [List.length_map, List.length_range]; exact hz2
    refine place_3 (p := p) (tp := t) (tk0 := tk0) (X := (L' + 1 + 1 + 1 + 1 + 1 + 1, o6'') :: (D, LCg.lst zs) :: X2) hp (.head _) ho6'' (.tail _ (.head _)) (hzs.mono fun q hq => .tail _ (.tail _ hq)) hzl (.tail _ (.tail _ (hXin _ hla))) hlv (by simpa using hrz) h26 (by omega) hcnt B' F3 X' T' N3 (by with_unfolding_all rfl) ?q_m ?q_3
    case q_m => rw [if_neg (by decide)]; exact g1
    case q_3 =>
    intro h4 tk4 F4 N4 hk4
    (try dsimp only at hk4)
    refine ⟨h4, tk4, _, (L' + 1 + 1 + 1 + 1 + 1, o5') :: (L' + 1 + 1 + 1 + 1 + 1 + 1, o6'') :: X, rfl, F4, News.sub N4 ?_, ?_, (fun q hq => nomatch hq), o5', o6'', _, _, rfl, ho5', ho6'', ?_, ?_⟩
    · intro q hq
      rcases List.mem_cons.mp hq with rfl | hq
      · exact .tail _ (.tail _ hIin)
      rcases List.mem_cons.mp hq with rfl | hq
      · exact .tail _ (.tail _ h5in)
      rcases List.mem_cons.mp hq with rfl | hq
      · exact .head _
      · exact .tail _ (.tail _ (hXin q hq))
    · intro q hq
      rcases List.mem_cons.mp hq with rfl | hq
      · exact hI5.symm
      rcases List.mem_cons.mp hq with rfl | hq
      · exact hI6.symm
      · exact hq1 q (.tail _ (.tail _ hq))
    · omega
    · dsimp only; rw [if_neg (by decide)]; exact g1
  · intro h' tk' m'' news' F₁ N₁ hJ
    obtain ⟨o5, o6, v5, v6, rfl, ho5, ho6, hk0, g1⟩ := hJ
    exact (hret h' tk' m'' _ F₁ N₁ hk0).out
theorem law_11 {w : World} {X : List (Addr × Obj)}
    {base g' : Heap} {L' fa : Addr} {cd : Value} {s : Shared} {mean : ExcName → Option Value} {mg mb m' : Str → Option Value} {Qf : Flow → Shared → Prop} {E : Value → Shared → Prop}
    (B' : Below callerA base [] g') (F' : Fr g' L' s.heap m') (X' : (KK w.params).In g') (T' : Top qv looseL mean mg mb g')
    (N' : News g' L' s.heap X)
    (hret : ∀ tk', s.toks ≤ tk' → Qf (.ret (.bool true)) { s with toks := tk' }) :
    wpAny (model Challenge.rw_wf0091_01.prog w) (callerA.deeper (lwEnv L' fa cd)) (execs ((fnOfStm 83).2.1.drop 12) (lwEnv L' fa cd)) Qf E s := by
  with_reducible refine' execs_split (xs := [_]) (ys := []) ?q_e ?q_go
  case q_e => exact rfl
  obtain ⟨H, gs, dr, tks, os⟩ := s
  dsimp only at F' N' hret
  revert F' N' hret
  revert B' X' T'
  k_fill
  intro B' X' T' F' N' hret
  wrow_steps
  exact hret _ (by (try dsimp only); omega)
end
section
theorem top_cells {prog : Program} {w : World} {A : Around} {R : Result → Shared → Prop} {s : Shared} {name : Str} {params : Arguments} {body : List Stmt} {scope : Scope}
    {pm cd doc : Value} {a : Addr} {o : Obj} {args : List Value} {binds : List (Str × Value)}
    (hroom : A.depth < recursionLimit) (ho : s.heap.get? a = some o) (hdata : o.data = .func (Calls.docDef name params body scope pm cd doc)) (hlim : s.heap.NoLimit) (hcd : s.heap.CodeRec cd name)
    (hbind : bindArgs (Calls.docDef name params body scope pm cd doc) ⟨args, []⟩ = pure binds)
    (hkind : (binds.all fun y => scope.names.lookup y.1 == some .local || scope.names.lookup y.1 == some .cell) = true)
    (hnd : ((cellsFrom 0 scope.names []).map (·.1)).Nodup)
    (h : ∀ h₁ tk cells, s.toks ≤ tk → Fr s.heap s.heap.objs.size h₁ (bindL (envOfC name scope s.heap.objs.size a cd).kindOf binds fun _ => none) → News s.heap s.heap.objs.size h₁ cells →
      CellsAre (bindC (envOfC name scope s.heap.objs.size a cd).kindOf binds fun _ => none) (cellsFrom (s.heap.objs.size + 1) scope.names []) cells →
      wpAny (model prog w) (A.deeper (envOfC name scope s.heap.objs.size a cd)) (execs body (envOfC name scope s.heap.objs.size a cd))
        (fun f s' => R (.ok (.ret (match f with | .ret v => v | _ => .none))) s')
        (fun e s' => wpAny (model prog w) (A.deeper (envOfC name scope s.heap.objs.size a cd)) (leaving (envOfC name scope s.heap.objs.size a cd) e)
          (fun _ s'' => R (.error e) s'') (fun e' s'' => R (.error e') s'') s')
        { s with heap := h₁, toks := tk })
    (hco : scope.isCoroutine = false := by rfl) (hgen : scope.isGenerator = false := by rfl) (hk : scope.kind = .function := by rfl) :
    codeAny (model prog w) A (.call (.ref a) ⟨args, []⟩) R s := by
  obtain ⟨oc, od, dt, osl⟩ := o
  dsimp only at hdata
  subst hdata
  refine codeAny_call_function hroom ho rfl hco hgen rfl hcd (BindsTo.of_eq hbind _ _ _ _ ?_)
  refine wpAny_with_toks (Nat.le_refl _) (wpAny_newFunctionEnv_cells hk (kindsX hkind _) fun env' he s' x => ?_)
  subst he
  obtain ⟨h₁, tk, rfl, _⟩ := x.done
  intro htk
  refine ⟨hlim.keeps x.toInCall.keep, codeAny_func ?_⟩
  have kp := x.toInCall.keep
  obtain ⟨cells, NC, Y⟩ := Cl.news (h₀ := s.heap) (Nat.le_refl _) fun n c hm => ⟨x.cell n c (lookup_of_mem_nodup (cellsFrom_names scope.names 0 (s.heap.objs.size + 1) [] [] rfl ▸ hnd) hm), x.above n c hm⟩
  exact h h₁ tk cells htk ⟨x.toInCall.ns, x.toInCall.keep, x.toInCall.fresh⟩ NC Y
theorem CellsAre.inv {cm : Str → Option Value} {n : Str} {c : Addr} {l : List (Str × Addr)} {cells : List (Addr × Obj)} (x : CellsAre cm ((n, c) :: l) cells) : ∃ o r, cells = (c, o) :: r ∧ (∃ v, o.data = .cell v) ∧ CellsAre cm l r := by
  cases x with | cons h x => exact ⟨_, _, rfl, ⟨_, h⟩, x⟩
theorem CellsAre.six {cm : Str → Option Value} {n1 n2 n3 n4 n5 n6 : Str} {c1 c2 c3 c4 c5 c6 : Addr} {cells : List (Addr × Obj)} (x : CellsAre cm [(n6, c6), (n5, c5), (n4, c4), (n3, c3), (n2, c2), (n1, c1)] cells) :
    ∃ o1 o2 o3 o4 o5 o6 : Obj, cells = [(c6, o6), (c5, o5), (c4, o4), (c3, o3), (c2, o2), (c1, o1)] ∧ (∃ v, o1.data = .cell v) ∧ (∃ v, o2.data = .cell v) ∧ (∃ v, o3.data = .cell v) ∧ (∃ v, o4.data = .cell v) ∧ (∃ v, o5.data = .cell v) ∧ (∃ v, o6.data = .cell v) := by
  obtain ⟨o6, r6, e6, h6, x⟩ := CellsAre.inv x
  obtain ⟨o5, r5, e5, h5, x⟩ := CellsAre.inv x
  obtain ⟨o4, r4, e4, h4, x⟩ := CellsAre.inv x
  obtain ⟨o3, r3, e3, h3, x⟩ := CellsAre.inv x
  obtain ⟨o2, r2, e2, h2, x⟩ := CellsAre.inv x
  obtain ⟨o1, r1, e1, h1, x⟩ := CellsAre.inv x
  cases x
  subst e1 e2 e3 e4 e5 e6
  exact ⟨_, _, _, _, _, _, rfl, h1, h2, h3, h4, h5, h6⟩
end
section
theorem s1 (n : Nat) : n < n + 1 := Nat.lt_succ_self _
theorem s2 (n : Nat) : n < n + 1 + 1 := Nat.lt_succ_of_lt (s1 n)
theorem s3 (n : Nat) : n < n + 1 + 1 + 1 := Nat.lt_succ_of_lt (s2 n)
theorem s4 (n : Nat) : n < n + 1 + 1 + 1 + 1 := Nat.lt_succ_of_lt (s3 n)
theorem s5 (n : Nat) : n < n + 1 + 1 + 1 + 1 + 1 := Nat.lt_succ_of_lt (s4 n)
theorem cell_eq {o : Obj} (h : ∃ v, o.data = .cell v) {a : Addr} {X : List (Addr × Obj)} {h₀ hh : Heap} {L : Addr} (N : News h₀ L hh X) (hc : (a, o) ∈ X) {b : Addr} {xs : Array Value} {n : Nat} (hb : (b, listOf xs n) ∈ X) : @Ne Nat a b := by
  obtain ⟨v, hv⟩ := h
  exact News.ne N hc hb (cell_ne hv rfl)
theorem law_body {w : World} {scr : Addr} {its : List Value} {ns : List Int} {tk0 : Nat} {o1 o2 o3 o4 o5 o6 : Obj} {v1 v2 v3 v4 v5 v6 : Option Value} (hi : IntsAre its ns) (hn : its.length ≤ 63) (h26 : 2600 ≤ tk0)
    (h1 : o1.data = .cell v1) (h2 : o2.data = .cell v2) (h3 : o3.data = .cell v3) (h4 : o4.data = .cell v4) (h5 : o5.data = .cell v5) (h6 : o6.data = .cell v6)
    {base g' : Heap} {L' fa : Addr} {cd : Value} {s : Shared} {mean : ExcName → Option Value} {mg mb m' : Str → Option Value} {Qf : Flow → Shared → Prop} {E : Value → Shared → Prop}
    (B' : Below callerA base [] g') (F' : Fr g' L' s.heap m') (X' : (KK w.params).In g') (T' : Top qv looseL mean mg mb g')
    (N' : News g' L' s.heap [(L' + 1 + 1 + 1 + 1 + 1 + 1, o6), (L' + 1 + 1 + 1 + 1 + 1, o5), (L' + 1 + 1 + 1 + 1, o4), (L' + 1 + 1 + 1, o3), (L' + 1 + 1, o2), (L' + 1, o1)]) (hscr : g'.IsList scr its.toArray)
    (hm1 : m' (Str.ofString "script") = some (.ref scr)) (htk : tk0 ≤ s.toks) (hE : PassesOwn (model Challenge.rw_wf0091_01.prog w) (callerA.deeper (lwEnv L' fa cd)) (lwEnv L' fa cd) E)
    (hret : ∀ h' tk' m'' X, Fr g' L' h' m'' → News g' L' h' X → Qf (.ret (.bool true)) { s with heap := h', toks := tk' }) :
    wpAny (model Challenge.rw_wf0091_01.prog w) (callerA.deeper (lwEnv L' fa cd)) (execs (fnOfStm 83).2.1 (lwEnv L' fa cd)) Qf E s := by
  have ln : ∀ {a b : Nat}, a < b → @Ne Nat a b := fun h => Nat.ne_of_lt h
  refine law_1 (scr := scr) (its := its) (ns := ns) (tk0 := tk0) (oTa := o1) (v0 := v1) (Cs := [(L' + 1 + 1, o2), (L' + 1 + 1 + 1, o3), (L' + 1 + 1 + 1 + 1, o4), (L' + 1 + 1 + 1 + 1 + 1, o5), (L' + 1 + 1 + 1 + 1 + 1 + 1, o6)]) hi hn h26 h1 B' F' X' T' (News.sub N' ?q_s) ?q_c ?q_t hscr hm1 htk ?q_1
  case q_s =>
    intro p hp
    simp only [List.mem_cons, List.not_mem_nil, or_false] at hp ⊢
    rcases hp with h | h | h | h | h | h <;> simp [h]
  case q_c =>
    intro p hp
    simp only [List.mem_cons, List.not_mem_nil, or_false] at hp
    rcases hp with rfl | rfl | rfl | rfl | rfl | rfl
    · exact ⟨_, h1⟩
    · exact ⟨_, h2⟩
    · exact ⟨_, h3⟩
    · exact ⟨_, h4⟩
    · exact ⟨_, h5⟩
    · exact ⟨_, h6⟩
  case q_t =>
    intro p hp
    simp only [List.mem_cons, List.not_mem_nil, or_false] at hp
    rcases hp with rfl | rfl | rfl | rfl | rfl <;> (refine (ln ?_).symm; (first | exact s1 _ | exact s2 _ | exact s3 _ | exact s4 _ | exact s5 _))
  case q_1 =>
  intro turn d ta tn ts tt o1' R h1' tk1 m1 hd ht6 ht12 F1 N1 hRoff hk1 ho1 hta hts htt hmt
  refine ⟨?_⟩
  obtain ⟨ws, cur, q, hp⟩ := hd.drawn
  have hRn : ∀ p ∈ R, @Ne Nat p.1 (L' + 1) ∧ @Ne Nat p.1 (L' + 1 + 1) ∧ @Ne Nat p.1 (L' + 1 + 1 + 1) := by
    intro p hp
    have := hRoff p hp
    simp only [List.map_cons, List.map_nil, List.mem_cons, List.not_mem_nil, or_false, not_or] at this
    exact ⟨this.1, this.2.1, this.2.2.1⟩
  refine law_2 (o2 := o2) (v0 := v2) (TT := (L' + 1, o1') :: ([(L' + 1 + 1 + 1, o3), (L' + 1 + 1 + 1 + 1, o4), (L' + 1 + 1 + 1 + 1 + 1, o5), (L' + 1 + 1 + 1 + 1 + 1 + 1, o6)] ++ R)) h2 B' F1 X' T' (News.sub N1 swap2) ?q_o ?q_2
  case q_o =>
    intro p hp
    simp only [List.mem_cons, List.mem_append, List.not_mem_nil, or_false] at hp
    rcases hp with rfl | (rfl | rfl | rfl | rfl) | hp
    · refine ln ?_; (first | exact s1 _ | exact s2 _ | exact s3 _ | exact s4 _ | exact s5 _)
    · refine (ln ?_).symm; (first | exact s1 _ | exact s2 _ | exact s3 _ | exact s4 _ | exact s5 _)
    · refine (ln ?_).symm; (first | exact s1 _ | exact s2 _ | exact s3 _ | exact s4 _ | exact s5 _)
    · refine (ln ?_).symm; (first | exact s1 _ | exact s2 _ | exact s3 _ | exact s4 _ | exact s5 _)
    · refine (ln ?_).symm; (first | exact s1 _ | exact s2 _ | exact s3 _ | exact s4 _ | exact s5 _)
    · exact (hRn p hp).2.1
  case q_2 =>
  intro pl o2' h2' tk2 F2 N2 hk2 ho2
  (try dsimp only at hk2)
  refine ⟨?_⟩
  have hplm : (pl, listOf #[] 0) ∈ (L' + 1 + 1, o2') :: (pl, listOf #[] 0) :: (L' + 1, o1') :: ([(L' + 1 + 1 + 1, o3), (L' + 1 + 1 + 1 + 1, o4), (L' + 1 + 1 + 1 + 1 + 1, o5), (L' + 1 + 1 + 1 + 1 + 1 + 1, o6)] ++ R) := .tail _ (.head _)
  have m2 : (L' + 1 + 1, o2') ∈ (L' + 1 + 1, o2') :: (pl, listOf #[] 0) :: (L' + 1, o1') :: ([(L' + 1 + 1 + 1, o3), (L' + 1 + 1 + 1 + 1, o4), (L' + 1 + 1 + 1 + 1 + 1, o5), (L' + 1 + 1 + 1 + 1 + 1 + 1, o6)] ++ R) := .head _
  have m1 : (L' + 1, o1') ∈ (L' + 1 + 1, o2') :: (pl, listOf #[] 0) :: (L' + 1, o1') :: ([(L' + 1 + 1 + 1, o3), (L' + 1 + 1 + 1 + 1, o4), (L' + 1 + 1 + 1 + 1 + 1, o5), (L' + 1 + 1 + 1 + 1 + 1 + 1, o6)] ++ R) := .tail _ (.tail _ (.head _))
  have m3 : (L' + 1 + 1 + 1, o3) ∈ (L' + 1 + 1, o2') :: (pl, listOf #[] 0) :: (L' + 1, o1') :: ([(L' + 1 + 1 + 1, o3), (L' + 1 + 1 + 1 + 1, o4), (L' + 1 + 1 + 1 + 1 + 1, o5), (L' + 1 + 1 + 1 + 1 + 1 + 1, o6)] ++ R) := .tail _ (.tail _ (.tail _ (.head _)))
  have m4 : (L' + 1 + 1 + 1 + 1, o4) ∈ (L' + 1 + 1, o2') :: (pl, listOf #[] 0) :: (L' + 1, o1') :: ([(L' + 1 + 1 + 1, o3), (L' + 1 + 1 + 1 + 1, o4), (L' + 1 + 1 + 1 + 1 + 1, o5), (L' + 1 + 1 + 1 + 1 + 1 + 1, o6)] ++ R) := .tail _ (.tail _ (.tail _ (.tail _ (.head _))))
  have m5 : (L' + 1 + 1 + 1 + 1 + 1, o5) ∈ (L' + 1 + 1, o2') :: (pl, listOf #[] 0) :: (L' + 1, o1') :: ([(L' + 1 + 1 + 1, o3), (L' + 1 + 1 + 1 + 1, o4), (L' + 1 + 1 + 1 + 1 + 1, o5), (L' + 1 + 1 + 1 + 1 + 1 + 1, o6)] ++ R) := .tail _ (.tail _ (.tail _ (.tail _ (.tail _ (.head _)))))
  have m6 : (L' + 1 + 1 + 1 + 1 + 1 + 1, o6) ∈ (L' + 1 + 1, o2') :: (pl, listOf #[] 0) :: (L' + 1, o1') :: ([(L' + 1 + 1 + 1, o3), (L' + 1 + 1 + 1 + 1, o4), (L' + 1 + 1 + 1 + 1 + 1, o5), (L' + 1 + 1 + 1 + 1 + 1 + 1, o6)] ++ R) := .tail _ (.tail _ (.tail _ (.tail _ (.tail _ (.tail _ (.head _))))))
  have mR : ∀ p ∈ R, p ∈ (L' + 1 + 1, o2') :: (pl, listOf #[] 0) :: (L' + 1, o1') :: ([(L' + 1 + 1 + 1, o3), (L' + 1 + 1 + 1 + 1, o4), (L' + 1 + 1 + 1 + 1 + 1, o5), (L' + 1 + 1 + 1 + 1 + 1 + 1, o6)] ++ R) := fun p hp => .tail _ (.tail _ (.tail _ (List.mem_append_right _ hp)))
  generalize hX2 : (L' + 1 + 1, o2') :: (pl, listOf #[] 0) :: (L' + 1, o1') :: ([(L' + 1 + 1 + 1, o3), (L' + 1 + 1 + 1 + 1, o4), (L' + 1 + 1 + 1 + 1 + 1, o5), (L' + 1 + 1 + 1 + 1 + 1 + 1, o6)] ++ R) = X2 at N2 hplm m1 m2 m3 m4 m5 m6 mR
  clear hX2
  have p1 := cell_eq ⟨_, ho1⟩ N2 m1 hplm
  have p2 := cell_eq ⟨_, ho2⟩ N2 m2 hplm
  have p4 := cell_eq ⟨_, h4⟩ N2 m4 hplm
  have p5 := cell_eq ⟨_, h5⟩ N2 m5 hplm
  have p6 := cell_eq ⟨_, h6⟩ N2 m6 hplm
  have htb16 : ∀ t ∈ d.tables, t.length = 16 := fun t ht => (hd.facts.bitt t ht).1
  have htn := hd.facts.tn
  have hpta : @Ne Nat ta pl := News.ne N2 (mR _ hta) hplm (fun e => by
    have := congrArg Obj.data e
    simp only [Data.seq.injEq] at this
    have h := this.1
    have h2 : ts = [] := by simpa using h
    have := hts.1
    rw [h2] at this
    simp at this
    omega)
  have hRp : ∀ p ∈ R, p.1 ≠ pl ∨ NoTab p.2 := by
    intro p hp
    by_cases e : p.1 = pl
    · right
      have := News.same N2 (mR p hp) hplm e
      rw [this]
      intro ps n e2
      have := congrArg Obj.data e2
      simp only [Data.seq.injEq] at this
      simpa using this.1.symm
    · exact .inl e
  have hsl := hp.sl
  refine law_3 (o2 := o2') (o3 := o3) (v3 := v3) (pl := pl) (TT := X2) (d := d) (n := turn) (tk0 := tk0) (tx := tt) hp ⟨by omega, ht12⟩ h26 m2 ho2 m3 h3 hplm B' F2 X' T' N2 (by (try dsimp only); omega) hmt ?q_3
  case q_3 =>
  intro sa vs svs n' sn g o3' X3 h3' tk3 F3 N3 hk3 ho3 hplX hsaX hR hS hin hoff3
  (try dsimp only at hk3)
  refine ⟨?_⟩
  have c1 := hin _ m1 p1 (ln (by first | exact s1 _ | exact s2 _ | exact s3 _ | exact s4 _ | exact s5 _))
  have c2 := hin _ m2 p2 (ln (by first | exact s1 _ | exact s2 _ | exact s3 _ | exact s4 _ | exact s5 _))
  have c4 := hin _ m4 p4 (ln (by first | exact s1 _ | exact s2 _ | exact s3 _ | exact s4 _ | exact s5 _)).symm
  have c5 := hin _ m5 p5 (ln (by first | exact s1 _ | exact s2 _ | exact s3 _ | exact s4 _ | exact s5 _)).symm
  have c6 := hin _ m6 p6 (ln (by first | exact s1 _ | exact s2 _ | exact s3 _ | exact s4 _ | exact s5 _)).symm
  have cta := hin _ (mR _ hta) hpta (hRn _ hta).2.2
  have cts : TabsIn X3 ts d.tables := hts.less htb16 fun p hp => by
    rcases hRp p hp with h | h
    · exact .inl (hin p (mR p hp) h (hRn p hp).2.2)
    · exact .inr h
  have Rk := hp.sm.ok.ok
  have hrl := hp.sm.ok.len
  have hseen : q.seen.length ≤ 36 := by
    have := (runS_len hp.rn).2
    simp only [List.length_nil, Nat.zero_add] at this
    omega
  have htbl : d.tables.length = q.seen.length := by rw [← hp.sm.tb, List.length_map]
  have hsame : d.tables.map (fun t => d.tables.idxOf t) = q.seen.map fun x => q.seen.idxOf x := by
    rw [← hp.sm.tb]
    exact places Rk hp.sm.ok.sn
  refine law_4 (o1 := o1') (o3 := o3') (ta := ta) (sa := sa) (tn := tn) (sn := sn) (tk0 := tk3) (g := g) (X := (L' + 1 + 1 + 1, o3') :: X3) (.tail _ c1) ho1 (.tail _ cta) (cts.mono fun p hp => .tail _ hp) (by omega) (.head _) ho3 (.tail _ hsaX) hS (by omega) hsame B' F3 X' T' N3 ?q_4
  case q_4 =>
  intro h4' tk4 F4 N4 hk4
  (try dsimp only at hk4)
  refine ⟨?_⟩
  obtain ⟨xs, x, hxs⟩ : ∃ xs x, q.seen = xs ++ [x] := ⟨q.seen.dropLast, q.seen.getLast (by rintro e; rw [e, List.length_nil] at htbl; omega), (List.dropLast_concat_getLast _).symm⟩
  have htabs : d.tables = xs.map (tabOf q.rows) ++ [tabOf q.rows x] := by rw [← hp.sm.tb, hxs, List.map_append]; rfl
  rw [hxs] at hS
  rw [htabs] at cts
  obtain ⟨sus, str, rfl, _, htr⟩ := hS.unsnoc
  obtain ⟨tus, tv, rfl, _, htv⟩ := cts.unsnoc
  obtain ⟨tb, bn, bs, rfl, htb, hbs⟩ := htv
  have hndx : Nd q.rows x := hp.sm.ok.sn x (by rw [hxs]; exact List.mem_append_right _ (.head _))
  have hxl := congrArg List.length hxs
  rw [List.length_append, List.length_singleton] at hxl
  have hsl2 : sus.length ≤ 36 := by
    have h9 := hS.length
    rw [List.length_append, List.length_append, List.length_singleton, List.length_singleton] at h9
    omega
  have htl2 : tus.length ≤ 36 := by
    have h9 := cts.1
    rw [List.length_append, List.length_append, List.length_singleton, List.length_singleton, List.length_map] at h9
    omega
  have N5 := News.focus N4 (c := L' + 1 + 1 + 1 + 1) (o := o4) (.tail _ c4)
  have f4 : ∀ {p : Addr × Obj}, p ∈ (L' + 1 + 1 + 1, o3') :: X3 → @Ne Nat p.1 (L' + 1 + 1 + 1 + 1) → p ∈ clean [L' + 1 + 1 + 1 + 1] ((L' + 1 + 1 + 1, o3') :: X3) := fun hp h => clean_in hp h
  have n4 : ∀ {b : Addr} {xs : Array Value} {n : Nat}, (b, listOf xs n) ∈ (L' + 1 + 1 + 1, o3') :: X3 → @Ne Nat b (L' + 1 + 1 + 1 + 1) := fun hb => (cell_eq ⟨_, h4⟩ N4 (.tail _ c4) hb).symm
  have d1 := f4 (.tail _ c1) (ln (by first | exact s1 _ | exact s2 _ | exact s3 _ | exact s4 _ | exact s5 _))
  have d2 := f4 (.tail _ c2) (ln (by first | exact s1 _ | exact s2 _ | exact s3 _ | exact s4 _ | exact s5 _))
  have d3 := f4 (.head _) (ln (by first | exact s1 _ | exact s2 _ | exact s3 _ | exact s4 _ | exact s5 _))
  have d5 := f4 (.tail _ c5) (ln (by first | exact s1 _ | exact s2 _ | exact s3 _ | exact s4 _ | exact s5 _)).symm
  have d6 := f4 (.tail _ c6) (ln (by first | exact s1 _ | exact s2 _ | exact s3 _ | exact s4 _ | exact s5 _)).symm
  have dta := f4 (.tail _ cta) (n4 (.tail _ cta))
  have dsa := f4 (.tail _ hsaX) (n4 (.tail _ hsaX))
  have dtb := f4 (.tail _ htb) (n4 (.tail _ htb))
  have dpl := f4 (.tail _ hplX) (n4 (.tail _ hplX))
  have dR := RowsIn.clean (Cs := [(L' + 1 + 1 + 1 + 1, o4)]) N4 (fun p hp => by rw [List.mem_singleton.mp hp]; exact ⟨_, h4⟩) (fun p hp => by rw [List.mem_singleton.mp hp]; exact .tail _ c4) hR (fun p hp => .tail _ hp)
  have doff : ∀ p ∈ clean [L' + 1 + 1 + 1 + 1] ((L' + 1 + 1 + 1, o3') :: X3), p.1 ≠ L' + 1 + 1 + 1 + 1 := clean_off
  change RowsIn g tk3 (clean [L' + 1 + 1 + 1 + 1] _) vs q.rows at dR
  generalize clean [L' + 1 + 1 + 1 + 1] ((L' + 1 + 1 + 1, o3') :: X3) = X5 at N5 d1 d2 d3 d5 d6 dta dsa dtb dpl dR doff
  clear f4 n4
  refine law_5 (o1 := o1') (o3 := o3') (o4 := o4) (ta := ta) (sa := sa) (tb := tb) (us := tus) (vs := sus) (x := x) (tx := str) (TT := X5) h4 d1 ho1 dta (by omega) d3 ho3 dsa (by omega) B' F4 X' T' N5 doff ?q_5
  case q_5 =>
  intro o4' h5' tk5 F5 N5' ho4 hk5
  (try dsimp only at hk5)
  refine ⟨?_⟩
  have h16 : q.rows.length ≤ 600 := by omega
  refine law_6 (o2 := o2') (o4 := o4') (pl := pl) (tb := tb) (tk0 := tk3) (f := g) (root := x) (tr := str) (bs := bs) (X := (L' + 1 + 1 + 1 + 1, o4') :: X5) Rk hndx (by omega) (.tail _ d2) ho2 (.tail _ dpl) (dR.mono (fun p hp => .tail _ hp) (fun _ _ => rfl) (Nat.le_refl _)) (.head _) ho4 (.tail _ dtb) hbs B' F5 X' T' N5' (by rw [if_pos rfl]) hE ?q_6
  case q_6 =>
  intro h6' tk6 m6' F6 N6 hk6 hr6
  (try dsimp only at hk6)
  refine ⟨?_⟩
  refine law_7 (root := x) (tr := str) B' F6 X' T' N6 hr6 ?q_7
  case q_7 =>
  intro ra wa h7' tk7 m7 F7 N7 hk7 hrw hXr e1 e2
  (try dsimp only at hk7)
  refine ⟨?_⟩
  refine law_8 (o2 := o2') (pl := pl) (tk0 := tk3) (f := g) (rows := q.rows) (root := x) (X := (L' + 1 + 1 + 1 + 1, o4') :: X5) Rk hndx (by omega) (.tail _ d2) ho2 (.tail _ dpl) (dR.mono (fun p hp => .tail _ hp) (fun _ _ => rfl) (Nat.le_refl _)) hrw hXr B' F7 X' T' N7 e1 e2 hE ?q_8
  case q_8 =>
  intro rps rn h8' tk8 m8 F8 N8 hk8 hD e3
  (try dsimp only at hk8)
  refine ⟨?_⟩
  have hbd := DInv.bound Rk hndx hD
  simp only [List.length_map] at hbd
  refine law_9 (o2 := o2') (pl := pl) (ra := ra) (tk0 := tk3) (f := g) (rows := q.rows) (rps := rps) (X := (ra, listOf (rps.map intV).toArray rn) :: (L' + 1 + 1 + 1 + 1, o4') :: X5) (.tail _ (.tail _ d2)) ho2 (.tail _ (.tail _ dpl)) (dR.mono (fun p hp => .tail _ (.tail _ hp)) (fun _ _ => rfl) (Nat.le_refl _)) (.head _) (by omega) (by omega) ?q_n B' F8 X' T' N8 e3 ?q_9
  case q_n =>
    intro p hp
    have := hD.rch p.1 (List.mem_map_of_mem hp)
    exact ⟨Reach.nd Rk hndx this.2, this.1⟩
  case q_9 =>
  intro la lvs ln' h9' tk9 F9 N9 hk9 hlv hoff9
  (try dsimp only at hk9)
  refine ⟨?_⟩
  have e5 : (L' + 1 + 1 + 1 + 1 + 1, o5) ∈ (la, listOf lvs.toArray ln') :: (ra, listOf (rps.map intV).toArray rn) :: (L' + 1 + 1 + 1 + 1, o4') :: X5 := .tail _ (.tail _ (.tail _ d5))
  have e6 : (L' + 1 + 1 + 1 + 1 + 1 + 1, o6) ∈ (la, listOf lvs.toArray ln') :: (ra, listOf (rps.map intV).toArray rn) :: (L' + 1 + 1 + 1 + 1, o4') :: X5 := .tail _ (.tail _ (.tail _ d6))
  have e4 : (L' + 1 + 1 + 1 + 1, o4') ∈ (la, listOf lvs.toArray ln') :: (ra, listOf (rps.map intV).toArray rn) :: (L' + 1 + 1 + 1 + 1, o4') :: X5 := .tail _ (.tail _ (.head _))
  have etb : (tb, listOf (bs.map intV).toArray bn) ∈ (la, listOf lvs.toArray ln') :: (ra, listOf (rps.map intV).toArray rn) :: (L' + 1 + 1 + 1 + 1, o4') :: X5 := .tail _ (.tail _ (.tail _ dtb))
  have ela : (la, listOf lvs.toArray ln') ∈ (la, listOf lvs.toArray ln') :: (ra, listOf (rps.map intV).toArray rn) :: (L' + 1 + 1 + 1 + 1, o4') :: X5 := .head _
  generalize (la, listOf lvs.toArray ln') :: (ra, listOf (rps.map intV).toArray rn) :: (L' + 1 + 1 + 1 + 1, o4') :: X5 = X9 at N9 e4 e5 e6 etb ela
  have q5 : ∀ {b : Addr} {xs : Array Value} {n : Nat}, (b, listOf xs n) ∈ X9 → @Ne Nat b (L' + 1 + 1 + 1 + 1 + 1) := fun hb => (cell_eq ⟨_, h5⟩ N9 e5 hb).symm
  have q6 : ∀ {b : Addr} {xs : Array Value} {n : Nat}, (b, listOf xs n) ∈ X9 → @Ne Nat b (L' + 1 + 1 + 1 + 1 + 1 + 1) := fun hb => (cell_eq ⟨_, h6⟩ N9 e6 hb).symm
  have f2 : ∀ {p : Addr × Obj}, p ∈ X9 → @Ne Nat p.1 (L' + 1 + 1 + 1 + 1 + 1) → @Ne Nat p.1 (L' + 1 + 1 + 1 + 1 + 1 + 1) → p ∈ clean [L' + 1 + 1 + 1 + 1 + 1, L' + 1 + 1 + 1 + 1 + 1 + 1] X9 := fun hp a b => clean_mem.mpr ⟨hp, by simp only [List.mem_cons, List.not_mem_nil, or_false, not_or]; exact ⟨a, b⟩⟩
  have g4 := f2 e4 (ln (by first | exact s1 _ | exact s2 _ | exact s3 _ | exact s4 _ | exact s5 _)) (ln (by first | exact s1 _ | exact s2 _ | exact s3 _ | exact s4 _ | exact s5 _))
  have gtb := f2 etb (q5 etb) (q6 etb)
  have gla := f2 ela (q5 ela) (q6 ela)
  have goff : ∀ p ∈ clean [L' + 1 + 1 + 1 + 1 + 1, L' + 1 + 1 + 1 + 1 + 1 + 1] X9, p.1 ≠ L' + 1 + 1 + 1 + 1 + 1 ∧ p.1 ≠ L' + 1 + 1 + 1 + 1 + 1 + 1 := by
    intro p hp
    have := (clean_mem.mp hp).2
    simp only [List.mem_cons, List.not_mem_nil, or_false, not_or] at this
    exact this
  have N10 : News g' L' _ ((L' + 1 + 1 + 1 + 1 + 1, o5) :: (L' + 1 + 1 + 1 + 1 + 1 + 1, o6) :: clean [L' + 1 + 1 + 1 + 1 + 1, L' + 1 + 1 + 1 + 1 + 1 + 1] X9) := News.sub N9 fun p hp => by
    rcases List.mem_cons.mp hp with rfl | hp
    · exact e5
    rcases List.mem_cons.mp hp with rfl | hp
    · exact e6
    · exact (clean_mem.mp hp).1
  generalize clean [L' + 1 + 1 + 1 + 1 + 1, L' + 1 + 1 + 1 + 1 + 1 + 1] X9 = X10 at N10 g4 gtb gla goff
  refine law_10 (o4 := o4') (o5 := o5) (o6 := o6) (tb := tb) (la := la) (tk0 := tk3) (f := g) (rows := q.rows) (root := x) (reached := rps.map (·.1)) (bs := bs) (X := X10) Rk hndx hD (by simp; omega) (by omega) g4 ho4 gtb hbs gla hlv h5 h6 goff B' F9 X' T' N10 (by (try dsimp only); omega) (by rw [if_pos rfl]) ?q_10
  case q_10 =>
  intro h10 tk10 m10 X11 F10 N11 hk10
  refine ⟨?_⟩
  refine law_11 B' F10 X' T' N11 ?_
  intro tk11 hk11
  exact hret h10 tk11 m10 X11 F10 N11
end
section
set_option maxHeartbeats 4000000 in
theorem said_ok : OpenLaw.wellSaid Challenge.rw_wf0091_01 = true := by
  unfold OpenLaw.wellSaid OpenRow.wellSaid OpenRow.partSaid looksOpen
  repeat' with_reducible refine look_both ?_ ?_
  all_goals decide +kernel
theorem tabs_ok : Program.tablesWhole Challenge.rw_wf0091_01.row.prog = true := by decide +kernel
set_option maxHeartbeats 2000000 in
theorem tt : Challenge.rw_wf0091_01.Holds := by
  w_on; refine PySem.W.holds_law said_ok fun said => ?_
  refine holds_T (q := qv) (loose := looseL) (tk := 2644) (Xt := XT) (XP := XL qv []) (Yf := fun s => (Hook.obs HK s, s.toks)) (Ya := fun w => (Hook.val HK w, 2644)) (YP := Hook.says HK) (N := 31790) left_o ?hY (Hook.keeps HK) (fun s e => xl_of s (Bool.and_eq_true_iff.mp e).1) XL.keeps (by rfl) (by rfl) (by rfl) (fun s e => recFacts_of (Bool.and_eq_true_iff.mp e).2) (by rfl) (by first | assumption | decide +kernel) (by decide +kernel) (by decide +kernel) (by decide +kernel) (by decide +kernel) ⟨rfl, rfl, rfl, rfl, rfl, tabs_ok⟩ ?hw ?hc
  case hY => exact fun w s e => ⟨Hook.of HK w s (congrArg Prod.fst e), Nat.le_of_eq (congrArg Prod.snd e).symm⟩
  case hw => w_witness2
  case hc =>
    w_strict (k_fill; intro w s₀ s₁ mg mb htk0 G Y fa o pm cd doc dV kV ho hd hcd hD hmg hg args vals as hpre hlay hrd hwl hlo; have KX := kIn_of Y; refine Ground.open G ?_; intro T B D TE TW; clear hmg; wrow_args hpre hlay hrd hwl hlo; refine enter_call ?_; w_top on; try refine codeAny_mono ?_ (fun _ _ g => GoodW.toG g); have K0 := below_caller (Top.heap T); have he := Dflts.none hD rfl; subst he; have he := Dflts.noKw hD; subst he; refine top_cells (by decide) ho (fd_plain hd) (Top.nolimit T) hcd rfl (by kernel_rfl) (by decide) fun h₁ tk₁ cells htk₁ F N0 X0 => ?_; clear hd; k_drop)
    rename Top qv _ _ _ _ _ => TT
    rename IntsAre _ _ => hI
    rename Heap.IsList _ _ _ => hL
    rename Below callerA _ _ _ => K0
    rename CellsAre _ _ _ => hX
    rename News _ _ _ _ => hN
    rename Fr _ _ _ _ => hF
    rename _ ≤ _ => htk
    obtain ⟨o1, o2, o3, o4, o5, o6, hc, ⟨v1, h1⟩, ⟨v2, h2⟩, ⟨v3, h3⟩, ⟨v4, h4⟩, ⟨v5, h5⟩, ⟨v6, h6⟩⟩ := CellsAre.six hX
    subst hc
    refine law_body (tk0 := 2600) hI ?q_n (Nat.le_refl _) h1 h2 h3 h4 h5 h6 K0 hF KX (top_loose TT) hN hL ?q_m ?q_k ?q_E ?q_r
    case q_n => (have hl9 := hI.length); omega
    case q_m => with_unfolding_all rfl
    case q_k => (try dsimp only); omega
    case q_E => passes_own
    case q_r =>
      intro h' tk' m'' X F N
      k_steps
      all_goals w_report
end
end WB
theorem PySem.Challenge.cw_wf0091_01_holds : PySem.Challenge.rw_wf0091_01.Holds :=
  WB.tt
