import PyProof.Rows.All
import Wide.All
import OpenK.AllK
import Wide.FinOn
import Lean
import PySem.Challenge.RW_wy0036_01
set_option Elab.async false
set_option compiler.extract_closed false
set_option linter.all false
namespace Mine
open PySem PySem.W PySem.Calls PyProof.Rows
section
set_option maxRecDepth 100000
set_option maxHeartbeats 0 in
theorem well : PySem.Challenge.rw_wy0036_01.wellSaid = true := by
  unfold OpenLaw.wellSaid OpenRow.wellSaid OpenRow.partSaid looksOpen
  repeat' (with_reducible refine look_both ?_ ?_)
  all_goals (try rw [PySem.W.Fast.te8377067652309620493]); (try rw [PySem.W.Fast.te8326940854005059898]); decide +kernel
abbrev prg : Program := PySem.Challenge.pw_wy0036_01
noncomputable def stmtAt (i : Nat) : Stmt := (prg.main.body[i]?).getD (.Pass default)
set_option backward.match.sparseCases false in
noncomputable def stmtIn (i j : Nat) : Stmt := match stmtAt i with
  | .ClassDef _ _ _ b _ _ _ _ _ _ _ => (b[j]?).getD (.Pass default)
  | st => st
set_option backward.match.sparseCases false in
noncomputable def dParams : Stmt → Arguments
  | .FunctionDef _ a _ _ _ _ _ _ _ _ => a
  | _ => ⟨[], [], none, [], [], none, []⟩
set_option backward.match.sparseCases false in
noncomputable def dBody : Stmt → List Stmt
  | .FunctionDef _ _ b _ _ _ _ _ _ _ => b
  | _ => []
set_option backward.match.sparseCases false in
noncomputable def dScope : Stmt → Scope
  | .FunctionDef _ _ _ _ _ _ s _ _ _ => s
  | _ => default
noncomputable def rnN (a n : Nat) : List Nat := (List.range n).map (a + ·)
noncomputable def rnE (h t n : Nat) : List (Int × Value) := (List.range n).map fun i => (((h + i : Nat) : Int), .int ((h + i : Nat) : Int) (t + i))
noncomputable def topEnv : Env := { scope := prg.main.scope, locals := mainNs, globals := mainNs, cells := [], code := .ref 13, frame := some 14 }
noncomputable def topC : Code := .body (behindTheImports prg) topEnv
noncomputable def topB : List Frame := [topFrame ⟨0, 0, 0, 0⟩]
noncomputable def annV : Option Value := some (.ref 6)
noncomputable def sts (a n : Nat) : List Stmt := (prg.main.body.drop a).take n
noncomputable def o11a (P : Params) : Obj := { cls := (.type "tuple"), dict := none, data := .seq #[] 0, slots := #[] }
noncomputable def o12a (P : Params) : Obj := { cls := .none, dict := none, data := .fields #[], slots := #[] }
noncomputable def o13a (P : Params) : Obj := { cls := (.type "code"), dict := none, data := .fields #[(.str (Str.ofString "<module>") 182), (.str (Str.ofString "<module>") 183), (.str (Str.ofString "/claim/cut.py") 184), (.int 1 0), (.int 0 0), (.int 0 0), (.int 0 0), (.int 0 0), (.ref 11), (.bool false), (.int 181 0), (.ref 12), .none, .none, .none, .none, (.int 185 0), (.int 1 0), (.str (Str.ofString "/claim/cut.py") 186)], slots := #[] }
noncomputable def o14a (P : Params) : Obj := { cls := (.type "frame"), dict := none, data := .plain, slots := #[(some (.ref 13)), (some (.ref 3)), (some (.ref 3)), none, (some (.str (Str.ofString "__main__") 164)), none, (some (.ref 0))] }
noncomputable def Ha (P : Params) : Heap := ⟨Array.mk [boot_o_0 P, boot_o_1 P, boot_o_2 P, boot_o_3 P, boot_o_4 P, boot_o_5 P, boot_o_6 P, boot_o_7 P, boot_o_8 P, boot_o_9 P, boot_o_10 P, o11a P, o12a P, o13a P, o14a P], {}⟩
noncomputable def Tb (P : Params) : BT := (.node ((boot_o_0) P) (.node ((boot_o_1) P) (.node ((boot_o_3) P) (.node ((boot_o_7) P) .nil .nil) (.node ((o11a) P) .nil .nil)) (.node ((boot_o_5) P) (.node ((boot_o_9) P) .nil .nil) (.node ((o13a) P) .nil .nil))) (.node ((boot_o_2) P) (.node ((boot_o_4) P) (.node ((boot_o_8) P) .nil .nil) (.node ((o12a) P) .nil .nil)) (.node ((boot_o_6) P) (.node ((boot_o_10) P) .nil .nil) (.node ((o14a) P) .nil .nil))))
noncomputable def Sb (w : World) (os : OsState) : SharedT := ⟨Tb w.params, 15, {}, Array.mk [], {}, 187, os⟩
noncomputable def o3c (P : Params) : Obj := { cls := (.type "dict"), dict := none, data := .dict #[⟨PyData.keyHash P (Str.ofString "__name__"), (.str (Str.ofString "__name__") 165), (.str (Str.ofString "cpy313.stringprep") 263)⟩, ⟨PyData.keyHash P (Str.ofString "__doc__"), (.str (Str.ofString "__doc__") 166), .none⟩, ⟨PyData.keyHash P (Str.ofString "__package__"), (.str (Str.ofString "__package__") 167), .none⟩, ⟨PyData.keyHash P (Str.ofString "__loader__"), (.str (Str.ofString "__loader__") 168), (.builtin "__main__.__loader__#opaque")⟩, ⟨PyData.keyHash P (Str.ofString "__spec__"), (.str (Str.ofString "__spec__") 169), .none⟩, ⟨PyData.keyHash P (Str.ofString "__annotations__"), (.str (Str.ofString "__annotations__") 170), (.ref 6)⟩, ⟨PyData.keyHash P (Str.ofString "__builtins__"), (.str (Str.ofString "__builtins__") 171), (.ref 4)⟩, ⟨PyData.keyHash P (Str.ofString "__file__"), (.str (Str.ofString "__file__") 173), (.str (Str.ofString "/claim/cut.py") 172)⟩, ⟨PyData.keyHash P (Str.ofString "__cached__"), (.str (Str.ofString "__cached__") 174), .none⟩, ⟨PyData.keyHash P (Str.ofString "_wall"), (.str (Str.ofString "_wall") 193), (.ref 21)⟩, ⟨PyData.keyHash P (Str.ofString "insort_right"), (.str (Str.ofString "insort_right") 208), (.ref 30)⟩, ⟨PyData.keyHash P (Str.ofString "bisect_right"), (.str (Str.ofString "bisect_right") 222), (.ref 39)⟩, ⟨PyData.keyHash P (Str.ofString "insort_left"), (.str (Str.ofString "insort_left") 235), (.ref 48)⟩, ⟨PyData.keyHash P (Str.ofString "bisect_left"), (.str (Str.ofString "bisect_left") 249), (.ref 57)⟩, ⟨PyData.keyHash P (Str.ofString "restore"), (.str (Str.ofString "restore") 262), (.ref 64)⟩] 15, slots := #[] }
noncomputable def o12c (P : Params) : Obj := { cls := .none, dict := none, data := .fields #[(.int 1 0), (.int 0 0), (.ref 20), (.int 5 0), (.int 0 0), (.ref 29), (.int 11 0), (.int 0 0), (.ref 38), (.int 31 0), (.int 0 0), (.ref 47), (.int 37 0), (.int 0 0), (.ref 56), (.int 58 0), (.int 0 0), (.ref 63)], slots := #[] }
noncomputable def o15c (P : Params) : Obj := { cls := (.type "tuple"), dict := none, data := .seq #[] 0, slots := #[] }
noncomputable def o16c (P : Params) : Obj := { cls := .none, dict := none, data := .fields #[], slots := #[] }
noncomputable def o17c (P : Params) : Obj := { cls := (.type "tuple"), dict := none, data := .seq #[(.str (Str.ofString "k") 190)] 0, slots := #[] }
noncomputable def o18c (P : Params) : Obj := { cls := (.type "tuple"), dict := none, data := .seq #[] 0, slots := #[] }
noncomputable def o19c (P : Params) : Obj := { cls := .none, dict := none, data := .func { name := (Str.ofString "_wall"), qualname := (Str.ofString "_wall"), params := dParams (stmtAt 0), body := .stmts (dBody (stmtAt 0)), scope := dScope (stmtAt 0), globals := 0, closure := [], defaults := .none, kwdefaults := .none, doc := .none, pyModule := .none, annotations := none, code := .none, closureTuple := .none, builtins := 0 }, slots := #[] }
noncomputable def o20c (P : Params) : Obj := { cls := (.type "code"), dict := none, data := .fields #[(.str (Str.ofString "_wall") 187), (.str (Str.ofString "_wall") 188), (.str (Str.ofString "/claim/cut.py") 189), (.int 1 0), (.int 1 0), (.int 0 0), (.int 0 0), (.int 3 0), (.ref 15), (.bool true), (.int 181 0), (.ref 16), .none, (.ref 17), (.ref 18), (.ref 19), (.int 191 0), (.int 1 0), (.str (Str.ofString "/claim/cut.py") 192)], slots := #[] }
noncomputable def o21c (P : Params) : Obj := { cls := (.type "function"), dict := none, data := .func { name := (Str.ofString "_wall"), qualname := (Str.ofString "_wall"), params := dParams (stmtAt 0), body := .stmts (dBody (stmtAt 0)), scope := dScope (stmtAt 0), globals := 3, closure := [], defaults := .none, kwdefaults := .none, doc := .none, pyModule := (.str (Str.ofString "__main__") 164), annotations := none, code := (.ref 20), closureTuple := .none, builtins := 0 }, slots := #[] }
noncomputable def o22c (P : Params) : Obj := { cls := (.type "tuple"), dict := none, data := .seq #[(.int 0 196), .none] 0, slots := #[] }
noncomputable def o23c (P : Params) : Obj := { cls := (.type "dict"), dict := none, data := .dict #[⟨PyData.keyHash P (Str.ofString "key"), (.str (Str.ofString "key") 197), .none⟩] 1, slots := #[] }
noncomputable def o24c (P : Params) : Obj := { cls := (.type "tuple"), dict := none, data := .seq #[] 0, slots := #[] }
noncomputable def o25c (P : Params) : Obj := { cls := .none, dict := none, data := .fields #[], slots := #[] }
noncomputable def o26c (P : Params) : Obj := { cls := (.type "tuple"), dict := none, data := .seq #[(.str (Str.ofString "a") 201), (.str (Str.ofString "x") 202), (.str (Str.ofString "lo") 203), (.str (Str.ofString "hi") 204), (.str (Str.ofString "key") 205)] 0, slots := #[] }
noncomputable def o27c (P : Params) : Obj := { cls := (.type "tuple"), dict := none, data := .seq #[] 0, slots := #[] }
noncomputable def o28c (P : Params) : Obj := { cls := .none, dict := none, data := .func { name := (Str.ofString "insort_right"), qualname := (Str.ofString "insort_right"), params := dParams (stmtAt 2), body := .stmts (dBody (stmtAt 2)), scope := dScope (stmtAt 2), globals := 0, closure := [], defaults := .none, kwdefaults := .none, doc := .none, pyModule := .none, annotations := none, code := .none, closureTuple := .none, builtins := 0 }, slots := #[] }
noncomputable def o29c (P : Params) : Obj := { cls := (.type "code"), dict := none, data := .fields #[(.str (Str.ofString "insort_right") 198), (.str (Str.ofString "insort_right") 199), (.str (Str.ofString "/claim/cut.py") 200), (.int 5 0), (.int 4 0), (.int 0 0), (.int 1 0), (.int 3 0), (.ref 24), (.bool true), (.int 181 0), (.ref 25), .none, (.ref 26), (.ref 27), (.ref 28), (.int 206 0), (.int 5 0), (.str (Str.ofString "/claim/cut.py") 207)], slots := #[] }
noncomputable def o30c (P : Params) : Obj := { cls := (.type "function"), dict := none, data := .func { name := (Str.ofString "insort_right"), qualname := (Str.ofString "insort_right"), params := dParams (stmtAt 2), body := .stmts (dBody (stmtAt 2)), scope := dScope (stmtAt 2), globals := 3, closure := [], defaults := (.ref 22), kwdefaults := (.ref 23), doc := .none, pyModule := (.str (Str.ofString "cpy313.bisect") 194), annotations := none, code := (.ref 29), closureTuple := .none, builtins := 0 }, slots := #[] }
noncomputable def o31c (P : Params) : Obj := { cls := (.type "tuple"), dict := none, data := .seq #[(.int 0 209), .none] 0, slots := #[] }
noncomputable def o32c (P : Params) : Obj := { cls := (.type "dict"), dict := none, data := .dict #[⟨PyData.keyHash P (Str.ofString "key"), (.str (Str.ofString "key") 210), .none⟩] 1, slots := #[] }
noncomputable def o33c (P : Params) : Obj := { cls := (.type "tuple"), dict := none, data := .seq #[] 0, slots := #[] }
noncomputable def o34c (P : Params) : Obj := { cls := .none, dict := none, data := .fields #[], slots := #[] }
noncomputable def o35c (P : Params) : Obj := { cls := (.type "tuple"), dict := none, data := .seq #[(.str (Str.ofString "a") 214), (.str (Str.ofString "x") 215), (.str (Str.ofString "lo") 216), (.str (Str.ofString "hi") 217), (.str (Str.ofString "key") 218), (.str (Str.ofString "mid") 219)] 0, slots := #[] }
noncomputable def o36c (P : Params) : Obj := { cls := (.type "tuple"), dict := none, data := .seq #[] 0, slots := #[] }
noncomputable def o37c (P : Params) : Obj := { cls := .none, dict := none, data := .func { name := (Str.ofString "bisect_right"), qualname := (Str.ofString "bisect_right"), params := dParams (stmtAt 3), body := .stmts (dBody (stmtAt 3)), scope := dScope (stmtAt 3), globals := 0, closure := [], defaults := .none, kwdefaults := .none, doc := .none, pyModule := .none, annotations := none, code := .none, closureTuple := .none, builtins := 0 }, slots := #[] }
noncomputable def o38c (P : Params) : Obj := { cls := (.type "code"), dict := none, data := .fields #[(.str (Str.ofString "bisect_right") 211), (.str (Str.ofString "bisect_right") 212), (.str (Str.ofString "/claim/cut.py") 213), (.int 11 0), (.int 4 0), (.int 0 0), (.int 1 0), (.int 3 0), (.ref 33), (.bool true), (.int 181 0), (.ref 34), .none, (.ref 35), (.ref 36), (.ref 37), (.int 220 0), (.int 11 0), (.str (Str.ofString "/claim/cut.py") 221)], slots := #[] }
noncomputable def o39c (P : Params) : Obj := { cls := (.type "function"), dict := none, data := .func { name := (Str.ofString "bisect_right"), qualname := (Str.ofString "bisect_right"), params := dParams (stmtAt 3), body := .stmts (dBody (stmtAt 3)), scope := dScope (stmtAt 3), globals := 3, closure := [], defaults := (.ref 31), kwdefaults := (.ref 32), doc := .none, pyModule := (.str (Str.ofString "cpy313.bisect") 194), annotations := none, code := (.ref 38), closureTuple := .none, builtins := 0 }, slots := #[] }
noncomputable def o40c (P : Params) : Obj := { cls := (.type "tuple"), dict := none, data := .seq #[(.int 0 223), .none] 0, slots := #[] }
noncomputable def o41c (P : Params) : Obj := { cls := (.type "dict"), dict := none, data := .dict #[⟨PyData.keyHash P (Str.ofString "key"), (.str (Str.ofString "key") 224), .none⟩] 1, slots := #[] }
noncomputable def o42c (P : Params) : Obj := { cls := (.type "tuple"), dict := none, data := .seq #[] 0, slots := #[] }
noncomputable def o43c (P : Params) : Obj := { cls := .none, dict := none, data := .fields #[], slots := #[] }
noncomputable def o44c (P : Params) : Obj := { cls := (.type "tuple"), dict := none, data := .seq #[(.str (Str.ofString "a") 228), (.str (Str.ofString "x") 229), (.str (Str.ofString "lo") 230), (.str (Str.ofString "hi") 231), (.str (Str.ofString "key") 232)] 0, slots := #[] }
noncomputable def o45c (P : Params) : Obj := { cls := (.type "tuple"), dict := none, data := .seq #[] 0, slots := #[] }
noncomputable def o46c (P : Params) : Obj := { cls := .none, dict := none, data := .func { name := (Str.ofString "insort_left"), qualname := (Str.ofString "insort_left"), params := dParams (stmtAt 4), body := .stmts (dBody (stmtAt 4)), scope := dScope (stmtAt 4), globals := 0, closure := [], defaults := .none, kwdefaults := .none, doc := .none, pyModule := .none, annotations := none, code := .none, closureTuple := .none, builtins := 0 }, slots := #[] }
noncomputable def o47c (P : Params) : Obj := { cls := (.type "code"), dict := none, data := .fields #[(.str (Str.ofString "insort_left") 225), (.str (Str.ofString "insort_left") 226), (.str (Str.ofString "/claim/cut.py") 227), (.int 31 0), (.int 4 0), (.int 0 0), (.int 1 0), (.int 3 0), (.ref 42), (.bool true), (.int 181 0), (.ref 43), .none, (.ref 44), (.ref 45), (.ref 46), (.int 233 0), (.int 31 0), (.str (Str.ofString "/claim/cut.py") 234)], slots := #[] }
noncomputable def o48c (P : Params) : Obj := { cls := (.type "function"), dict := none, data := .func { name := (Str.ofString "insort_left"), qualname := (Str.ofString "insort_left"), params := dParams (stmtAt 4), body := .stmts (dBody (stmtAt 4)), scope := dScope (stmtAt 4), globals := 3, closure := [], defaults := (.ref 40), kwdefaults := (.ref 41), doc := .none, pyModule := (.str (Str.ofString "cpy313.bisect") 194), annotations := none, code := (.ref 47), closureTuple := .none, builtins := 0 }, slots := #[] }
noncomputable def o49c (P : Params) : Obj := { cls := (.type "tuple"), dict := none, data := .seq #[(.int 0 236), .none] 0, slots := #[] }
noncomputable def o50c (P : Params) : Obj := { cls := (.type "dict"), dict := none, data := .dict #[⟨PyData.keyHash P (Str.ofString "key"), (.str (Str.ofString "key") 237), .none⟩] 1, slots := #[] }
noncomputable def o51c (P : Params) : Obj := { cls := (.type "tuple"), dict := none, data := .seq #[] 0, slots := #[] }
noncomputable def o52c (P : Params) : Obj := { cls := .none, dict := none, data := .fields #[], slots := #[] }
noncomputable def o53c (P : Params) : Obj := { cls := (.type "tuple"), dict := none, data := .seq #[(.str (Str.ofString "a") 241), (.str (Str.ofString "x") 242), (.str (Str.ofString "lo") 243), (.str (Str.ofString "hi") 244), (.str (Str.ofString "key") 245), (.str (Str.ofString "mid") 246)] 0, slots := #[] }
noncomputable def o54c (P : Params) : Obj := { cls := (.type "tuple"), dict := none, data := .seq #[] 0, slots := #[] }
noncomputable def o55c (P : Params) : Obj := { cls := .none, dict := none, data := .func { name := (Str.ofString "bisect_left"), qualname := (Str.ofString "bisect_left"), params := dParams (stmtAt 5), body := .stmts (dBody (stmtAt 5)), scope := dScope (stmtAt 5), globals := 0, closure := [], defaults := .none, kwdefaults := .none, doc := .none, pyModule := .none, annotations := none, code := .none, closureTuple := .none, builtins := 0 }, slots := #[] }
noncomputable def o56c (P : Params) : Obj := { cls := (.type "code"), dict := none, data := .fields #[(.str (Str.ofString "bisect_left") 238), (.str (Str.ofString "bisect_left") 239), (.str (Str.ofString "/claim/cut.py") 240), (.int 37 0), (.int 4 0), (.int 0 0), (.int 1 0), (.int 3 0), (.ref 51), (.bool true), (.int 181 0), (.ref 52), .none, (.ref 53), (.ref 54), (.ref 55), (.int 247 0), (.int 37 0), (.str (Str.ofString "/claim/cut.py") 248)], slots := #[] }
noncomputable def o57c (P : Params) : Obj := { cls := (.type "function"), dict := none, data := .func { name := (Str.ofString "bisect_left"), qualname := (Str.ofString "bisect_left"), params := dParams (stmtAt 5), body := .stmts (dBody (stmtAt 5)), scope := dScope (stmtAt 5), globals := 3, closure := [], defaults := (.ref 49), kwdefaults := (.ref 50), doc := .none, pyModule := (.str (Str.ofString "cpy313.bisect") 194), annotations := none, code := (.ref 56), closureTuple := .none, builtins := 0 }, slots := #[] }
noncomputable def o58c (P : Params) : Obj := { cls := (.type "tuple"), dict := none, data := .seq #[] 0, slots := #[] }
noncomputable def o59c (P : Params) : Obj := { cls := .none, dict := none, data := .fields #[], slots := #[] }
noncomputable def o60c (P : Params) : Obj := { cls := (.type "tuple"), dict := none, data := .seq #[(.str (Str.ofString "delta") 255), (.str (Str.ofString "which") 256), (.str (Str.ofString "tag") 257), (.str (Str.ofString "prefixes") 258), (.str (Str.ofString "line") 259)] 0, slots := #[] }
noncomputable def o61c (P : Params) : Obj := { cls := (.type "tuple"), dict := none, data := .seq #[] 0, slots := #[] }
noncomputable def o62c (P : Params) : Obj := { cls := .none, dict := none, data := .func { name := (Str.ofString "restore"), qualname := (Str.ofString "restore"), params := dParams (stmtAt 7), body := .stmts (dBody (stmtAt 7)), scope := dScope (stmtAt 7), globals := 0, closure := [], defaults := .none, kwdefaults := .none, doc := .none, pyModule := .none, annotations := none, code := .none, closureTuple := .none, builtins := 0 }, slots := #[] }
noncomputable def o63c (P : Params) : Obj := { cls := (.type "code"), dict := none, data := .fields #[(.str (Str.ofString "restore") 252), (.str (Str.ofString "restore") 253), (.str (Str.ofString "/claim/cut.py") 254), (.int 58 0), (.int 2 0), (.int 0 0), (.int 0 0), (.int 35 0), (.ref 58), (.bool true), (.int 181 0), (.ref 59), .none, (.ref 60), (.ref 61), (.ref 62), (.int 260 0), (.int 58 0), (.str (Str.ofString "/claim/cut.py") 261)], slots := #[] }
noncomputable def o64c (P : Params) : Obj := { cls := (.type "function"), dict := none, data := .func { name := (Str.ofString "restore"), qualname := (Str.ofString "restore"), params := dParams (stmtAt 7), body := .stmts (dBody (stmtAt 7)), scope := dScope (stmtAt 7), globals := 3, closure := [], defaults := .none, kwdefaults := .none, doc := .none, pyModule := (.str (Str.ofString "cpy313.difflib") 250), annotations := none, code := (.ref 63), closureTuple := .none, builtins := 0 }, slots := #[] }
noncomputable def Tc (P : Params) : BT := (.node ((boot_o_0) P) (.node ((boot_o_1) P) (.node ((o3c) P) (.node ((boot_o_7) P) (.node ((o15c) P) (.node ((o31c) P) (.node ((o63c) P) .nil .nil) .nil) (.node ((o47c) P) .nil .nil)) (.node ((o23c) P) (.node ((o39c) P) .nil .nil) (.node ((o55c) P) .nil .nil))) (.node ((o11a) P) (.node ((o19c) P) (.node ((o35c) P) .nil .nil) (.node ((o51c) P) .nil .nil)) (.node ((o27c) P) (.node ((o43c) P) .nil .nil) (.node ((o59c) P) .nil .nil)))) (.node ((boot_o_5) P) (.node ((boot_o_9) P) (.node ((o17c) P) (.node ((o33c) P) .nil .nil) (.node ((o49c) P) .nil .nil)) (.node ((o25c) P) (.node ((o41c) P) .nil .nil) (.node ((o57c) P) .nil .nil))) (.node ((o13a) P) (.node ((o21c) P) (.node ((o37c) P) .nil .nil) (.node ((o53c) P) .nil .nil)) (.node ((o29c) P) (.node ((o45c) P) .nil .nil) (.node ((o61c) P) .nil .nil))))) (.node ((boot_o_2) P) (.node ((boot_o_4) P) (.node ((boot_o_8) P) (.node ((o16c) P) (.node ((o32c) P) (.node ((o64c) P) .nil .nil) .nil) (.node ((o48c) P) .nil .nil)) (.node ((o24c) P) (.node ((o40c) P) .nil .nil) (.node ((o56c) P) .nil .nil))) (.node ((o12c) P) (.node ((o20c) P) (.node ((o36c) P) .nil .nil) (.node ((o52c) P) .nil .nil)) (.node ((o28c) P) (.node ((o44c) P) .nil .nil) (.node ((o60c) P) .nil .nil)))) (.node ((boot_o_6) P) (.node ((boot_o_10) P) (.node ((o18c) P) (.node ((o34c) P) .nil .nil) (.node ((o50c) P) .nil .nil)) (.node ((o26c) P) (.node ((o42c) P) .nil .nil) (.node ((o58c) P) .nil .nil))) (.node ((o14a) P) (.node ((o22c) P) (.node ((o38c) P) .nil .nil) (.node ((o54c) P) .nil .nil)) (.node ((o30c) P) (.node ((o46c) P) .nil .nil) (.node ((o62c) P) .nil .nil))))))
noncomputable def Sc (w : World) (os : OsState) : SharedT := ⟨Tc w.params, 65, {}, Array.mk [], {}, 265, os⟩
noncomputable def o65d0 (P : Params) : Obj := { cls := (.type "list"), dict := none, data := .seq #[(.int 832 265), (.int 833 266), (.int 8206 267), (.int 8207 268)] 0, slots := #[] }
noncomputable def o66d0 (P : Params) : Obj := { cls := (.type "range"), dict := none, data := .fields #[(.int 8234 269), (.int 8239 270), (.int 1 271)], slots := #[] }
noncomputable def o67d0 (P : Params) : Obj := { cls := (.type "list"), dict := none, data := .seq #[(.int 8234 274), (.int 8235 275), (.int 8236 276), (.int 8237 277), (.int 8238 278)] 7, slots := #[] }
noncomputable def o68d0 (P : Params) : Obj := { cls := (.type "range_iterator"), dict := none, data := .fields #[(.int 8239 0), (.int 0 0), (.int 1 0)], slots := #[] }
noncomputable def o69d0 (P : Params) : Obj := { cls := (.type "tuple"), dict := none, data := .seq #[] 0, slots := #[] }
noncomputable def o70d0 (P : Params) : Obj := { cls := (.type "StopIteration"), dict := none, data := .fields #[(.ref 69), .none, .none, .none, (.bool false), .none], slots := #[] }
noncomputable def o71d0 (P : Params) : Obj := { cls := (.type "list"), dict := none, data := .seq #[(.int 832 265), (.int 833 266), (.int 8206 267), (.int 8207 268), (.int 8234 274), (.int 8235 275), (.int 8236 276), (.int 8237 277), (.int 8238 278)] 0, slots := #[] }
noncomputable def o72d0 (P : Params) : Obj := { cls := (.type "range"), dict := none, data := .fields #[(.int 8298 279), (.int 8304 280), (.int 1 281)], slots := #[] }
noncomputable def o73d0 (P : Params) : Obj := { cls := (.type "list"), dict := none, data := .seq #[(.int 8298 284), (.int 8299 285), (.int 8300 286), (.int 8301 287), (.int 8302 288), (.int 8303 289)] 8, slots := #[] }
noncomputable def o74d0 (P : Params) : Obj := { cls := (.type "range_iterator"), dict := none, data := .fields #[(.int 8304 0), (.int 0 0), (.int 1 0)], slots := #[] }
noncomputable def o75d0 (P : Params) : Obj := { cls := (.type "tuple"), dict := none, data := .seq #[] 0, slots := #[] }
noncomputable def o76d0 (P : Params) : Obj := { cls := (.type "StopIteration"), dict := none, data := .fields #[(.ref 75), .none, .none, .none, (.bool false), .none], slots := #[] }
noncomputable def o77d0 (P : Params) : Obj := { cls := (.type "list"), dict := none, data := .seq #[(.int 832 265), (.int 833 266), (.int 8206 267), (.int 8207 268), (.int 8234 274), (.int 8235 275), (.int 8236 276), (.int 8237 277), (.int 8238 278), (.int 8298 284), (.int 8299 285), (.int 8300 286), (.int 8301 287), (.int 8302 288), (.int 8303 289)] 0, slots := #[] }
noncomputable def q265 : Int × Value := (832, .int 832 265)
noncomputable def q266 : Int × Value := (833, .int 833 266)
noncomputable def q267 : Int × Value := (8206, .int 8206 267)
noncomputable def q268 : Int × Value := (8207, .int 8207 268)
noncomputable def q274 : Int × Value := (8234, .int 8234 274)
noncomputable def q275 : Int × Value := (8235, .int 8235 275)
noncomputable def q276 : Int × Value := (8236, .int 8236 276)
noncomputable def q277 : Int × Value := (8237, .int 8237 277)
noncomputable def q278 : Int × Value := (8238, .int 8238 278)
noncomputable def q284 : Int × Value := (8298, .int 8298 284)
noncomputable def q285 : Int × Value := (8299, .int 8299 285)
noncomputable def q286 : Int × Value := (8300, .int 8300 286)
noncomputable def q287 : Int × Value := (8301, .int 8301 287)
noncomputable def q288 : Int × Value := (8302, .int 8302 288)
noncomputable def q289 : Int × Value := (8303, .int 8303 289)
noncomputable def q313 : Int × Value := (917505, .int 917505 313)
noncomputable def q319 : Int × Value := (917536, .int 917536 319)
noncomputable def q320 : Int × Value := (917537, .int 917537 320)
noncomputable def q321 : Int × Value := (917538, .int 917538 321)
noncomputable def q322 : Int × Value := (917539, .int 917539 322)
noncomputable def q323 : Int × Value := (917540, .int 917540 323)
noncomputable def q324 : Int × Value := (917541, .int 917541 324)
noncomputable def q325 : Int × Value := (917542, .int 917542 325)
noncomputable def q326 : Int × Value := (917543, .int 917543 326)
noncomputable def q327 : Int × Value := (917544, .int 917544 327)
noncomputable def q328 : Int × Value := (917545, .int 917545 328)
noncomputable def q329 : Int × Value := (917546, .int 917546 329)
noncomputable def q330 : Int × Value := (917547, .int 917547 330)
noncomputable def q331 : Int × Value := (917548, .int 917548 331)
noncomputable def q332 : Int × Value := (917549, .int 917549 332)
noncomputable def q333 : Int × Value := (917550, .int 917550 333)
noncomputable def q334 : Int × Value := (917551, .int 917551 334)
noncomputable def q335 : Int × Value := (917552, .int 917552 335)
noncomputable def q336 : Int × Value := (917553, .int 917553 336)
noncomputable def q337 : Int × Value := (917554, .int 917554 337)
noncomputable def q338 : Int × Value := (917555, .int 917555 338)
noncomputable def q339 : Int × Value := (917556, .int 917556 339)
noncomputable def q340 : Int × Value := (917557, .int 917557 340)
noncomputable def q341 : Int × Value := (917558, .int 917558 341)
noncomputable def q342 : Int × Value := (917559, .int 917559 342)
noncomputable def q343 : Int × Value := (917560, .int 917560 343)
noncomputable def q344 : Int × Value := (917561, .int 917561 344)
noncomputable def q345 : Int × Value := (917562, .int 917562 345)
noncomputable def q346 : Int × Value := (917563, .int 917563 346)
noncomputable def q347 : Int × Value := (917564, .int 917564 347)
noncomputable def q348 : Int × Value := (917565, .int 917565 348)
noncomputable def q349 : Int × Value := (917566, .int 917566 349)
noncomputable def q350 : Int × Value := (917567, .int 917567 350)
noncomputable def q351 : Int × Value := (917568, .int 917568 351)
noncomputable def q352 : Int × Value := (917569, .int 917569 352)
noncomputable def q353 : Int × Value := (917570, .int 917570 353)
noncomputable def q354 : Int × Value := (917571, .int 917571 354)
noncomputable def q355 : Int × Value := (917572, .int 917572 355)
noncomputable def q356 : Int × Value := (917573, .int 917573 356)
noncomputable def q357 : Int × Value := (917574, .int 917574 357)
noncomputable def q358 : Int × Value := (917575, .int 917575 358)
noncomputable def q359 : Int × Value := (917576, .int 917576 359)
noncomputable def q360 : Int × Value := (917577, .int 917577 360)
noncomputable def q361 : Int × Value := (917578, .int 917578 361)
noncomputable def q362 : Int × Value := (917579, .int 917579 362)
noncomputable def q363 : Int × Value := (917580, .int 917580 363)
noncomputable def q364 : Int × Value := (917581, .int 917581 364)
noncomputable def q365 : Int × Value := (917582, .int 917582 365)
noncomputable def q366 : Int × Value := (917583, .int 917583 366)
noncomputable def q367 : Int × Value := (917584, .int 917584 367)
noncomputable def q368 : Int × Value := (917585, .int 917585 368)
noncomputable def q369 : Int × Value := (917586, .int 917586 369)
noncomputable def q370 : Int × Value := (917587, .int 917587 370)
noncomputable def q371 : Int × Value := (917588, .int 917588 371)
noncomputable def q372 : Int × Value := (917589, .int 917589 372)
noncomputable def q373 : Int × Value := (917590, .int 917590 373)
noncomputable def q374 : Int × Value := (917591, .int 917591 374)
noncomputable def q375 : Int × Value := (917592, .int 917592 375)
noncomputable def q376 : Int × Value := (917593, .int 917593 376)
noncomputable def q377 : Int × Value := (917594, .int 917594 377)
noncomputable def q378 : Int × Value := (917595, .int 917595 378)
noncomputable def q379 : Int × Value := (917596, .int 917596 379)
noncomputable def q380 : Int × Value := (917597, .int 917597 380)
noncomputable def q381 : Int × Value := (917598, .int 917598 381)
noncomputable def q382 : Int × Value := (917599, .int 917599 382)
noncomputable def q383 : Int × Value := (917600, .int 917600 383)
noncomputable def q384 : Int × Value := (917601, .int 917601 384)
noncomputable def q385 : Int × Value := (917602, .int 917602 385)
noncomputable def q386 : Int × Value := (917603, .int 917603 386)
noncomputable def q387 : Int × Value := (917604, .int 917604 387)
noncomputable def q388 : Int × Value := (917605, .int 917605 388)
noncomputable def q389 : Int × Value := (917606, .int 917606 389)
noncomputable def q390 : Int × Value := (917607, .int 917607 390)
noncomputable def q391 : Int × Value := (917608, .int 917608 391)
noncomputable def q392 : Int × Value := (917609, .int 917609 392)
noncomputable def q393 : Int × Value := (917610, .int 917610 393)
noncomputable def q394 : Int × Value := (917611, .int 917611 394)
noncomputable def q395 : Int × Value := (917612, .int 917612 395)
noncomputable def q396 : Int × Value := (917613, .int 917613 396)
noncomputable def q397 : Int × Value := (917614, .int 917614 397)
noncomputable def q398 : Int × Value := (917615, .int 917615 398)
noncomputable def q399 : Int × Value := (917616, .int 917616 399)
noncomputable def q400 : Int × Value := (917617, .int 917617 400)
noncomputable def q401 : Int × Value := (917618, .int 917618 401)
noncomputable def q402 : Int × Value := (917619, .int 917619 402)
noncomputable def q403 : Int × Value := (917620, .int 917620 403)
noncomputable def q404 : Int × Value := (917621, .int 917621 404)
noncomputable def q405 : Int × Value := (917622, .int 917622 405)
noncomputable def q406 : Int × Value := (917623, .int 917623 406)
noncomputable def q407 : Int × Value := (917624, .int 917624 407)
noncomputable def q408 : Int × Value := (917625, .int 917625 408)
noncomputable def q409 : Int × Value := (917626, .int 917626 409)
noncomputable def q410 : Int × Value := (917627, .int 917627 410)
noncomputable def q411 : Int × Value := (917628, .int 917628 411)
noncomputable def q412 : Int × Value := (917629, .int 917629 412)
noncomputable def q413 : Int × Value := (917630, .int 917630 413)
noncomputable def q414 : Int × Value := (917631, .int 917631 414)
noncomputable def lI (a : Addr) (i : Int) : Obj := { cls := (.type "list_iterator"), dict := none, data := .fields #[(.ref a), (.int i 0)], slots := #[] }
noncomputable def sO (b : Bool) (n v m : Nat) (p : Array Nat) (e : Array (Int × Value)) : Obj := { cls := (.type "set"), dict := none, data := .set e n { mask := m, place := p, dummies := #[], finger := 0, led := b, moves := v, plain := true }, slots := #[] }
noncomputable def o78d0 (b : Bool) (_ : Params) : Obj := sO b 0 0 7 #[] #[]
noncomputable def o79d0 (P : Params) : Obj := (lI 77 0)
noncomputable def Tdx (x y : Obj) (P : Params) : BT := (.node ((boot_o_0) P) (.node ((boot_o_1) P) (.node ((o3c) P) (.node ((boot_o_7) P) (.node ((o15c) P) (.node ((o31c) P) (.node ((o63c) P) .nil .nil) .nil) (.node ((o47c) P) (.node ((fun _ => y) P) .nil .nil) .nil)) (.node ((o23c) P) (.node ((o39c) P) (.node ((o71d0) P) .nil .nil) .nil) (.node ((o55c) P) .nil .nil))) (.node ((o11a) P) (.node ((o19c) P) (.node ((o35c) P) (.node ((o67d0) P) .nil .nil) .nil) (.node ((o51c) P) .nil .nil)) (.node ((o27c) P) (.node ((o43c) P) (.node ((o75d0) P) .nil .nil) .nil) (.node ((o59c) P) .nil .nil)))) (.node ((boot_o_5) P) (.node ((boot_o_9) P) (.node ((o17c) P) (.node ((o33c) P) (.node ((o65d0) P) .nil .nil) .nil) (.node ((o49c) P) .nil .nil)) (.node ((o25c) P) (.node ((o41c) P) (.node ((o73d0) P) .nil .nil) .nil) (.node ((o57c) P) .nil .nil))) (.node ((o13a) P) (.node ((o21c) P) (.node ((o37c) P) (.node ((o69d0) P) .nil .nil) .nil) (.node ((o53c) P) .nil .nil)) (.node ((o29c) P) (.node ((o45c) P) (.node ((o77d0) P) .nil .nil) .nil) (.node ((o61c) P) .nil .nil))))) (.node ((boot_o_2) P) (.node ((boot_o_4) P) (.node ((boot_o_8) P) (.node ((o16c) P) (.node ((o32c) P) (.node ((o64c) P) .nil .nil) .nil) (.node ((o48c) P) .nil .nil)) (.node ((o24c) P) (.node ((o40c) P) (.node ((o72d0) P) .nil .nil) .nil) (.node ((o56c) P) .nil .nil))) (.node ((o12c) P) (.node ((o20c) P) (.node ((o36c) P) (.node ((o68d0) P) .nil .nil) .nil) (.node ((o52c) P) .nil .nil)) (.node ((o28c) P) (.node ((o44c) P) (.node ((o76d0) P) .nil .nil) .nil) (.node ((o60c) P) .nil .nil)))) (.node ((boot_o_6) P) (.node ((boot_o_10) P) (.node ((o18c) P) (.node ((o34c) P) (.node ((o66d0) P) .nil .nil) .nil) (.node ((o50c) P) .nil .nil)) (.node ((o26c) P) (.node ((o42c) P) (.node ((o74d0) P) .nil .nil) .nil) (.node ((o58c) P) .nil .nil))) (.node ((o14a) P) (.node ((o22c) P) (.node ((o38c) P) (.node ((o70d0) P) .nil .nil) .nil) (.node ((o54c) P) .nil .nil)) (.node ((o30c) P) (.node ((o46c) P) (.node ((fun _ => x) P) .nil .nil) .nil) (.node ((o62c) P) .nil .nil))))))
noncomputable def Sd0 (b : Bool) (w : World) (os : OsState) : SharedT := ⟨Tdx (o78d0 b w.params) (lI 77 0) w.params, 80, {}, Array.mk [], {}, 290, os⟩
noncomputable def o78d1 (b : Bool) (_ : Params) : Obj := sO b 1 0 7 #[0] #[q265]
noncomputable def Sd1 (b : Bool) (w : World) (os : OsState) : SharedT := ⟨Tdx (o78d1 b w.params) (lI 77 1) w.params, 80, {}, Array.mk [], {}, 291, os⟩
noncomputable def o78d2 (b : Bool) (_ : Params) : Obj := sO b 2 0 7 #[0,1] #[q265,q266]
noncomputable def Sd2 (b : Bool) (w : World) (os : OsState) : SharedT := ⟨Tdx (o78d2 b w.params) (lI 77 2) w.params, 80, {}, Array.mk [], {}, 292, os⟩
noncomputable def o78d3 (b : Bool) (_ : Params) : Obj := sO b 3 0 7 #[0,1,6] #[q265,q266,q267]
noncomputable def Sd3 (b : Bool) (w : World) (os : OsState) : SharedT := ⟨Tdx (o78d3 b w.params) (lI 77 3) w.params, 80, {}, Array.mk [], {}, 293, os⟩
noncomputable def o78d4 (b : Bool) (_ : Params) : Obj := sO b 4 0 7 #[0,1,6,7] #[q265,q266,q267,q268]
noncomputable def Sd4 (b : Bool) (w : World) (os : OsState) : SharedT := ⟨Tdx (o78d4 b w.params) (lI 77 4) w.params, 80, {}, Array.mk [], {}, 294, os⟩
noncomputable def o78d5 (b : Bool) (_ : Params) : Obj := sO b 6 1 31 #[0,1,10,14,15] #[q265,q266,q274,q267,q268]
noncomputable def Sd5 (b : Bool) (w : World) (os : OsState) : SharedT := ⟨Tdx (o78d5 b w.params) (lI 77 5) w.params, 80, {}, Array.mk [], {}, 295, os⟩
noncomputable def o78d6 (b : Bool) (_ : Params) : Obj := sO b 7 1 31 #[0,1,10,11,14,15] #[q265,q266,q274,q275,q267,q268]
noncomputable def Sd6 (b : Bool) (w : World) (os : OsState) : SharedT := ⟨Tdx (o78d6 b w.params) (lI 77 6) w.params, 80, {}, Array.mk [], {}, 296, os⟩
noncomputable def o78d7 (b : Bool) (_ : Params) : Obj := sO b 8 1 31 #[0,1,10,11,12,14,15] #[q265,q266,q274,q275,q276,q267,q268]
noncomputable def Sd7 (b : Bool) (w : World) (os : OsState) : SharedT := ⟨Tdx (o78d7 b w.params) (lI 77 7) w.params, 80, {}, Array.mk [], {}, 297, os⟩
noncomputable def o78d8 (b : Bool) (_ : Params) : Obj := sO b 9 1 31 #[0,1,10,11,12,13,14,15] #[q265,q266,q274,q275,q276,q277,q267,q268]
noncomputable def Sd8 (b : Bool) (w : World) (os : OsState) : SharedT := ⟨Tdx (o78d8 b w.params) (lI 77 8) w.params, 80, {}, Array.mk [], {}, 298, os⟩
noncomputable def o78d9 (b : Bool) (_ : Params) : Obj := sO b 10 1 31 #[0,1,10,11,12,13,14,15,16] #[q265,q266,q274,q275,q276,q277,q267,q268,q278]
noncomputable def Sd9 (b : Bool) (w : World) (os : OsState) : SharedT := ⟨Tdx (o78d9 b w.params) (lI 77 9) w.params, 80, {}, Array.mk [], {}, 299, os⟩
noncomputable def o78d10 (b : Bool) (_ : Params) : Obj := sO b 11 1 31 #[0,1,10,11,12,13,14,15,16,17] #[q265,q266,q274,q275,q276,q277,q267,q268,q278,q284]
noncomputable def Sd10 (b : Bool) (w : World) (os : OsState) : SharedT := ⟨Tdx (o78d10 b w.params) (lI 77 10) w.params, 80, {}, Array.mk [], {}, 300, os⟩
noncomputable def o78d11 (b : Bool) (_ : Params) : Obj := sO b 12 1 31 #[0,1,10,11,12,13,14,15,16,17,18] #[q265,q266,q274,q275,q276,q277,q267,q268,q278,q284,q285]
noncomputable def Sd11 (b : Bool) (w : World) (os : OsState) : SharedT := ⟨Tdx (o78d11 b w.params) (lI 77 11) w.params, 80, {}, Array.mk [], {}, 301, os⟩
noncomputable def o78d12 (b : Bool) (_ : Params) : Obj := sO b 13 1 31 #[0,1,10,11,12,13,14,15,16,17,18,19] #[q265,q266,q274,q275,q276,q277,q267,q268,q278,q284,q285,q286]
noncomputable def Sd12 (b : Bool) (w : World) (os : OsState) : SharedT := ⟨Tdx (o78d12 b w.params) (lI 77 12) w.params, 80, {}, Array.mk [], {}, 302, os⟩
noncomputable def o78d13 (b : Bool) (_ : Params) : Obj := sO b 14 1 31 #[0,1,10,11,12,13,14,15,16,17,18,19,20] #[q265,q266,q274,q275,q276,q277,q267,q268,q278,q284,q285,q286,q287]
noncomputable def Sd13 (b : Bool) (w : World) (os : OsState) : SharedT := ⟨Tdx (o78d13 b w.params) (lI 77 13) w.params, 80, {}, Array.mk [], {}, 303, os⟩
noncomputable def o78d14 (b : Bool) (_ : Params) : Obj := sO b 15 1 31 #[0,1,10,11,12,13,14,15,16,17,18,19,20,21] #[q265,q266,q274,q275,q276,q277,q267,q268,q278,q284,q285,q286,q287,q288]
noncomputable def Sd14 (b : Bool) (w : World) (os : OsState) : SharedT := ⟨Tdx (o78d14 b w.params) (lI 77 14) w.params, 80, {}, Array.mk [], {}, 304, os⟩
noncomputable def o78d15 (b : Bool) (_ : Params) : Obj := sO b 16 1 31 #[0,1,10,11,12,13,14,15,16,17,18,19,20,21,22] #[q265,q266,q274,q275,q276,q277,q267,q268,q278,q284,q285,q286,q287,q288,q289]
noncomputable def Sd15 (b : Bool) (w : World) (os : OsState) : SharedT := ⟨Tdx (o78d15 b w.params) (lI 77 15) w.params, 80, {}, Array.mk [], {}, 305, os⟩
noncomputable def o3d (P : Params) : Obj := { cls := (.type "dict"), dict := none, data := .dict #[⟨PyData.keyHash P (Str.ofString "__name__"), (.str (Str.ofString "__name__") 165), (.str (Str.ofString "cpy313.stringprep") 263)⟩, ⟨PyData.keyHash P (Str.ofString "__doc__"), (.str (Str.ofString "__doc__") 166), .none⟩, ⟨PyData.keyHash P (Str.ofString "__package__"), (.str (Str.ofString "__package__") 167), .none⟩, ⟨PyData.keyHash P (Str.ofString "__loader__"), (.str (Str.ofString "__loader__") 168), (.builtin "__main__.__loader__#opaque")⟩, ⟨PyData.keyHash P (Str.ofString "__spec__"), (.str (Str.ofString "__spec__") 169), .none⟩, ⟨PyData.keyHash P (Str.ofString "__annotations__"), (.str (Str.ofString "__annotations__") 170), (.ref 6)⟩, ⟨PyData.keyHash P (Str.ofString "__builtins__"), (.str (Str.ofString "__builtins__") 171), (.ref 4)⟩, ⟨PyData.keyHash P (Str.ofString "__file__"), (.str (Str.ofString "__file__") 173), (.str (Str.ofString "/claim/cut.py") 172)⟩, ⟨PyData.keyHash P (Str.ofString "__cached__"), (.str (Str.ofString "__cached__") 174), .none⟩, ⟨PyData.keyHash P (Str.ofString "_wall"), (.str (Str.ofString "_wall") 193), (.ref 21)⟩, ⟨PyData.keyHash P (Str.ofString "insort_right"), (.str (Str.ofString "insort_right") 208), (.ref 30)⟩, ⟨PyData.keyHash P (Str.ofString "bisect_right"), (.str (Str.ofString "bisect_right") 222), (.ref 39)⟩, ⟨PyData.keyHash P (Str.ofString "insort_left"), (.str (Str.ofString "insort_left") 235), (.ref 48)⟩, ⟨PyData.keyHash P (Str.ofString "bisect_left"), (.str (Str.ofString "bisect_left") 249), (.ref 57)⟩, ⟨PyData.keyHash P (Str.ofString "restore"), (.str (Str.ofString "restore") 262), (.ref 64)⟩, ⟨PyData.keyHash P (Str.ofString "c8_set"), (.str (Str.ofString "c8_set") 305), (.ref 78)⟩] 16, slots := #[] }
noncomputable def o65d (P : Params) : Obj := { cls := (.type "list"), dict := none, data := .seq #[(.int 832 265), (.int 833 266), (.int 8206 267), (.int 8207 268)] 0, slots := #[] }
noncomputable def o66d (P : Params) : Obj := { cls := (.type "range"), dict := none, data := .fields #[(.int 8234 269), (.int 8239 270), (.int 1 271)], slots := #[] }
noncomputable def o67d (P : Params) : Obj := { cls := (.type "list"), dict := none, data := .seq #[(.int 8234 274), (.int 8235 275), (.int 8236 276), (.int 8237 277), (.int 8238 278)] 7, slots := #[] }
noncomputable def o68d (P : Params) : Obj := { cls := (.type "range_iterator"), dict := none, data := .fields #[(.int 8239 0), (.int 0 0), (.int 1 0)], slots := #[] }
noncomputable def o70d (P : Params) : Obj := { cls := (.type "StopIteration"), dict := none, data := .fields #[(.ref 69), .none, .none, .none, (.bool false), .none], slots := #[] }
noncomputable def o71d (P : Params) : Obj := { cls := (.type "list"), dict := none, data := .seq #[(.int 832 265), (.int 833 266), (.int 8206 267), (.int 8207 268), (.int 8234 274), (.int 8235 275), (.int 8236 276), (.int 8237 277), (.int 8238 278)] 0, slots := #[] }
noncomputable def o72d (P : Params) : Obj := { cls := (.type "range"), dict := none, data := .fields #[(.int 8298 279), (.int 8304 280), (.int 1 281)], slots := #[] }
noncomputable def o73d (P : Params) : Obj := { cls := (.type "list"), dict := none, data := .seq #[(.int 8298 284), (.int 8299 285), (.int 8300 286), (.int 8301 287), (.int 8302 288), (.int 8303 289)] 8, slots := #[] }
noncomputable def o74d (P : Params) : Obj := { cls := (.type "range_iterator"), dict := none, data := .fields #[(.int 8304 0), (.int 0 0), (.int 1 0)], slots := #[] }
noncomputable def o76d (P : Params) : Obj := { cls := (.type "StopIteration"), dict := none, data := .fields #[(.ref 75), .none, .none, .none, (.bool false), .none], slots := #[] }
noncomputable def o77d (P : Params) : Obj := { cls := (.type "list"), dict := none, data := .seq #[(.int 832 265), (.int 833 266), (.int 8206 267), (.int 8207 268), (.int 8234 274), (.int 8235 275), (.int 8236 276), (.int 8237 277), (.int 8238 278), (.int 8298 284), (.int 8299 285), (.int 8300 286), (.int 8301 287), (.int 8302 288), (.int 8303 289)] 0, slots := #[] }
noncomputable def o78d (b : Bool) (_ : Params) : Obj := sO b 16 1 31 #[0,1,10,11,12,13,14,15,16,17,18,19,20,21,22] #[q265,q266,q274,q275,q276,q277,q267,q268,q278,q284,q285,q286,q287,q288,q289]
noncomputable def o79d (P : Params) : Obj := { cls := (.type "list_iterator"), dict := none, data := .fields #[.none, (.int 15 0)], slots := #[] }
noncomputable def o80d (P : Params) : Obj := { cls := (.type "tuple"), dict := none, data := .seq #[] 0, slots := #[] }
noncomputable def o81d (P : Params) : Obj := { cls := (.type "StopIteration"), dict := none, data := .fields #[(.ref 80), .none, .none, .none, (.bool false), .none], slots := #[] }
noncomputable def Td (P : Params) : BT := (.node ((boot_o_0) P) (.node ((boot_o_1) P) (.node ((o3d) P) (.node ((boot_o_7) P) (.node ((o15c) P) (.node ((o31c) P) (.node ((o63c) P) .nil .nil) .nil) (.node ((o47c) P) (.node ((o79d) P) .nil .nil) .nil)) (.node ((o23c) P) (.node ((o39c) P) (.node ((o71d) P) .nil .nil) .nil) (.node ((o55c) P) .nil .nil))) (.node ((o11a) P) (.node ((o19c) P) (.node ((o35c) P) (.node ((o67d) P) .nil .nil) .nil) (.node ((o51c) P) .nil .nil)) (.node ((o27c) P) (.node ((o43c) P) (.node ((o75d0) P) .nil .nil) .nil) (.node ((o59c) P) .nil .nil)))) (.node ((boot_o_5) P) (.node ((boot_o_9) P) (.node ((o17c) P) (.node ((o33c) P) (.node ((o65d) P) .nil .nil) .nil) (.node ((o49c) P) (.node ((o81d) P) .nil .nil) .nil)) (.node ((o25c) P) (.node ((o41c) P) (.node ((o73d) P) .nil .nil) .nil) (.node ((o57c) P) .nil .nil))) (.node ((o13a) P) (.node ((o21c) P) (.node ((o37c) P) (.node ((o69d0) P) .nil .nil) .nil) (.node ((o53c) P) .nil .nil)) (.node ((o29c) P) (.node ((o45c) P) (.node ((o77d) P) .nil .nil) .nil) (.node ((o61c) P) .nil .nil))))) (.node ((boot_o_2) P) (.node ((boot_o_4) P) (.node ((boot_o_8) P) (.node ((o16c) P) (.node ((o32c) P) (.node ((o64c) P) .nil .nil) .nil) (.node ((o48c) P) (.node ((o80d) P) .nil .nil) .nil)) (.node ((o24c) P) (.node ((o40c) P) (.node ((o72d) P) .nil .nil) .nil) (.node ((o56c) P) .nil .nil))) (.node ((o12c) P) (.node ((o20c) P) (.node ((o36c) P) (.node ((o68d) P) .nil .nil) .nil) (.node ((o52c) P) .nil .nil)) (.node ((o28c) P) (.node ((o44c) P) (.node ((o76d) P) .nil .nil) .nil) (.node ((o60c) P) .nil .nil)))) (.node ((boot_o_6) P) (.node ((boot_o_10) P) (.node ((o18c) P) (.node ((o34c) P) (.node ((o66d) P) .nil .nil) .nil) (.node ((o50c) P) .nil .nil)) (.node ((o26c) P) (.node ((o42c) P) (.node ((o74d) P) .nil .nil) .nil) (.node ((o58c) P) .nil .nil))) (.node ((o14a) P) (.node ((o22c) P) (.node ((o38c) P) (.node ((o70d) P) .nil .nil) .nil) (.node ((o54c) P) .nil .nil)) (.node ((o30c) P) (.node ((o46c) P) (.node ((o78d (!P.followText "set-order")) P) .nil .nil) .nil) (.node ((o62c) P) .nil .nil))))))
noncomputable def Sd (w : World) (os : OsState) : SharedT := ⟨Td w.params, 82, {}, Array.mk [], {}, 306, os⟩
noncomputable def o3e (P : Params) : Obj := { cls := (.type "dict"), dict := none, data := .dict #[⟨PyData.keyHash P (Str.ofString "__name__"), (.str (Str.ofString "__name__") 165), (.str (Str.ofString "cpy313.stringprep") 263)⟩, ⟨PyData.keyHash P (Str.ofString "__doc__"), (.str (Str.ofString "__doc__") 166), .none⟩, ⟨PyData.keyHash P (Str.ofString "__package__"), (.str (Str.ofString "__package__") 167), .none⟩, ⟨PyData.keyHash P (Str.ofString "__loader__"), (.str (Str.ofString "__loader__") 168), (.builtin "__main__.__loader__#opaque")⟩, ⟨PyData.keyHash P (Str.ofString "__spec__"), (.str (Str.ofString "__spec__") 169), .none⟩, ⟨PyData.keyHash P (Str.ofString "__annotations__"), (.str (Str.ofString "__annotations__") 170), (.ref 6)⟩, ⟨PyData.keyHash P (Str.ofString "__builtins__"), (.str (Str.ofString "__builtins__") 171), (.ref 4)⟩, ⟨PyData.keyHash P (Str.ofString "__file__"), (.str (Str.ofString "__file__") 173), (.str (Str.ofString "/claim/cut.py") 172)⟩, ⟨PyData.keyHash P (Str.ofString "__cached__"), (.str (Str.ofString "__cached__") 174), .none⟩, ⟨PyData.keyHash P (Str.ofString "_wall"), (.str (Str.ofString "_wall") 193), (.ref 21)⟩, ⟨PyData.keyHash P (Str.ofString "insort_right"), (.str (Str.ofString "insort_right") 208), (.ref 30)⟩, ⟨PyData.keyHash P (Str.ofString "bisect_right"), (.str (Str.ofString "bisect_right") 222), (.ref 39)⟩, ⟨PyData.keyHash P (Str.ofString "insort_left"), (.str (Str.ofString "insort_left") 235), (.ref 48)⟩, ⟨PyData.keyHash P (Str.ofString "bisect_left"), (.str (Str.ofString "bisect_left") 249), (.ref 57)⟩, ⟨PyData.keyHash P (Str.ofString "restore"), (.str (Str.ofString "restore") 262), (.ref 64)⟩, ⟨PyData.keyHash P (Str.ofString "c8_set"), (.str (Str.ofString "c8_set") 305), (.ref 78)⟩, ⟨PyData.keyHash P (Str.ofString "in_table_c8"), (.str (Str.ofString "in_table_c8") 312), (.ref 88)⟩] 17, slots := #[] }
noncomputable def o12e (P : Params) : Obj := { cls := .none, dict := none, data := .fields #[(.int 1 0), (.int 0 0), (.ref 20), (.int 5 0), (.int 0 0), (.ref 29), (.int 11 0), (.int 0 0), (.ref 38), (.int 31 0), (.int 0 0), (.ref 47), (.int 37 0), (.int 0 0), (.ref 56), (.int 58 0), (.int 0 0), (.ref 63), (.int 69 0), (.int 0 0), (.ref 87)], slots := #[] }
noncomputable def o82e (P : Params) : Obj := { cls := (.type "tuple"), dict := none, data := .seq #[] 0, slots := #[] }
noncomputable def o83e (P : Params) : Obj := { cls := .none, dict := none, data := .fields #[], slots := #[] }
noncomputable def o84e (P : Params) : Obj := { cls := (.type "tuple"), dict := none, data := .seq #[(.str (Str.ofString "code") 309)] 0, slots := #[] }
noncomputable def o85e (P : Params) : Obj := { cls := (.type "tuple"), dict := none, data := .seq #[] 0, slots := #[] }
noncomputable def o86e (P : Params) : Obj := { cls := .none, dict := none, data := .func { name := (Str.ofString "in_table_c8"), qualname := (Str.ofString "in_table_c8"), params := dParams (stmtAt 10), body := .stmts (dBody (stmtAt 10)), scope := dScope (stmtAt 10), globals := 0, closure := [], defaults := .none, kwdefaults := .none, doc := .none, pyModule := .none, annotations := none, code := .none, closureTuple := .none, builtins := 0 }, slots := #[] }
noncomputable def o87e (P : Params) : Obj := { cls := (.type "code"), dict := none, data := .fields #[(.str (Str.ofString "in_table_c8") 306), (.str (Str.ofString "in_table_c8") 307), (.str (Str.ofString "/claim/cut.py") 308), (.int 69 0), (.int 1 0), (.int 0 0), (.int 0 0), (.int 3 0), (.ref 82), (.bool true), (.int 181 0), (.ref 83), .none, (.ref 84), (.ref 85), (.ref 86), (.int 310 0), (.int 69 0), (.str (Str.ofString "/claim/cut.py") 311)], slots := #[] }
noncomputable def o88e (P : Params) : Obj := { cls := (.type "function"), dict := none, data := .func { name := (Str.ofString "in_table_c8"), qualname := (Str.ofString "in_table_c8"), params := dParams (stmtAt 10), body := .stmts (dBody (stmtAt 10)), scope := dScope (stmtAt 10), globals := 3, closure := [], defaults := .none, kwdefaults := .none, doc := .none, pyModule := (.str (Str.ofString "cpy313.stringprep") 263), annotations := none, code := (.ref 87), closureTuple := .none, builtins := 0 }, slots := #[] }
noncomputable def Te (P : Params) : BT := (.node ((boot_o_0) P) (.node ((boot_o_1) P) (.node ((o3e) P) (.node ((boot_o_7) P) (.node ((o15c) P) (.node ((o31c) P) (.node ((o63c) P) .nil .nil) .nil) (.node ((o47c) P) (.node ((o79d) P) .nil .nil) .nil)) (.node ((o23c) P) (.node ((o39c) P) (.node ((o71d) P) .nil .nil) .nil) (.node ((o55c) P) (.node ((o87e) P) .nil .nil) .nil))) (.node ((o11a) P) (.node ((o19c) P) (.node ((o35c) P) (.node ((o67d) P) .nil .nil) .nil) (.node ((o51c) P) (.node ((o83e) P) .nil .nil) .nil)) (.node ((o27c) P) (.node ((o43c) P) (.node ((o75d0) P) .nil .nil) .nil) (.node ((o59c) P) .nil .nil)))) (.node ((boot_o_5) P) (.node ((boot_o_9) P) (.node ((o17c) P) (.node ((o33c) P) (.node ((o65d) P) .nil .nil) .nil) (.node ((o49c) P) (.node ((o81d) P) .nil .nil) .nil)) (.node ((o25c) P) (.node ((o41c) P) (.node ((o73d) P) .nil .nil) .nil) (.node ((o57c) P) .nil .nil))) (.node ((o13a) P) (.node ((o21c) P) (.node ((o37c) P) (.node ((o69d0) P) .nil .nil) .nil) (.node ((o53c) P) (.node ((o85e) P) .nil .nil) .nil)) (.node ((o29c) P) (.node ((o45c) P) (.node ((o77d) P) .nil .nil) .nil) (.node ((o61c) P) .nil .nil))))) (.node ((boot_o_2) P) (.node ((boot_o_4) P) (.node ((boot_o_8) P) (.node ((o16c) P) (.node ((o32c) P) (.node ((o64c) P) .nil .nil) .nil) (.node ((o48c) P) (.node ((o80d) P) .nil .nil) .nil)) (.node ((o24c) P) (.node ((o40c) P) (.node ((o72d) P) .nil .nil) .nil) (.node ((o56c) P) (.node ((o88e) P) .nil .nil) .nil))) (.node ((o12e) P) (.node ((o20c) P) (.node ((o36c) P) (.node ((o68d) P) .nil .nil) .nil) (.node ((o52c) P) (.node ((o84e) P) .nil .nil) .nil)) (.node ((o28c) P) (.node ((o44c) P) (.node ((o76d) P) .nil .nil) .nil) (.node ((o60c) P) .nil .nil)))) (.node ((boot_o_6) P) (.node ((boot_o_10) P) (.node ((o18c) P) (.node ((o34c) P) (.node ((o66d) P) .nil .nil) .nil) (.node ((o50c) P) (.node ((o82e) P) .nil .nil) .nil)) (.node ((o26c) P) (.node ((o42c) P) (.node ((o74d) P) .nil .nil) .nil) (.node ((o58c) P) .nil .nil))) (.node ((o14a) P) (.node ((o22c) P) (.node ((o38c) P) (.node ((o70d) P) .nil .nil) .nil) (.node ((o54c) P) (.node ((o86e) P) .nil .nil) .nil)) (.node ((o30c) P) (.node ((o46c) P) (.node ((o78d (!P.followText "set-order")) P) .nil .nil) .nil) (.node ((o62c) P) .nil .nil))))))
noncomputable def Se (w : World) (os : OsState) : SharedT := ⟨Te w.params, 89, {}, Array.mk [], {}, 313, os⟩
noncomputable def o89f0 (P : Params) : Obj := { cls := (.type "list"), dict := none, data := .seq #[(.int 917505 313)] 0, slots := #[] }
noncomputable def o90f0 (P : Params) : Obj := { cls := (.type "range"), dict := none, data := .fields #[(.int 917536 314), (.int 917632 315), (.int 1 316)], slots := #[] }
noncomputable def o91f0 (P : Params) : Obj := { cls := (.type "list"), dict := none, data := .seq #[(.int 917536 319), (.int 917537 320), (.int 917538 321), (.int 917539 322), (.int 917540 323), (.int 917541 324), (.int 917542 325), (.int 917543 326), (.int 917544 327), (.int 917545 328), (.int 917546 329), (.int 917547 330), (.int 917548 331), (.int 917549 332), (.int 917550 333), (.int 917551 334), (.int 917552 335), (.int 917553 336), (.int 917554 337), (.int 917555 338), (.int 917556 339), (.int 917557 340), (.int 917558 341), (.int 917559 342), (.int 917560 343), (.int 917561 344), (.int 917562 345), (.int 917563 346), (.int 917564 347), (.int 917565 348), (.int 917566 349), (.int 917567 350), (.int 917568 351), (.int 917569 352), (.int 917570 353), (.int 917571 354), (.int 917572 355), (.int 917573 356), (.int 917574 357), (.int 917575 358), (.int 917576 359), (.int 917577 360), (.int 917578 361), (.int 917579 362), (.int 917580 363), (.int 917581 364), (.int 917582 365), (.int 917583 366), (.int 917584 367), (.int 917585 368), (.int 917586 369), (.int 917587 370), (.int 917588 371), (.int 917589 372), (.int 917590 373), (.int 917591 374), (.int 917592 375), (.int 917593 376), (.int 917594 377), (.int 917595 378), (.int 917596 379), (.int 917597 380), (.int 917598 381), (.int 917599 382), (.int 917600 383), (.int 917601 384), (.int 917602 385), (.int 917603 386), (.int 917604 387), (.int 917605 388), (.int 917606 389), (.int 917607 390), (.int 917608 391), (.int 917609 392), (.int 917610 393), (.int 917611 394), (.int 917612 395), (.int 917613 396), (.int 917614 397), (.int 917615 398), (.int 917616 399), (.int 917617 400), (.int 917618 401), (.int 917619 402), (.int 917620 403), (.int 917621 404), (.int 917622 405), (.int 917623 406), (.int 917624 407), (.int 917625 408), (.int 917626 409), (.int 917627 410), (.int 917628 411), (.int 917629 412), (.int 917630 413), (.int 917631 414)] 98, slots := #[] }
noncomputable def o92f0 (P : Params) : Obj := { cls := (.type "range_iterator"), dict := none, data := .fields #[(.int 917632 0), (.int 0 0), (.int 1 0)], slots := #[] }
noncomputable def o93f0 (P : Params) : Obj := { cls := (.type "tuple"), dict := none, data := .seq #[] 0, slots := #[] }
noncomputable def o94f0 (P : Params) : Obj := { cls := (.type "StopIteration"), dict := none, data := .fields #[(.ref 93), .none, .none, .none, (.bool false), .none], slots := #[] }
noncomputable def o95f0 (P : Params) : Obj := { cls := (.type "list"), dict := none, data := .seq #[(.int 917505 313), (.int 917536 319), (.int 917537 320), (.int 917538 321), (.int 917539 322), (.int 917540 323), (.int 917541 324), (.int 917542 325), (.int 917543 326), (.int 917544 327), (.int 917545 328), (.int 917546 329), (.int 917547 330), (.int 917548 331), (.int 917549 332), (.int 917550 333), (.int 917551 334), (.int 917552 335), (.int 917553 336), (.int 917554 337), (.int 917555 338), (.int 917556 339), (.int 917557 340), (.int 917558 341), (.int 917559 342), (.int 917560 343), (.int 917561 344), (.int 917562 345), (.int 917563 346), (.int 917564 347), (.int 917565 348), (.int 917566 349), (.int 917567 350), (.int 917568 351), (.int 917569 352), (.int 917570 353), (.int 917571 354), (.int 917572 355), (.int 917573 356), (.int 917574 357), (.int 917575 358), (.int 917576 359), (.int 917577 360), (.int 917578 361), (.int 917579 362), (.int 917580 363), (.int 917581 364), (.int 917582 365), (.int 917583 366), (.int 917584 367), (.int 917585 368), (.int 917586 369), (.int 917587 370), (.int 917588 371), (.int 917589 372), (.int 917590 373), (.int 917591 374), (.int 917592 375), (.int 917593 376), (.int 917594 377), (.int 917595 378), (.int 917596 379), (.int 917597 380), (.int 917598 381), (.int 917599 382), (.int 917600 383), (.int 917601 384), (.int 917602 385), (.int 917603 386), (.int 917604 387), (.int 917605 388), (.int 917606 389), (.int 917607 390), (.int 917608 391), (.int 917609 392), (.int 917610 393), (.int 917611 394), (.int 917612 395), (.int 917613 396), (.int 917614 397), (.int 917615 398), (.int 917616 399), (.int 917617 400), (.int 917618 401), (.int 917619 402), (.int 917620 403), (.int 917621 404), (.int 917622 405), (.int 917623 406), (.int 917624 407), (.int 917625 408), (.int 917626 409), (.int 917627 410), (.int 917628 411), (.int 917629 412), (.int 917630 413), (.int 917631 414)] 0, slots := #[] }
noncomputable def o96f0 (b : Bool) (_ : Params) : Obj := sO b 0 0 7 #[] #[]
noncomputable def o97f0 (P : Params) : Obj := (lI 95 0)
noncomputable def Tfx (x y : Obj) (P : Params) : BT := (.node ((boot_o_0) P) (.node ((boot_o_1) P) (.node ((o3e) P) (.node ((boot_o_7) P) (.node ((o15c) P) (.node ((o31c) P) (.node ((o63c) P) .nil .nil) (.node ((o95f0) P) .nil .nil)) (.node ((o47c) P) (.node ((o79d) P) .nil .nil) .nil)) (.node ((o23c) P) (.node ((o39c) P) (.node ((o71d) P) .nil .nil) .nil) (.node ((o55c) P) (.node ((o87e) P) .nil .nil) .nil))) (.node ((o11a) P) (.node ((o19c) P) (.node ((o35c) P) (.node ((o67d) P) .nil .nil) .nil) (.node ((o51c) P) (.node ((o83e) P) .nil .nil) .nil)) (.node ((o27c) P) (.node ((o43c) P) (.node ((o75d0) P) .nil .nil) .nil) (.node ((o59c) P) (.node ((o91f0) P) .nil .nil) .nil)))) (.node ((boot_o_5) P) (.node ((boot_o_9) P) (.node ((o17c) P) (.node ((o33c) P) (.node ((o65d) P) .nil .nil) (.node ((fun _ => y) P) .nil .nil)) (.node ((o49c) P) (.node ((o81d) P) .nil .nil) .nil)) (.node ((o25c) P) (.node ((o41c) P) (.node ((o73d) P) .nil .nil) .nil) (.node ((o57c) P) (.node ((o89f0) P) .nil .nil) .nil))) (.node ((o13a) P) (.node ((o21c) P) (.node ((o37c) P) (.node ((o69d0) P) .nil .nil) .nil) (.node ((o53c) P) (.node ((o85e) P) .nil .nil) .nil)) (.node ((o29c) P) (.node ((o45c) P) (.node ((o77d) P) .nil .nil) .nil) (.node ((o61c) P) (.node ((o93f0) P) .nil .nil) .nil))))) (.node ((boot_o_2) P) (.node ((boot_o_4) P) (.node ((boot_o_8) P) (.node ((o16c) P) (.node ((o32c) P) (.node ((o64c) P) .nil .nil) (.node ((fun _ => x) P) .nil .nil)) (.node ((o48c) P) (.node ((o80d) P) .nil .nil) .nil)) (.node ((o24c) P) (.node ((o40c) P) (.node ((o72d) P) .nil .nil) .nil) (.node ((o56c) P) (.node ((o88e) P) .nil .nil) .nil))) (.node ((o12e) P) (.node ((o20c) P) (.node ((o36c) P) (.node ((o68d) P) .nil .nil) .nil) (.node ((o52c) P) (.node ((o84e) P) .nil .nil) .nil)) (.node ((o28c) P) (.node ((o44c) P) (.node ((o76d) P) .nil .nil) .nil) (.node ((o60c) P) (.node ((o92f0) P) .nil .nil) .nil)))) (.node ((boot_o_6) P) (.node ((boot_o_10) P) (.node ((o18c) P) (.node ((o34c) P) (.node ((o66d) P) .nil .nil) .nil) (.node ((o50c) P) (.node ((o82e) P) .nil .nil) .nil)) (.node ((o26c) P) (.node ((o42c) P) (.node ((o74d) P) .nil .nil) .nil) (.node ((o58c) P) (.node ((o90f0) P) .nil .nil) .nil))) (.node ((o14a) P) (.node ((o22c) P) (.node ((o38c) P) (.node ((o70d) P) .nil .nil) .nil) (.node ((o54c) P) (.node ((o86e) P) .nil .nil) .nil)) (.node ((o30c) P) (.node ((o46c) P) (.node ((o78d (!P.followText "set-order")) P) .nil .nil) .nil) (.node ((o62c) P) (.node ((o94f0) P) .nil .nil) .nil))))))
noncomputable def Sf0 (b : Bool) (w : World) (os : OsState) : SharedT := ⟨Tfx (o96f0 b w.params) (lI 95 0) w.params, 98, {}, Array.mk [], {}, 415, os⟩
noncomputable def o96f1 (b : Bool) (_ : Params) : Obj := sO b 1 0 7 #[1] #[q313]
noncomputable def Sf1 (b : Bool) (w : World) (os : OsState) : SharedT := ⟨Tfx (o96f1 b w.params) (lI 95 1) w.params, 98, {}, Array.mk [], {}, 416, os⟩
noncomputable def o96f2 (b : Bool) (_ : Params) : Obj := sO b 2 0 7 #[0,1] #[q319,q313]
noncomputable def Sf2 (b : Bool) (w : World) (os : OsState) : SharedT := ⟨Tfx (o96f2 b w.params) (lI 95 2) w.params, 98, {}, Array.mk [], {}, 417, os⟩
noncomputable def o96f3 (b : Bool) (_ : Params) : Obj := sO b 3 0 7 #[0,1,7] #[q319,q313,q320]
noncomputable def Sf3 (b : Bool) (w : World) (os : OsState) : SharedT := ⟨Tfx (o96f3 b w.params) (lI 95 3) w.params, 98, {}, Array.mk [], {}, 418, os⟩
noncomputable def o96f4 (b : Bool) (_ : Params) : Obj := sO b 4 0 7 #[0,1,2,7] #[q319,q313,q321,q320]
noncomputable def Sf4 (b : Bool) (w : World) (os : OsState) : SharedT := ⟨Tfx (o96f4 b w.params) (lI 95 4) w.params, 98, {}, Array.mk [], {}, 419, os⟩
noncomputable def o96f5 (b : Bool) (_ : Params) : Obj := sO b 6 1 31 #[0,1,2,3,4] #[q319,q313,q321,q322,q320]
noncomputable def Sf5 (b : Bool) (w : World) (os : OsState) : SharedT := ⟨Tfx (o96f5 b w.params) (lI 95 5) w.params, 98, {}, Array.mk [], {}, 420, os⟩
noncomputable def o96f6 (b : Bool) (_ : Params) : Obj := sO b 7 1 31 #[0,1,2,3,4,5] #[q319,q313,q321,q322,q320,q323]
noncomputable def Sf6 (b : Bool) (w : World) (os : OsState) : SharedT := ⟨Tfx (o96f6 b w.params) (lI 95 6) w.params, 98, {}, Array.mk [], {}, 421, os⟩
noncomputable def o96f7 (b : Bool) (_ : Params) : Obj := sO b 8 1 31 #[0,1,2,3,4,5,6] #[q319,q313,q321,q322,q320,q323,q324]
noncomputable def Sf7 (b : Bool) (w : World) (os : OsState) : SharedT := ⟨Tfx (o96f7 b w.params) (lI 95 7) w.params, 98, {}, Array.mk [], {}, 422, os⟩
noncomputable def o96f8 (b : Bool) (_ : Params) : Obj := sO b 9 1 31 #[0,1,2,3,4,5,6,7] #[q319,q313,q321,q322,q320,q323,q324,q325]
noncomputable def Sf8 (b : Bool) (w : World) (os : OsState) : SharedT := ⟨Tfx (o96f8 b w.params) (lI 95 8) w.params, 98, {}, Array.mk [], {}, 423, os⟩
noncomputable def o96f9 (b : Bool) (_ : Params) : Obj := sO b 10 1 31 #[0,1,2,3,4,5,6,7,8] #[q319,q313,q321,q322,q320,q323,q324,q325,q326]
noncomputable def Sf9 (b : Bool) (w : World) (os : OsState) : SharedT := ⟨Tfx (o96f9 b w.params) (lI 95 9) w.params, 98, {}, Array.mk [], {}, 424, os⟩
noncomputable def o96f10 (b : Bool) (_ : Params) : Obj := sO b 11 1 31 #[0,1,2,3,4,5,6,7,8,9] #[q319,q313,q321,q322,q320,q323,q324,q325,q326,q327]
noncomputable def Sf10 (b : Bool) (w : World) (os : OsState) : SharedT := ⟨Tfx (o96f10 b w.params) (lI 95 10) w.params, 98, {}, Array.mk [], {}, 425, os⟩
noncomputable def o96f11 (b : Bool) (_ : Params) : Obj := sO b 12 1 31 #[0,1,2,3,4,5,6,7,8,9,10] #[q319,q313,q321,q322,q320,q323,q324,q325,q326,q327,q328]
noncomputable def Sf11 (b : Bool) (w : World) (os : OsState) : SharedT := ⟨Tfx (o96f11 b w.params) (lI 95 11) w.params, 98, {}, Array.mk [], {}, 426, os⟩
noncomputable def o96f12 (b : Bool) (_ : Params) : Obj := sO b 13 1 31 #[0,1,2,3,4,5,6,7,8,9,10,11] #[q319,q313,q321,q322,q320,q323,q324,q325,q326,q327,q328,q329]
noncomputable def Sf12 (b : Bool) (w : World) (os : OsState) : SharedT := ⟨Tfx (o96f12 b w.params) (lI 95 12) w.params, 98, {}, Array.mk [], {}, 427, os⟩
noncomputable def o96f13 (b : Bool) (_ : Params) : Obj := sO b 14 1 31 #[0,1,2,3,4,5,6,7,8,9,10,11,12] #[q319,q313,q321,q322,q320,q323,q324,q325,q326,q327,q328,q329,q330]
noncomputable def Sf13 (b : Bool) (w : World) (os : OsState) : SharedT := ⟨Tfx (o96f13 b w.params) (lI 95 13) w.params, 98, {}, Array.mk [], {}, 428, os⟩
noncomputable def o96f14 (b : Bool) (_ : Params) : Obj := sO b 15 1 31 #[0,1,2,3,4,5,6,7,8,9,10,11,12,13] #[q319,q313,q321,q322,q320,q323,q324,q325,q326,q327,q328,q329,q330,q331]
noncomputable def Sf14 (b : Bool) (w : World) (os : OsState) : SharedT := ⟨Tfx (o96f14 b w.params) (lI 95 14) w.params, 98, {}, Array.mk [], {}, 429, os⟩
noncomputable def o96f15 (b : Bool) (_ : Params) : Obj := sO b 16 1 31 #[0,1,2,3,4,5,6,7,8,9,10,11,12,13,14] #[q319,q313,q321,q322,q320,q323,q324,q325,q326,q327,q328,q329,q330,q331,q332]
noncomputable def Sf15 (b : Bool) (w : World) (os : OsState) : SharedT := ⟨Tfx (o96f15 b w.params) (lI 95 15) w.params, 98, {}, Array.mk [], {}, 430, os⟩
noncomputable def o96f16 (b : Bool) (_ : Params) : Obj := sO b 17 1 31 #[0,1,2,3,4,5,6,7,8,9,10,11,12,13,14,15] #[q319,q313,q321,q322,q320,q323,q324,q325,q326,q327,q328,q329,q330,q331,q332,q333]
noncomputable def Sf16 (b : Bool) (w : World) (os : OsState) : SharedT := ⟨Tfx (o96f16 b w.params) (lI 95 16) w.params, 98, {}, Array.mk [], {}, 431, os⟩
noncomputable def o96f17 (b : Bool) (_ : Params) : Obj := sO b 18 1 31 #[0,1,2,3,4,5,6,7,8,9,10,11,12,13,14,15,16] #[q319,q313,q321,q322,q320,q323,q324,q325,q326,q327,q328,q329,q330,q331,q332,q333,q334]
noncomputable def Sf17 (b : Bool) (w : World) (os : OsState) : SharedT := ⟨Tfx (o96f17 b w.params) (lI 95 17) w.params, 98, {}, Array.mk [], {}, 432, os⟩
noncomputable def o96f18 (b : Bool) (_ : Params) : Obj := sO b 19 1 31 #[0,1,2,3,4,5,6,7,8,9,10,11,12,13,14,15,16,17] #[q319,q313,q321,q322,q320,q323,q324,q325,q326,q327,q328,q329,q330,q331,q332,q333,q334,q335]
noncomputable def Sf18 (b : Bool) (w : World) (os : OsState) : SharedT := ⟨Tfx (o96f18 b w.params) (lI 95 18) w.params, 98, {}, Array.mk [], {}, 433, os⟩
noncomputable def o96f19 (b : Bool) (_ : Params) : Obj := sO b 21 2 127 #[1,32,33,34,35,36,37,38,39,40,41,42,43,44,45,46,47,48,49] #[q313,q319,q320,q321,q322,q323,q324,q325,q326,q327,q328,q329,q330,q331,q332,q333,q334,q335,q336]
noncomputable def Sf19 (b : Bool) (w : World) (os : OsState) : SharedT := ⟨Tfx (o96f19 b w.params) (lI 95 19) w.params, 98, {}, Array.mk [], {}, 434, os⟩
noncomputable def o96f20 (b : Bool) (_ : Params) : Obj := sO b 22 2 127 #[1,32,33,34,35,36,37,38,39,40,41,42,43,44,45,46,47,48,49,50] #[q313,q319,q320,q321,q322,q323,q324,q325,q326,q327,q328,q329,q330,q331,q332,q333,q334,q335,q336,q337]
noncomputable def Sf20 (b : Bool) (w : World) (os : OsState) : SharedT := ⟨Tfx (o96f20 b w.params) (lI 95 20) w.params, 98, {}, Array.mk [], {}, 435, os⟩
noncomputable def o96f21 (b : Bool) (_ : Params) : Obj := sO b 23 2 127 #[1,32,33,34,35,36,37,38,39,40,41,42,43,44,45,46,47,48,49,50,51] #[q313,q319,q320,q321,q322,q323,q324,q325,q326,q327,q328,q329,q330,q331,q332,q333,q334,q335,q336,q337,q338]
noncomputable def Sf21 (b : Bool) (w : World) (os : OsState) : SharedT := ⟨Tfx (o96f21 b w.params) (lI 95 21) w.params, 98, {}, Array.mk [], {}, 436, os⟩
noncomputable def o96f22 (b : Bool) (_ : Params) : Obj := sO b 24 2 127 #[1,32,33,34,35,36,37,38,39,40,41,42,43,44,45,46,47,48,49,50,51,52] #[q313,q319,q320,q321,q322,q323,q324,q325,q326,q327,q328,q329,q330,q331,q332,q333,q334,q335,q336,q337,q338,q339]
noncomputable def Sf22 (b : Bool) (w : World) (os : OsState) : SharedT := ⟨Tfx (o96f22 b w.params) (lI 95 22) w.params, 98, {}, Array.mk [], {}, 437, os⟩
noncomputable def o96f23 (b : Bool) (_ : Params) : Obj := sO b 25 2 127 #[1,32,33,34,35,36,37,38,39,40,41,42,43,44,45,46,47,48,49,50,51,52,53] #[q313,q319,q320,q321,q322,q323,q324,q325,q326,q327,q328,q329,q330,q331,q332,q333,q334,q335,q336,q337,q338,q339,q340]
noncomputable def Sf23 (b : Bool) (w : World) (os : OsState) : SharedT := ⟨Tfx (o96f23 b w.params) (lI 95 23) w.params, 98, {}, Array.mk [], {}, 438, os⟩
noncomputable def o96f24 (b : Bool) (_ : Params) : Obj := sO b 26 2 127 #[1,32,33,34,35,36,37,38,39,40,41,42,43,44,45,46,47,48,49,50,51,52,53,54] #[q313,q319,q320,q321,q322,q323,q324,q325,q326,q327,q328,q329,q330,q331,q332,q333,q334,q335,q336,q337,q338,q339,q340,q341]
noncomputable def Sf24 (b : Bool) (w : World) (os : OsState) : SharedT := ⟨Tfx (o96f24 b w.params) (lI 95 24) w.params, 98, {}, Array.mk [], {}, 439, os⟩
noncomputable def o96f25 (b : Bool) (_ : Params) : Obj := sO b 27 2 127 #[1,32,33,34,35,36,37,38,39,40,41,42,43,44,45,46,47,48,49,50,51,52,53,54,55] #[q313,q319,q320,q321,q322,q323,q324,q325,q326,q327,q328,q329,q330,q331,q332,q333,q334,q335,q336,q337,q338,q339,q340,q341,q342]
noncomputable def Sf25 (b : Bool) (w : World) (os : OsState) : SharedT := ⟨Tfx (o96f25 b w.params) (lI 95 25) w.params, 98, {}, Array.mk [], {}, 440, os⟩
noncomputable def o96f26 (b : Bool) (_ : Params) : Obj := sO b 28 2 127 #[1,32,33,34,35,36,37,38,39,40,41,42,43,44,45,46,47,48,49,50,51,52,53,54,55,56] #[q313,q319,q320,q321,q322,q323,q324,q325,q326,q327,q328,q329,q330,q331,q332,q333,q334,q335,q336,q337,q338,q339,q340,q341,q342,q343]
noncomputable def Sf26 (b : Bool) (w : World) (os : OsState) : SharedT := ⟨Tfx (o96f26 b w.params) (lI 95 26) w.params, 98, {}, Array.mk [], {}, 441, os⟩
noncomputable def o96f27 (b : Bool) (_ : Params) : Obj := sO b 29 2 127 #[1,32,33,34,35,36,37,38,39,40,41,42,43,44,45,46,47,48,49,50,51,52,53,54,55,56,57] #[q313,q319,q320,q321,q322,q323,q324,q325,q326,q327,q328,q329,q330,q331,q332,q333,q334,q335,q336,q337,q338,q339,q340,q341,q342,q343,q344]
noncomputable def Sf27 (b : Bool) (w : World) (os : OsState) : SharedT := ⟨Tfx (o96f27 b w.params) (lI 95 27) w.params, 98, {}, Array.mk [], {}, 442, os⟩
noncomputable def o96f28 (b : Bool) (_ : Params) : Obj := sO b 30 2 127 #[1,32,33,34,35,36,37,38,39,40,41,42,43,44,45,46,47,48,49,50,51,52,53,54,55,56,57,58] #[q313,q319,q320,q321,q322,q323,q324,q325,q326,q327,q328,q329,q330,q331,q332,q333,q334,q335,q336,q337,q338,q339,q340,q341,q342,q343,q344,q345]
noncomputable def Sf28 (b : Bool) (w : World) (os : OsState) : SharedT := ⟨Tfx (o96f28 b w.params) (lI 95 28) w.params, 98, {}, Array.mk [], {}, 443, os⟩
noncomputable def o96f29 (b : Bool) (_ : Params) : Obj := sO b 31 2 127 #[1,32,33,34,35,36,37,38,39,40,41,42,43,44,45,46,47,48,49,50,51,52,53,54,55,56,57,58,59] #[q313,q319,q320,q321,q322,q323,q324,q325,q326,q327,q328,q329,q330,q331,q332,q333,q334,q335,q336,q337,q338,q339,q340,q341,q342,q343,q344,q345,q346]
noncomputable def Sf29 (b : Bool) (w : World) (os : OsState) : SharedT := ⟨Tfx (o96f29 b w.params) (lI 95 29) w.params, 98, {}, Array.mk [], {}, 444, os⟩
noncomputable def o96f30 (b : Bool) (_ : Params) : Obj := sO b 32 2 127 #[1,32,33,34,35,36,37,38,39,40,41,42,43,44,45,46,47,48,49,50,51,52,53,54,55,56,57,58,59,60] #[q313,q319,q320,q321,q322,q323,q324,q325,q326,q327,q328,q329,q330,q331,q332,q333,q334,q335,q336,q337,q338,q339,q340,q341,q342,q343,q344,q345,q346,q347]
noncomputable def Sf30 (b : Bool) (w : World) (os : OsState) : SharedT := ⟨Tfx (o96f30 b w.params) (lI 95 30) w.params, 98, {}, Array.mk [], {}, 445, os⟩
noncomputable def o96f31 (b : Bool) (_ : Params) : Obj := sO b 33 2 127 #[1,32,33,34,35,36,37,38,39,40,41,42,43,44,45,46,47,48,49,50,51,52,53,54,55,56,57,58,59,60,61] #[q313,q319,q320,q321,q322,q323,q324,q325,q326,q327,q328,q329,q330,q331,q332,q333,q334,q335,q336,q337,q338,q339,q340,q341,q342,q343,q344,q345,q346,q347,q348]
noncomputable def Sf31 (b : Bool) (w : World) (os : OsState) : SharedT := ⟨Tfx (o96f31 b w.params) (lI 95 31) w.params, 98, {}, Array.mk [], {}, 446, os⟩
noncomputable def o96f32 (b : Bool) (_ : Params) : Obj := sO b 34 2 127 #[1,32,33,34,35,36,37,38,39,40,41,42,43,44,45,46,47,48,49,50,51,52,53,54,55,56,57,58,59,60,61,62] #[q313,q319,q320,q321,q322,q323,q324,q325,q326,q327,q328,q329,q330,q331,q332,q333,q334,q335,q336,q337,q338,q339,q340,q341,q342,q343,q344,q345,q346,q347,q348,q349]
noncomputable def Sf32 (b : Bool) (w : World) (os : OsState) : SharedT := ⟨Tfx (o96f32 b w.params) (lI 95 32) w.params, 98, {}, Array.mk [], {}, 447, os⟩
noncomputable def o96f33 (b : Bool) (_ : Params) : Obj := sO b 35 2 127 #[1,32,33,34,35,36,37,38,39,40,41,42,43,44,45,46,47,48,49,50,51,52,53,54,55,56,57,58,59,60,61,62,63] #[q313,q319,q320,q321,q322,q323,q324,q325,q326,q327,q328,q329,q330,q331,q332,q333,q334,q335,q336,q337,q338,q339,q340,q341,q342,q343,q344,q345,q346,q347,q348,q349,q350]
noncomputable def Sf33 (b : Bool) (w : World) (os : OsState) : SharedT := ⟨Tfx (o96f33 b w.params) (lI 95 33) w.params, 98, {}, Array.mk [], {}, 448, os⟩
noncomputable def o96f34 (b : Bool) (_ : Params) : Obj := sO b 36 2 127 #[1,32,33,34,35,36,37,38,39,40,41,42,43,44,45,46,47,48,49,50,51,52,53,54,55,56,57,58,59,60,61,62,63,64] #[q313,q319,q320,q321,q322,q323,q324,q325,q326,q327,q328,q329,q330,q331,q332,q333,q334,q335,q336,q337,q338,q339,q340,q341,q342,q343,q344,q345,q346,q347,q348,q349,q350,q351]
noncomputable def Sf34 (b : Bool) (w : World) (os : OsState) : SharedT := ⟨Tfx (o96f34 b w.params) (lI 95 34) w.params, 98, {}, Array.mk [], {}, 449, os⟩
noncomputable def o96f35 (b : Bool) (_ : Params) : Obj := sO b 37 2 127 #[1,32,33,34,35,36,37,38,39,40,41,42,43,44,45,46,47,48,49,50,51,52,53,54,55,56,57,58,59,60,61,62,63,64,65] #[q313,q319,q320,q321,q322,q323,q324,q325,q326,q327,q328,q329,q330,q331,q332,q333,q334,q335,q336,q337,q338,q339,q340,q341,q342,q343,q344,q345,q346,q347,q348,q349,q350,q351,q352]
noncomputable def Sf35 (b : Bool) (w : World) (os : OsState) : SharedT := ⟨Tfx (o96f35 b w.params) (lI 95 35) w.params, 98, {}, Array.mk [], {}, 450, os⟩
noncomputable def o96f36 (b : Bool) (_ : Params) : Obj := sO b 38 2 127 #[1,32,33,34,35,36,37,38,39,40,41,42,43,44,45,46,47,48,49,50,51,52,53,54,55,56,57,58,59,60,61,62,63,64,65,66] #[q313,q319,q320,q321,q322,q323,q324,q325,q326,q327,q328,q329,q330,q331,q332,q333,q334,q335,q336,q337,q338,q339,q340,q341,q342,q343,q344,q345,q346,q347,q348,q349,q350,q351,q352,q353]
noncomputable def Sf36 (b : Bool) (w : World) (os : OsState) : SharedT := ⟨Tfx (o96f36 b w.params) (lI 95 36) w.params, 98, {}, Array.mk [], {}, 451, os⟩
noncomputable def o96f37 (b : Bool) (_ : Params) : Obj := sO b 39 2 127 #[1,32,33,34,35,36,37,38,39,40,41,42,43,44,45,46,47,48,49,50,51,52,53,54,55,56,57,58,59,60,61,62,63,64,65,66,67] #[q313,q319,q320,q321,q322,q323,q324,q325,q326,q327,q328,q329,q330,q331,q332,q333,q334,q335,q336,q337,q338,q339,q340,q341,q342,q343,q344,q345,q346,q347,q348,q349,q350,q351,q352,q353,q354]
noncomputable def Sf37 (b : Bool) (w : World) (os : OsState) : SharedT := ⟨Tfx (o96f37 b w.params) (lI 95 37) w.params, 98, {}, Array.mk [], {}, 452, os⟩
noncomputable def o96f38 (b : Bool) (_ : Params) : Obj := sO b 40 2 127 #[1,32,33,34,35,36,37,38,39,40,41,42,43,44,45,46,47,48,49,50,51,52,53,54,55,56,57,58,59,60,61,62,63,64,65,66,67,68] #[q313,q319,q320,q321,q322,q323,q324,q325,q326,q327,q328,q329,q330,q331,q332,q333,q334,q335,q336,q337,q338,q339,q340,q341,q342,q343,q344,q345,q346,q347,q348,q349,q350,q351,q352,q353,q354,q355]
noncomputable def Sf38 (b : Bool) (w : World) (os : OsState) : SharedT := ⟨Tfx (o96f38 b w.params) (lI 95 38) w.params, 98, {}, Array.mk [], {}, 453, os⟩
noncomputable def o96f39 (b : Bool) (_ : Params) : Obj := sO b 41 2 127 #[1,32,33,34,35,36,37,38,39,40,41,42,43,44,45,46,47,48,49,50,51,52,53,54,55,56,57,58,59,60,61,62,63,64,65,66,67,68,69] #[q313,q319,q320,q321,q322,q323,q324,q325,q326,q327,q328,q329,q330,q331,q332,q333,q334,q335,q336,q337,q338,q339,q340,q341,q342,q343,q344,q345,q346,q347,q348,q349,q350,q351,q352,q353,q354,q355,q356]
noncomputable def Sf39 (b : Bool) (w : World) (os : OsState) : SharedT := ⟨Tfx (o96f39 b w.params) (lI 95 39) w.params, 98, {}, Array.mk [], {}, 454, os⟩
noncomputable def o96f40 (b : Bool) (_ : Params) : Obj := sO b 42 2 127 #[1,32,33,34,35,36,37,38,39,40,41,42,43,44,45,46,47,48,49,50,51,52,53,54,55,56,57,58,59,60,61,62,63,64,65,66,67,68,69,70] #[q313,q319,q320,q321,q322,q323,q324,q325,q326,q327,q328,q329,q330,q331,q332,q333,q334,q335,q336,q337,q338,q339,q340,q341,q342,q343,q344,q345,q346,q347,q348,q349,q350,q351,q352,q353,q354,q355,q356,q357]
noncomputable def Sf40 (b : Bool) (w : World) (os : OsState) : SharedT := ⟨Tfx (o96f40 b w.params) (lI 95 40) w.params, 98, {}, Array.mk [], {}, 455, os⟩
noncomputable def o96f41 (b : Bool) (_ : Params) : Obj := sO b 43 2 127 #[1,32,33,34,35,36,37,38,39,40,41,42,43,44,45,46,47,48,49,50,51,52,53,54,55,56,57,58,59,60,61,62,63,64,65,66,67,68,69,70,71] #[q313,q319,q320,q321,q322,q323,q324,q325,q326,q327,q328,q329,q330,q331,q332,q333,q334,q335,q336,q337,q338,q339,q340,q341,q342,q343,q344,q345,q346,q347,q348,q349,q350,q351,q352,q353,q354,q355,q356,q357,q358]
noncomputable def Sf41 (b : Bool) (w : World) (os : OsState) : SharedT := ⟨Tfx (o96f41 b w.params) (lI 95 41) w.params, 98, {}, Array.mk [], {}, 456, os⟩
noncomputable def o96f42 (b : Bool) (_ : Params) : Obj := sO b 44 2 127 #[1,32,33,34,35,36,37,38,39,40,41,42,43,44,45,46,47,48,49,50,51,52,53,54,55,56,57,58,59,60,61,62,63,64,65,66,67,68,69,70,71,72] #[q313,q319,q320,q321,q322,q323,q324,q325,q326,q327,q328,q329,q330,q331,q332,q333,q334,q335,q336,q337,q338,q339,q340,q341,q342,q343,q344,q345,q346,q347,q348,q349,q350,q351,q352,q353,q354,q355,q356,q357,q358,q359]
noncomputable def Sf42 (b : Bool) (w : World) (os : OsState) : SharedT := ⟨Tfx (o96f42 b w.params) (lI 95 42) w.params, 98, {}, Array.mk [], {}, 457, os⟩
noncomputable def o96f43 (b : Bool) (_ : Params) : Obj := sO b 45 2 127 #[1,32,33,34,35,36,37,38,39,40,41,42,43,44,45,46,47,48,49,50,51,52,53,54,55,56,57,58,59,60,61,62,63,64,65,66,67,68,69,70,71,72,73] #[q313,q319,q320,q321,q322,q323,q324,q325,q326,q327,q328,q329,q330,q331,q332,q333,q334,q335,q336,q337,q338,q339,q340,q341,q342,q343,q344,q345,q346,q347,q348,q349,q350,q351,q352,q353,q354,q355,q356,q357,q358,q359,q360]
noncomputable def Sf43 (b : Bool) (w : World) (os : OsState) : SharedT := ⟨Tfx (o96f43 b w.params) (lI 95 43) w.params, 98, {}, Array.mk [], {}, 458, os⟩
noncomputable def o96f44 (b : Bool) (_ : Params) : Obj := sO b 46 2 127 #[1,32,33,34,35,36,37,38,39,40,41,42,43,44,45,46,47,48,49,50,51,52,53,54,55,56,57,58,59,60,61,62,63,64,65,66,67,68,69,70,71,72,73,74] #[q313,q319,q320,q321,q322,q323,q324,q325,q326,q327,q328,q329,q330,q331,q332,q333,q334,q335,q336,q337,q338,q339,q340,q341,q342,q343,q344,q345,q346,q347,q348,q349,q350,q351,q352,q353,q354,q355,q356,q357,q358,q359,q360,q361]
noncomputable def Sf44 (b : Bool) (w : World) (os : OsState) : SharedT := ⟨Tfx (o96f44 b w.params) (lI 95 44) w.params, 98, {}, Array.mk [], {}, 459, os⟩
noncomputable def o96f45 (b : Bool) (_ : Params) : Obj := sO b 47 2 127 #[1,32,33,34,35,36,37,38,39,40,41,42,43,44,45,46,47,48,49,50,51,52,53,54,55,56,57,58,59,60,61,62,63,64,65,66,67,68,69,70,71,72,73,74,75] #[q313,q319,q320,q321,q322,q323,q324,q325,q326,q327,q328,q329,q330,q331,q332,q333,q334,q335,q336,q337,q338,q339,q340,q341,q342,q343,q344,q345,q346,q347,q348,q349,q350,q351,q352,q353,q354,q355,q356,q357,q358,q359,q360,q361,q362]
noncomputable def Sf45 (b : Bool) (w : World) (os : OsState) : SharedT := ⟨Tfx (o96f45 b w.params) (lI 95 45) w.params, 98, {}, Array.mk [], {}, 460, os⟩
noncomputable def o96f46 (b : Bool) (_ : Params) : Obj := sO b 48 2 127 #[1,32,33,34,35,36,37,38,39,40,41,42,43,44,45,46,47,48,49,50,51,52,53,54,55,56,57,58,59,60,61,62,63,64,65,66,67,68,69,70,71,72,73,74,75,76] #[q313,q319,q320,q321,q322,q323,q324,q325,q326,q327,q328,q329,q330,q331,q332,q333,q334,q335,q336,q337,q338,q339,q340,q341,q342,q343,q344,q345,q346,q347,q348,q349,q350,q351,q352,q353,q354,q355,q356,q357,q358,q359,q360,q361,q362,q363]
noncomputable def Sf46 (b : Bool) (w : World) (os : OsState) : SharedT := ⟨Tfx (o96f46 b w.params) (lI 95 46) w.params, 98, {}, Array.mk [], {}, 461, os⟩
noncomputable def o96f47 (b : Bool) (_ : Params) : Obj := sO b 49 2 127 #[1,32,33,34,35,36,37,38,39,40,41,42,43,44,45,46,47,48,49,50,51,52,53,54,55,56,57,58,59,60,61,62,63,64,65,66,67,68,69,70,71,72,73,74,75,76,77] #[q313,q319,q320,q321,q322,q323,q324,q325,q326,q327,q328,q329,q330,q331,q332,q333,q334,q335,q336,q337,q338,q339,q340,q341,q342,q343,q344,q345,q346,q347,q348,q349,q350,q351,q352,q353,q354,q355,q356,q357,q358,q359,q360,q361,q362,q363,q364]
noncomputable def Sf47 (b : Bool) (w : World) (os : OsState) : SharedT := ⟨Tfx (o96f47 b w.params) (lI 95 47) w.params, 98, {}, Array.mk [], {}, 462, os⟩
noncomputable def o96f48 (b : Bool) (_ : Params) : Obj := sO b 50 2 127 #[1,32,33,34,35,36,37,38,39,40,41,42,43,44,45,46,47,48,49,50,51,52,53,54,55,56,57,58,59,60,61,62,63,64,65,66,67,68,69,70,71,72,73,74,75,76,77,78] #[q313,q319,q320,q321,q322,q323,q324,q325,q326,q327,q328,q329,q330,q331,q332,q333,q334,q335,q336,q337,q338,q339,q340,q341,q342,q343,q344,q345,q346,q347,q348,q349,q350,q351,q352,q353,q354,q355,q356,q357,q358,q359,q360,q361,q362,q363,q364,q365]
noncomputable def Sf48 (b : Bool) (w : World) (os : OsState) : SharedT := ⟨Tfx (o96f48 b w.params) (lI 95 48) w.params, 98, {}, Array.mk [], {}, 463, os⟩
noncomputable def o96f49 (b : Bool) (_ : Params) : Obj := sO b 51 2 127 #[1,32,33,34,35,36,37,38,39,40,41,42,43,44,45,46,47,48,49,50,51,52,53,54,55,56,57,58,59,60,61,62,63,64,65,66,67,68,69,70,71,72,73,74,75,76,77,78,79] #[q313,q319,q320,q321,q322,q323,q324,q325,q326,q327,q328,q329,q330,q331,q332,q333,q334,q335,q336,q337,q338,q339,q340,q341,q342,q343,q344,q345,q346,q347,q348,q349,q350,q351,q352,q353,q354,q355,q356,q357,q358,q359,q360,q361,q362,q363,q364,q365,q366]
noncomputable def Sf49 (b : Bool) (w : World) (os : OsState) : SharedT := ⟨Tfx (o96f49 b w.params) (lI 95 49) w.params, 98, {}, Array.mk [], {}, 464, os⟩
noncomputable def o96f50 (b : Bool) (_ : Params) : Obj := sO b 52 2 127 #[1,32,33,34,35,36,37,38,39,40,41,42,43,44,45,46,47,48,49,50,51,52,53,54,55,56,57,58,59,60,61,62,63,64,65,66,67,68,69,70,71,72,73,74,75,76,77,78,79,80] #[q313,q319,q320,q321,q322,q323,q324,q325,q326,q327,q328,q329,q330,q331,q332,q333,q334,q335,q336,q337,q338,q339,q340,q341,q342,q343,q344,q345,q346,q347,q348,q349,q350,q351,q352,q353,q354,q355,q356,q357,q358,q359,q360,q361,q362,q363,q364,q365,q366,q367]
noncomputable def Sf50 (b : Bool) (w : World) (os : OsState) : SharedT := ⟨Tfx (o96f50 b w.params) (lI 95 50) w.params, 98, {}, Array.mk [], {}, 465, os⟩
noncomputable def o96f51 (b : Bool) (_ : Params) : Obj := sO b 53 2 127 #[1,32,33,34,35,36,37,38,39,40,41,42,43,44,45,46,47,48,49,50,51,52,53,54,55,56,57,58,59,60,61,62,63,64,65,66,67,68,69,70,71,72,73,74,75,76,77,78,79,80,81] #[q313,q319,q320,q321,q322,q323,q324,q325,q326,q327,q328,q329,q330,q331,q332,q333,q334,q335,q336,q337,q338,q339,q340,q341,q342,q343,q344,q345,q346,q347,q348,q349,q350,q351,q352,q353,q354,q355,q356,q357,q358,q359,q360,q361,q362,q363,q364,q365,q366,q367,q368]
noncomputable def Sf51 (b : Bool) (w : World) (os : OsState) : SharedT := ⟨Tfx (o96f51 b w.params) (lI 95 51) w.params, 98, {}, Array.mk [], {}, 466, os⟩
noncomputable def o96f52 (b : Bool) (_ : Params) : Obj := sO b 54 2 127 #[1,32,33,34,35,36,37,38,39,40,41,42,43,44,45,46,47,48,49,50,51,52,53,54,55,56,57,58,59,60,61,62,63,64,65,66,67,68,69,70,71,72,73,74,75,76,77,78,79,80,81,82] #[q313,q319,q320,q321,q322,q323,q324,q325,q326,q327,q328,q329,q330,q331,q332,q333,q334,q335,q336,q337,q338,q339,q340,q341,q342,q343,q344,q345,q346,q347,q348,q349,q350,q351,q352,q353,q354,q355,q356,q357,q358,q359,q360,q361,q362,q363,q364,q365,q366,q367,q368,q369]
noncomputable def Sf52 (b : Bool) (w : World) (os : OsState) : SharedT := ⟨Tfx (o96f52 b w.params) (lI 95 52) w.params, 98, {}, Array.mk [], {}, 467, os⟩
noncomputable def o96f53 (b : Bool) (_ : Params) : Obj := sO b 55 2 127 #[1,32,33,34,35,36,37,38,39,40,41,42,43,44,45,46,47,48,49,50,51,52,53,54,55,56,57,58,59,60,61,62,63,64,65,66,67,68,69,70,71,72,73,74,75,76,77,78,79,80,81,82,83] #[q313,q319,q320,q321,q322,q323,q324,q325,q326,q327,q328,q329,q330,q331,q332,q333,q334,q335,q336,q337,q338,q339,q340,q341,q342,q343,q344,q345,q346,q347,q348,q349,q350,q351,q352,q353,q354,q355,q356,q357,q358,q359,q360,q361,q362,q363,q364,q365,q366,q367,q368,q369,q370]
noncomputable def Sf53 (b : Bool) (w : World) (os : OsState) : SharedT := ⟨Tfx (o96f53 b w.params) (lI 95 53) w.params, 98, {}, Array.mk [], {}, 468, os⟩
noncomputable def o96f54 (b : Bool) (_ : Params) : Obj := sO b 56 2 127 #[1,32,33,34,35,36,37,38,39,40,41,42,43,44,45,46,47,48,49,50,51,52,53,54,55,56,57,58,59,60,61,62,63,64,65,66,67,68,69,70,71,72,73,74,75,76,77,78,79,80,81,82,83,84] #[q313,q319,q320,q321,q322,q323,q324,q325,q326,q327,q328,q329,q330,q331,q332,q333,q334,q335,q336,q337,q338,q339,q340,q341,q342,q343,q344,q345,q346,q347,q348,q349,q350,q351,q352,q353,q354,q355,q356,q357,q358,q359,q360,q361,q362,q363,q364,q365,q366,q367,q368,q369,q370,q371]
noncomputable def Sf54 (b : Bool) (w : World) (os : OsState) : SharedT := ⟨Tfx (o96f54 b w.params) (lI 95 54) w.params, 98, {}, Array.mk [], {}, 469, os⟩
noncomputable def o96f55 (b : Bool) (_ : Params) : Obj := sO b 57 2 127 #[1,32,33,34,35,36,37,38,39,40,41,42,43,44,45,46,47,48,49,50,51,52,53,54,55,56,57,58,59,60,61,62,63,64,65,66,67,68,69,70,71,72,73,74,75,76,77,78,79,80,81,82,83,84,85] #[q313,q319,q320,q321,q322,q323,q324,q325,q326,q327,q328,q329,q330,q331,q332,q333,q334,q335,q336,q337,q338,q339,q340,q341,q342,q343,q344,q345,q346,q347,q348,q349,q350,q351,q352,q353,q354,q355,q356,q357,q358,q359,q360,q361,q362,q363,q364,q365,q366,q367,q368,q369,q370,q371,q372]
noncomputable def Sf55 (b : Bool) (w : World) (os : OsState) : SharedT := ⟨Tfx (o96f55 b w.params) (lI 95 55) w.params, 98, {}, Array.mk [], {}, 470, os⟩
noncomputable def o96f56 (b : Bool) (_ : Params) : Obj := sO b 58 2 127 #[1,32,33,34,35,36,37,38,39,40,41,42,43,44,45,46,47,48,49,50,51,52,53,54,55,56,57,58,59,60,61,62,63,64,65,66,67,68,69,70,71,72,73,74,75,76,77,78,79,80,81,82,83,84,85,86] #[q313,q319,q320,q321,q322,q323,q324,q325,q326,q327,q328,q329,q330,q331,q332,q333,q334,q335,q336,q337,q338,q339,q340,q341,q342,q343,q344,q345,q346,q347,q348,q349,q350,q351,q352,q353,q354,q355,q356,q357,q358,q359,q360,q361,q362,q363,q364,q365,q366,q367,q368,q369,q370,q371,q372,q373]
noncomputable def Sf56 (b : Bool) (w : World) (os : OsState) : SharedT := ⟨Tfx (o96f56 b w.params) (lI 95 56) w.params, 98, {}, Array.mk [], {}, 471, os⟩
noncomputable def o96f57 (b : Bool) (_ : Params) : Obj := sO b 59 2 127 #[1,32,33,34,35,36,37,38,39,40,41,42,43,44,45,46,47,48,49,50,51,52,53,54,55,56,57,58,59,60,61,62,63,64,65,66,67,68,69,70,71,72,73,74,75,76,77,78,79,80,81,82,83,84,85,86,87] #[q313,q319,q320,q321,q322,q323,q324,q325,q326,q327,q328,q329,q330,q331,q332,q333,q334,q335,q336,q337,q338,q339,q340,q341,q342,q343,q344,q345,q346,q347,q348,q349,q350,q351,q352,q353,q354,q355,q356,q357,q358,q359,q360,q361,q362,q363,q364,q365,q366,q367,q368,q369,q370,q371,q372,q373,q374]
noncomputable def Sf57 (b : Bool) (w : World) (os : OsState) : SharedT := ⟨Tfx (o96f57 b w.params) (lI 95 57) w.params, 98, {}, Array.mk [], {}, 472, os⟩
noncomputable def o96f58 (b : Bool) (_ : Params) : Obj := sO b 60 2 127 #[1,32,33,34,35,36,37,38,39,40,41,42,43,44,45,46,47,48,49,50,51,52,53,54,55,56,57,58,59,60,61,62,63,64,65,66,67,68,69,70,71,72,73,74,75,76,77,78,79,80,81,82,83,84,85,86,87,88] #[q313,q319,q320,q321,q322,q323,q324,q325,q326,q327,q328,q329,q330,q331,q332,q333,q334,q335,q336,q337,q338,q339,q340,q341,q342,q343,q344,q345,q346,q347,q348,q349,q350,q351,q352,q353,q354,q355,q356,q357,q358,q359,q360,q361,q362,q363,q364,q365,q366,q367,q368,q369,q370,q371,q372,q373,q374,q375]
noncomputable def Sf58 (b : Bool) (w : World) (os : OsState) : SharedT := ⟨Tfx (o96f58 b w.params) (lI 95 58) w.params, 98, {}, Array.mk [], {}, 473, os⟩
noncomputable def o96f59 (b : Bool) (_ : Params) : Obj := sO b 61 2 127 #[1,32,33,34,35,36,37,38,39,40,41,42,43,44,45,46,47,48,49,50,51,52,53,54,55,56,57,58,59,60,61,62,63,64,65,66,67,68,69,70,71,72,73,74,75,76,77,78,79,80,81,82,83,84,85,86,87,88,89] #[q313,q319,q320,q321,q322,q323,q324,q325,q326,q327,q328,q329,q330,q331,q332,q333,q334,q335,q336,q337,q338,q339,q340,q341,q342,q343,q344,q345,q346,q347,q348,q349,q350,q351,q352,q353,q354,q355,q356,q357,q358,q359,q360,q361,q362,q363,q364,q365,q366,q367,q368,q369,q370,q371,q372,q373,q374,q375,q376]
noncomputable def Sf59 (b : Bool) (w : World) (os : OsState) : SharedT := ⟨Tfx (o96f59 b w.params) (lI 95 59) w.params, 98, {}, Array.mk [], {}, 474, os⟩
noncomputable def o96f60 (b : Bool) (_ : Params) : Obj := sO b 62 2 127 #[1,32,33,34,35,36,37,38,39,40,41,42,43,44,45,46,47,48,49,50,51,52,53,54,55,56,57,58,59,60,61,62,63,64,65,66,67,68,69,70,71,72,73,74,75,76,77,78,79,80,81,82,83,84,85,86,87,88,89,90] #[q313,q319,q320,q321,q322,q323,q324,q325,q326,q327,q328,q329,q330,q331,q332,q333,q334,q335,q336,q337,q338,q339,q340,q341,q342,q343,q344,q345,q346,q347,q348,q349,q350,q351,q352,q353,q354,q355,q356,q357,q358,q359,q360,q361,q362,q363,q364,q365,q366,q367,q368,q369,q370,q371,q372,q373,q374,q375,q376,q377]
noncomputable def Sf60 (b : Bool) (w : World) (os : OsState) : SharedT := ⟨Tfx (o96f60 b w.params) (lI 95 60) w.params, 98, {}, Array.mk [], {}, 475, os⟩
noncomputable def o96f61 (b : Bool) (_ : Params) : Obj := sO b 63 2 127 #[1,32,33,34,35,36,37,38,39,40,41,42,43,44,45,46,47,48,49,50,51,52,53,54,55,56,57,58,59,60,61,62,63,64,65,66,67,68,69,70,71,72,73,74,75,76,77,78,79,80,81,82,83,84,85,86,87,88,89,90,91] #[q313,q319,q320,q321,q322,q323,q324,q325,q326,q327,q328,q329,q330,q331,q332,q333,q334,q335,q336,q337,q338,q339,q340,q341,q342,q343,q344,q345,q346,q347,q348,q349,q350,q351,q352,q353,q354,q355,q356,q357,q358,q359,q360,q361,q362,q363,q364,q365,q366,q367,q368,q369,q370,q371,q372,q373,q374,q375,q376,q377,q378]
noncomputable def Sf61 (b : Bool) (w : World) (os : OsState) : SharedT := ⟨Tfx (o96f61 b w.params) (lI 95 61) w.params, 98, {}, Array.mk [], {}, 476, os⟩
noncomputable def o96f62 (b : Bool) (_ : Params) : Obj := sO b 64 2 127 #[1,32,33,34,35,36,37,38,39,40,41,42,43,44,45,46,47,48,49,50,51,52,53,54,55,56,57,58,59,60,61,62,63,64,65,66,67,68,69,70,71,72,73,74,75,76,77,78,79,80,81,82,83,84,85,86,87,88,89,90,91,92] #[q313,q319,q320,q321,q322,q323,q324,q325,q326,q327,q328,q329,q330,q331,q332,q333,q334,q335,q336,q337,q338,q339,q340,q341,q342,q343,q344,q345,q346,q347,q348,q349,q350,q351,q352,q353,q354,q355,q356,q357,q358,q359,q360,q361,q362,q363,q364,q365,q366,q367,q368,q369,q370,q371,q372,q373,q374,q375,q376,q377,q378,q379]
noncomputable def Sf62 (b : Bool) (w : World) (os : OsState) : SharedT := ⟨Tfx (o96f62 b w.params) (lI 95 62) w.params, 98, {}, Array.mk [], {}, 477, os⟩
noncomputable def o96f63 (b : Bool) (_ : Params) : Obj := sO b 65 2 127 #[1,32,33,34,35,36,37,38,39,40,41,42,43,44,45,46,47,48,49,50,51,52,53,54,55,56,57,58,59,60,61,62,63,64,65,66,67,68,69,70,71,72,73,74,75,76,77,78,79,80,81,82,83,84,85,86,87,88,89,90,91,92,93] #[q313,q319,q320,q321,q322,q323,q324,q325,q326,q327,q328,q329,q330,q331,q332,q333,q334,q335,q336,q337,q338,q339,q340,q341,q342,q343,q344,q345,q346,q347,q348,q349,q350,q351,q352,q353,q354,q355,q356,q357,q358,q359,q360,q361,q362,q363,q364,q365,q366,q367,q368,q369,q370,q371,q372,q373,q374,q375,q376,q377,q378,q379,q380]
noncomputable def Sf63 (b : Bool) (w : World) (os : OsState) : SharedT := ⟨Tfx (o96f63 b w.params) (lI 95 63) w.params, 98, {}, Array.mk [], {}, 478, os⟩
noncomputable def o96f64 (b : Bool) (_ : Params) : Obj := sO b 66 2 127 #[1,32,33,34,35,36,37,38,39,40,41,42,43,44,45,46,47,48,49,50,51,52,53,54,55,56,57,58,59,60,61,62,63,64,65,66,67,68,69,70,71,72,73,74,75,76,77,78,79,80,81,82,83,84,85,86,87,88,89,90,91,92,93,94] #[q313,q319,q320,q321,q322,q323,q324,q325,q326,q327,q328,q329,q330,q331,q332,q333,q334,q335,q336,q337,q338,q339,q340,q341,q342,q343,q344,q345,q346,q347,q348,q349,q350,q351,q352,q353,q354,q355,q356,q357,q358,q359,q360,q361,q362,q363,q364,q365,q366,q367,q368,q369,q370,q371,q372,q373,q374,q375,q376,q377,q378,q379,q380,q381]
noncomputable def Sf64 (b : Bool) (w : World) (os : OsState) : SharedT := ⟨Tfx (o96f64 b w.params) (lI 95 64) w.params, 98, {}, Array.mk [], {}, 479, os⟩
noncomputable def o96f65 (b : Bool) (_ : Params) : Obj := sO b 67 2 127 #[1,32,33,34,35,36,37,38,39,40,41,42,43,44,45,46,47,48,49,50,51,52,53,54,55,56,57,58,59,60,61,62,63,64,65,66,67,68,69,70,71,72,73,74,75,76,77,78,79,80,81,82,83,84,85,86,87,88,89,90,91,92,93,94,95] #[q313,q319,q320,q321,q322,q323,q324,q325,q326,q327,q328,q329,q330,q331,q332,q333,q334,q335,q336,q337,q338,q339,q340,q341,q342,q343,q344,q345,q346,q347,q348,q349,q350,q351,q352,q353,q354,q355,q356,q357,q358,q359,q360,q361,q362,q363,q364,q365,q366,q367,q368,q369,q370,q371,q372,q373,q374,q375,q376,q377,q378,q379,q380,q381,q382]
noncomputable def Sf65 (b : Bool) (w : World) (os : OsState) : SharedT := ⟨Tfx (o96f65 b w.params) (lI 95 65) w.params, 98, {}, Array.mk [], {}, 480, os⟩
noncomputable def o96f66 (b : Bool) (_ : Params) : Obj := sO b 68 2 127 #[1,32,33,34,35,36,37,38,39,40,41,42,43,44,45,46,47,48,49,50,51,52,53,54,55,56,57,58,59,60,61,62,63,64,65,66,67,68,69,70,71,72,73,74,75,76,77,78,79,80,81,82,83,84,85,86,87,88,89,90,91,92,93,94,95,96] #[q313,q319,q320,q321,q322,q323,q324,q325,q326,q327,q328,q329,q330,q331,q332,q333,q334,q335,q336,q337,q338,q339,q340,q341,q342,q343,q344,q345,q346,q347,q348,q349,q350,q351,q352,q353,q354,q355,q356,q357,q358,q359,q360,q361,q362,q363,q364,q365,q366,q367,q368,q369,q370,q371,q372,q373,q374,q375,q376,q377,q378,q379,q380,q381,q382,q383]
noncomputable def Sf66 (b : Bool) (w : World) (os : OsState) : SharedT := ⟨Tfx (o96f66 b w.params) (lI 95 66) w.params, 98, {}, Array.mk [], {}, 481, os⟩
noncomputable def o96f67 (b : Bool) (_ : Params) : Obj := sO b 69 2 127 #[1,32,33,34,35,36,37,38,39,40,41,42,43,44,45,46,47,48,49,50,51,52,53,54,55,56,57,58,59,60,61,62,63,64,65,66,67,68,69,70,71,72,73,74,75,76,77,78,79,80,81,82,83,84,85,86,87,88,89,90,91,92,93,94,95,96,97] #[q313,q319,q320,q321,q322,q323,q324,q325,q326,q327,q328,q329,q330,q331,q332,q333,q334,q335,q336,q337,q338,q339,q340,q341,q342,q343,q344,q345,q346,q347,q348,q349,q350,q351,q352,q353,q354,q355,q356,q357,q358,q359,q360,q361,q362,q363,q364,q365,q366,q367,q368,q369,q370,q371,q372,q373,q374,q375,q376,q377,q378,q379,q380,q381,q382,q383,q384]
noncomputable def Sf67 (b : Bool) (w : World) (os : OsState) : SharedT := ⟨Tfx (o96f67 b w.params) (lI 95 67) w.params, 98, {}, Array.mk [], {}, 482, os⟩
noncomputable def o96f68 (b : Bool) (_ : Params) : Obj := sO b 70 2 127 #[1,32,33,34,35,36,37,38,39,40,41,42,43,44,45,46,47,48,49,50,51,52,53,54,55,56,57,58,59,60,61,62,63,64,65,66,67,68,69,70,71,72,73,74,75,76,77,78,79,80,81,82,83,84,85,86,87,88,89,90,91,92,93,94,95,96,97,98] #[q313,q319,q320,q321,q322,q323,q324,q325,q326,q327,q328,q329,q330,q331,q332,q333,q334,q335,q336,q337,q338,q339,q340,q341,q342,q343,q344,q345,q346,q347,q348,q349,q350,q351,q352,q353,q354,q355,q356,q357,q358,q359,q360,q361,q362,q363,q364,q365,q366,q367,q368,q369,q370,q371,q372,q373,q374,q375,q376,q377,q378,q379,q380,q381,q382,q383,q384,q385]
noncomputable def Sf68 (b : Bool) (w : World) (os : OsState) : SharedT := ⟨Tfx (o96f68 b w.params) (lI 95 68) w.params, 98, {}, Array.mk [], {}, 483, os⟩
noncomputable def o96f69 (b : Bool) (_ : Params) : Obj := sO b 71 2 127 #[1,32,33,34,35,36,37,38,39,40,41,42,43,44,45,46,47,48,49,50,51,52,53,54,55,56,57,58,59,60,61,62,63,64,65,66,67,68,69,70,71,72,73,74,75,76,77,78,79,80,81,82,83,84,85,86,87,88,89,90,91,92,93,94,95,96,97,98,99] #[q313,q319,q320,q321,q322,q323,q324,q325,q326,q327,q328,q329,q330,q331,q332,q333,q334,q335,q336,q337,q338,q339,q340,q341,q342,q343,q344,q345,q346,q347,q348,q349,q350,q351,q352,q353,q354,q355,q356,q357,q358,q359,q360,q361,q362,q363,q364,q365,q366,q367,q368,q369,q370,q371,q372,q373,q374,q375,q376,q377,q378,q379,q380,q381,q382,q383,q384,q385,q386]
noncomputable def Sf69 (b : Bool) (w : World) (os : OsState) : SharedT := ⟨Tfx (o96f69 b w.params) (lI 95 69) w.params, 98, {}, Array.mk [], {}, 484, os⟩
noncomputable def o96f70 (b : Bool) (_ : Params) : Obj := sO b 72 2 127 #[1,32,33,34,35,36,37,38,39,40,41,42,43,44,45,46,47,48,49,50,51,52,53,54,55,56,57,58,59,60,61,62,63,64,65,66,67,68,69,70,71,72,73,74,75,76,77,78,79,80,81,82,83,84,85,86,87,88,89,90,91,92,93,94,95,96,97,98,99,100] #[q313,q319,q320,q321,q322,q323,q324,q325,q326,q327,q328,q329,q330,q331,q332,q333,q334,q335,q336,q337,q338,q339,q340,q341,q342,q343,q344,q345,q346,q347,q348,q349,q350,q351,q352,q353,q354,q355,q356,q357,q358,q359,q360,q361,q362,q363,q364,q365,q366,q367,q368,q369,q370,q371,q372,q373,q374,q375,q376,q377,q378,q379,q380,q381,q382,q383,q384,q385,q386,q387]
noncomputable def Sf70 (b : Bool) (w : World) (os : OsState) : SharedT := ⟨Tfx (o96f70 b w.params) (lI 95 70) w.params, 98, {}, Array.mk [], {}, 485, os⟩
noncomputable def o96f71 (b : Bool) (_ : Params) : Obj := sO b 73 2 127 #[1,32,33,34,35,36,37,38,39,40,41,42,43,44,45,46,47,48,49,50,51,52,53,54,55,56,57,58,59,60,61,62,63,64,65,66,67,68,69,70,71,72,73,74,75,76,77,78,79,80,81,82,83,84,85,86,87,88,89,90,91,92,93,94,95,96,97,98,99,100,101] #[q313,q319,q320,q321,q322,q323,q324,q325,q326,q327,q328,q329,q330,q331,q332,q333,q334,q335,q336,q337,q338,q339,q340,q341,q342,q343,q344,q345,q346,q347,q348,q349,q350,q351,q352,q353,q354,q355,q356,q357,q358,q359,q360,q361,q362,q363,q364,q365,q366,q367,q368,q369,q370,q371,q372,q373,q374,q375,q376,q377,q378,q379,q380,q381,q382,q383,q384,q385,q386,q387,q388]
noncomputable def Sf71 (b : Bool) (w : World) (os : OsState) : SharedT := ⟨Tfx (o96f71 b w.params) (lI 95 71) w.params, 98, {}, Array.mk [], {}, 486, os⟩
noncomputable def o96f72 (b : Bool) (_ : Params) : Obj := sO b 74 2 127 #[1,32,33,34,35,36,37,38,39,40,41,42,43,44,45,46,47,48,49,50,51,52,53,54,55,56,57,58,59,60,61,62,63,64,65,66,67,68,69,70,71,72,73,74,75,76,77,78,79,80,81,82,83,84,85,86,87,88,89,90,91,92,93,94,95,96,97,98,99,100,101,102] #[q313,q319,q320,q321,q322,q323,q324,q325,q326,q327,q328,q329,q330,q331,q332,q333,q334,q335,q336,q337,q338,q339,q340,q341,q342,q343,q344,q345,q346,q347,q348,q349,q350,q351,q352,q353,q354,q355,q356,q357,q358,q359,q360,q361,q362,q363,q364,q365,q366,q367,q368,q369,q370,q371,q372,q373,q374,q375,q376,q377,q378,q379,q380,q381,q382,q383,q384,q385,q386,q387,q388,q389]
noncomputable def Sf72 (b : Bool) (w : World) (os : OsState) : SharedT := ⟨Tfx (o96f72 b w.params) (lI 95 72) w.params, 98, {}, Array.mk [], {}, 487, os⟩
noncomputable def o96f73 (b : Bool) (_ : Params) : Obj := sO b 75 2 127 #[1,32,33,34,35,36,37,38,39,40,41,42,43,44,45,46,47,48,49,50,51,52,53,54,55,56,57,58,59,60,61,62,63,64,65,66,67,68,69,70,71,72,73,74,75,76,77,78,79,80,81,82,83,84,85,86,87,88,89,90,91,92,93,94,95,96,97,98,99,100,101,102,103] #[q313,q319,q320,q321,q322,q323,q324,q325,q326,q327,q328,q329,q330,q331,q332,q333,q334,q335,q336,q337,q338,q339,q340,q341,q342,q343,q344,q345,q346,q347,q348,q349,q350,q351,q352,q353,q354,q355,q356,q357,q358,q359,q360,q361,q362,q363,q364,q365,q366,q367,q368,q369,q370,q371,q372,q373,q374,q375,q376,q377,q378,q379,q380,q381,q382,q383,q384,q385,q386,q387,q388,q389,q390]
noncomputable def Sf73 (b : Bool) (w : World) (os : OsState) : SharedT := ⟨Tfx (o96f73 b w.params) (lI 95 73) w.params, 98, {}, Array.mk [], {}, 488, os⟩
noncomputable def o96f74 (b : Bool) (_ : Params) : Obj := sO b 76 2 127 #[1,32,33,34,35,36,37,38,39,40,41,42,43,44,45,46,47,48,49,50,51,52,53,54,55,56,57,58,59,60,61,62,63,64,65,66,67,68,69,70,71,72,73,74,75,76,77,78,79,80,81,82,83,84,85,86,87,88,89,90,91,92,93,94,95,96,97,98,99,100,101,102,103,104] #[q313,q319,q320,q321,q322,q323,q324,q325,q326,q327,q328,q329,q330,q331,q332,q333,q334,q335,q336,q337,q338,q339,q340,q341,q342,q343,q344,q345,q346,q347,q348,q349,q350,q351,q352,q353,q354,q355,q356,q357,q358,q359,q360,q361,q362,q363,q364,q365,q366,q367,q368,q369,q370,q371,q372,q373,q374,q375,q376,q377,q378,q379,q380,q381,q382,q383,q384,q385,q386,q387,q388,q389,q390,q391]
noncomputable def Sf74 (b : Bool) (w : World) (os : OsState) : SharedT := ⟨Tfx (o96f74 b w.params) (lI 95 74) w.params, 98, {}, Array.mk [], {}, 489, os⟩
noncomputable def o96f75 (b : Bool) (_ : Params) : Obj := sO b 77 2 127 #[1,32,33,34,35,36,37,38,39,40,41,42,43,44,45,46,47,48,49,50,51,52,53,54,55,56,57,58,59,60,61,62,63,64,65,66,67,68,69,70,71,72,73,74,75,76,77,78,79,80,81,82,83,84,85,86,87,88,89,90,91,92,93,94,95,96,97,98,99,100,101,102,103,104,105] #[q313,q319,q320,q321,q322,q323,q324,q325,q326,q327,q328,q329,q330,q331,q332,q333,q334,q335,q336,q337,q338,q339,q340,q341,q342,q343,q344,q345,q346,q347,q348,q349,q350,q351,q352,q353,q354,q355,q356,q357,q358,q359,q360,q361,q362,q363,q364,q365,q366,q367,q368,q369,q370,q371,q372,q373,q374,q375,q376,q377,q378,q379,q380,q381,q382,q383,q384,q385,q386,q387,q388,q389,q390,q391,q392]
noncomputable def Sf75 (b : Bool) (w : World) (os : OsState) : SharedT := ⟨Tfx (o96f75 b w.params) (lI 95 75) w.params, 98, {}, Array.mk [], {}, 490, os⟩
noncomputable def o96f76 (b : Bool) (_ : Params) : Obj := sO b 78 2 127 #[1,32,33,34,35,36,37,38,39,40,41,42,43,44,45,46,47,48,49,50,51,52,53,54,55,56,57,58,59,60,61,62,63,64,65,66,67,68,69,70,71,72,73,74,75,76,77,78,79,80,81,82,83,84,85,86,87,88,89,90,91,92,93,94,95,96,97,98,99,100,101,102,103,104,105,106] #[q313,q319,q320,q321,q322,q323,q324,q325,q326,q327,q328,q329,q330,q331,q332,q333,q334,q335,q336,q337,q338,q339,q340,q341,q342,q343,q344,q345,q346,q347,q348,q349,q350,q351,q352,q353,q354,q355,q356,q357,q358,q359,q360,q361,q362,q363,q364,q365,q366,q367,q368,q369,q370,q371,q372,q373,q374,q375,q376,q377,q378,q379,q380,q381,q382,q383,q384,q385,q386,q387,q388,q389,q390,q391,q392,q393]
noncomputable def Sf76 (b : Bool) (w : World) (os : OsState) : SharedT := ⟨Tfx (o96f76 b w.params) (lI 95 76) w.params, 98, {}, Array.mk [], {}, 491, os⟩
noncomputable def o96f77 (b : Bool) (_ : Params) : Obj := sO b 80 3 511 #[1,32,33,34,35,36,37,38,39,40,41,42,43,44,45,46,47,48,49,50,51,52,53,54,55,56,57,58,59,60,61,62,63,64,65,66,67,68,69,70,71,72,73,74,75,76,77,78,79,80,81,82,83,84,85,86,87,88,89,90,91,92,93,94,95,96,97,98,99,100,101,102,103,104,105,106,107] #[q313,q319,q320,q321,q322,q323,q324,q325,q326,q327,q328,q329,q330,q331,q332,q333,q334,q335,q336,q337,q338,q339,q340,q341,q342,q343,q344,q345,q346,q347,q348,q349,q350,q351,q352,q353,q354,q355,q356,q357,q358,q359,q360,q361,q362,q363,q364,q365,q366,q367,q368,q369,q370,q371,q372,q373,q374,q375,q376,q377,q378,q379,q380,q381,q382,q383,q384,q385,q386,q387,q388,q389,q390,q391,q392,q393,q394]
noncomputable def Sf77 (b : Bool) (w : World) (os : OsState) : SharedT := ⟨Tfx (o96f77 b w.params) (lI 95 77) w.params, 98, {}, Array.mk [], {}, 492, os⟩
noncomputable def o96f78 (b : Bool) (_ : Params) : Obj := sO b 81 3 511 #[1,32,33,34,35,36,37,38,39,40,41,42,43,44,45,46,47,48,49,50,51,52,53,54,55,56,57,58,59,60,61,62,63,64,65,66,67,68,69,70,71,72,73,74,75,76,77,78,79,80,81,82,83,84,85,86,87,88,89,90,91,92,93,94,95,96,97,98,99,100,101,102,103,104,105,106,107,108] #[q313,q319,q320,q321,q322,q323,q324,q325,q326,q327,q328,q329,q330,q331,q332,q333,q334,q335,q336,q337,q338,q339,q340,q341,q342,q343,q344,q345,q346,q347,q348,q349,q350,q351,q352,q353,q354,q355,q356,q357,q358,q359,q360,q361,q362,q363,q364,q365,q366,q367,q368,q369,q370,q371,q372,q373,q374,q375,q376,q377,q378,q379,q380,q381,q382,q383,q384,q385,q386,q387,q388,q389,q390,q391,q392,q393,q394,q395]
noncomputable def Sf78 (b : Bool) (w : World) (os : OsState) : SharedT := ⟨Tfx (o96f78 b w.params) (lI 95 78) w.params, 98, {}, Array.mk [], {}, 493, os⟩
noncomputable def o96f79 (b : Bool) (_ : Params) : Obj := sO b 82 3 511 #[1,32,33,34,35,36,37,38,39,40,41,42,43,44,45,46,47,48,49,50,51,52,53,54,55,56,57,58,59,60,61,62,63,64,65,66,67,68,69,70,71,72,73,74,75,76,77,78,79,80,81,82,83,84,85,86,87,88,89,90,91,92,93,94,95,96,97,98,99,100,101,102,103,104,105,106,107,108,109] #[q313,q319,q320,q321,q322,q323,q324,q325,q326,q327,q328,q329,q330,q331,q332,q333,q334,q335,q336,q337,q338,q339,q340,q341,q342,q343,q344,q345,q346,q347,q348,q349,q350,q351,q352,q353,q354,q355,q356,q357,q358,q359,q360,q361,q362,q363,q364,q365,q366,q367,q368,q369,q370,q371,q372,q373,q374,q375,q376,q377,q378,q379,q380,q381,q382,q383,q384,q385,q386,q387,q388,q389,q390,q391,q392,q393,q394,q395,q396]
noncomputable def Sf79 (b : Bool) (w : World) (os : OsState) : SharedT := ⟨Tfx (o96f79 b w.params) (lI 95 79) w.params, 98, {}, Array.mk [], {}, 494, os⟩
noncomputable def o96f80 (b : Bool) (_ : Params) : Obj := sO b 83 3 511 #[1,32,33,34,35,36,37,38,39,40,41,42,43,44,45,46,47,48,49,50,51,52,53,54,55,56,57,58,59,60,61,62,63,64,65,66,67,68,69,70,71,72,73,74,75,76,77,78,79,80,81,82,83,84,85,86,87,88,89,90,91,92,93,94,95,96,97,98,99,100,101,102,103,104,105,106,107,108,109,110] #[q313,q319,q320,q321,q322,q323,q324,q325,q326,q327,q328,q329,q330,q331,q332,q333,q334,q335,q336,q337,q338,q339,q340,q341,q342,q343,q344,q345,q346,q347,q348,q349,q350,q351,q352,q353,q354,q355,q356,q357,q358,q359,q360,q361,q362,q363,q364,q365,q366,q367,q368,q369,q370,q371,q372,q373,q374,q375,q376,q377,q378,q379,q380,q381,q382,q383,q384,q385,q386,q387,q388,q389,q390,q391,q392,q393,q394,q395,q396,q397]
noncomputable def Sf80 (b : Bool) (w : World) (os : OsState) : SharedT := ⟨Tfx (o96f80 b w.params) (lI 95 80) w.params, 98, {}, Array.mk [], {}, 495, os⟩
noncomputable def o96f81 (b : Bool) (_ : Params) : Obj := sO b 84 3 511 #[1,32,33,34,35,36,37,38,39,40,41,42,43,44,45,46,47,48,49,50,51,52,53,54,55,56,57,58,59,60,61,62,63,64,65,66,67,68,69,70,71,72,73,74,75,76,77,78,79,80,81,82,83,84,85,86,87,88,89,90,91,92,93,94,95,96,97,98,99,100,101,102,103,104,105,106,107,108,109,110,111] #[q313,q319,q320,q321,q322,q323,q324,q325,q326,q327,q328,q329,q330,q331,q332,q333,q334,q335,q336,q337,q338,q339,q340,q341,q342,q343,q344,q345,q346,q347,q348,q349,q350,q351,q352,q353,q354,q355,q356,q357,q358,q359,q360,q361,q362,q363,q364,q365,q366,q367,q368,q369,q370,q371,q372,q373,q374,q375,q376,q377,q378,q379,q380,q381,q382,q383,q384,q385,q386,q387,q388,q389,q390,q391,q392,q393,q394,q395,q396,q397,q398]
noncomputable def Sf81 (b : Bool) (w : World) (os : OsState) : SharedT := ⟨Tfx (o96f81 b w.params) (lI 95 81) w.params, 98, {}, Array.mk [], {}, 496, os⟩
noncomputable def o96f82 (b : Bool) (_ : Params) : Obj := sO b 85 3 511 #[1,32,33,34,35,36,37,38,39,40,41,42,43,44,45,46,47,48,49,50,51,52,53,54,55,56,57,58,59,60,61,62,63,64,65,66,67,68,69,70,71,72,73,74,75,76,77,78,79,80,81,82,83,84,85,86,87,88,89,90,91,92,93,94,95,96,97,98,99,100,101,102,103,104,105,106,107,108,109,110,111,112] #[q313,q319,q320,q321,q322,q323,q324,q325,q326,q327,q328,q329,q330,q331,q332,q333,q334,q335,q336,q337,q338,q339,q340,q341,q342,q343,q344,q345,q346,q347,q348,q349,q350,q351,q352,q353,q354,q355,q356,q357,q358,q359,q360,q361,q362,q363,q364,q365,q366,q367,q368,q369,q370,q371,q372,q373,q374,q375,q376,q377,q378,q379,q380,q381,q382,q383,q384,q385,q386,q387,q388,q389,q390,q391,q392,q393,q394,q395,q396,q397,q398,q399]
noncomputable def Sf82 (b : Bool) (w : World) (os : OsState) : SharedT := ⟨Tfx (o96f82 b w.params) (lI 95 82) w.params, 98, {}, Array.mk [], {}, 497, os⟩
noncomputable def o96f83 (b : Bool) (_ : Params) : Obj := sO b 86 3 511 #[1,32,33,34,35,36,37,38,39,40,41,42,43,44,45,46,47,48,49,50,51,52,53,54,55,56,57,58,59,60,61,62,63,64,65,66,67,68,69,70,71,72,73,74,75,76,77,78,79,80,81,82,83,84,85,86,87,88,89,90,91,92,93,94,95,96,97,98,99,100,101,102,103,104,105,106,107,108,109,110,111,112,113] #[q313,q319,q320,q321,q322,q323,q324,q325,q326,q327,q328,q329,q330,q331,q332,q333,q334,q335,q336,q337,q338,q339,q340,q341,q342,q343,q344,q345,q346,q347,q348,q349,q350,q351,q352,q353,q354,q355,q356,q357,q358,q359,q360,q361,q362,q363,q364,q365,q366,q367,q368,q369,q370,q371,q372,q373,q374,q375,q376,q377,q378,q379,q380,q381,q382,q383,q384,q385,q386,q387,q388,q389,q390,q391,q392,q393,q394,q395,q396,q397,q398,q399,q400]
noncomputable def Sf83 (b : Bool) (w : World) (os : OsState) : SharedT := ⟨Tfx (o96f83 b w.params) (lI 95 83) w.params, 98, {}, Array.mk [], {}, 498, os⟩
noncomputable def o96f84 (b : Bool) (_ : Params) : Obj := sO b 87 3 511 #[1,32,33,34,35,36,37,38,39,40,41,42,43,44,45,46,47,48,49,50,51,52,53,54,55,56,57,58,59,60,61,62,63,64,65,66,67,68,69,70,71,72,73,74,75,76,77,78,79,80,81,82,83,84,85,86,87,88,89,90,91,92,93,94,95,96,97,98,99,100,101,102,103,104,105,106,107,108,109,110,111,112,113,114] #[q313,q319,q320,q321,q322,q323,q324,q325,q326,q327,q328,q329,q330,q331,q332,q333,q334,q335,q336,q337,q338,q339,q340,q341,q342,q343,q344,q345,q346,q347,q348,q349,q350,q351,q352,q353,q354,q355,q356,q357,q358,q359,q360,q361,q362,q363,q364,q365,q366,q367,q368,q369,q370,q371,q372,q373,q374,q375,q376,q377,q378,q379,q380,q381,q382,q383,q384,q385,q386,q387,q388,q389,q390,q391,q392,q393,q394,q395,q396,q397,q398,q399,q400,q401]
noncomputable def Sf84 (b : Bool) (w : World) (os : OsState) : SharedT := ⟨Tfx (o96f84 b w.params) (lI 95 84) w.params, 98, {}, Array.mk [], {}, 499, os⟩
noncomputable def o96f85 (b : Bool) (_ : Params) : Obj := sO b 88 3 511 #[1,32,33,34,35,36,37,38,39,40,41,42,43,44,45,46,47,48,49,50,51,52,53,54,55,56,57,58,59,60,61,62,63,64,65,66,67,68,69,70,71,72,73,74,75,76,77,78,79,80,81,82,83,84,85,86,87,88,89,90,91,92,93,94,95,96,97,98,99,100,101,102,103,104,105,106,107,108,109,110,111,112,113,114,115] #[q313,q319,q320,q321,q322,q323,q324,q325,q326,q327,q328,q329,q330,q331,q332,q333,q334,q335,q336,q337,q338,q339,q340,q341,q342,q343,q344,q345,q346,q347,q348,q349,q350,q351,q352,q353,q354,q355,q356,q357,q358,q359,q360,q361,q362,q363,q364,q365,q366,q367,q368,q369,q370,q371,q372,q373,q374,q375,q376,q377,q378,q379,q380,q381,q382,q383,q384,q385,q386,q387,q388,q389,q390,q391,q392,q393,q394,q395,q396,q397,q398,q399,q400,q401,q402]
noncomputable def Sf85 (b : Bool) (w : World) (os : OsState) : SharedT := ⟨Tfx (o96f85 b w.params) (lI 95 85) w.params, 98, {}, Array.mk [], {}, 500, os⟩
noncomputable def o96f86 (b : Bool) (_ : Params) : Obj := sO b 89 3 511 #[1,32,33,34,35,36,37,38,39,40,41,42,43,44,45,46,47,48,49,50,51,52,53,54,55,56,57,58,59,60,61,62,63,64,65,66,67,68,69,70,71,72,73,74,75,76,77,78,79,80,81,82,83,84,85,86,87,88,89,90,91,92,93,94,95,96,97,98,99,100,101,102,103,104,105,106,107,108,109,110,111,112,113,114,115,116] #[q313,q319,q320,q321,q322,q323,q324,q325,q326,q327,q328,q329,q330,q331,q332,q333,q334,q335,q336,q337,q338,q339,q340,q341,q342,q343,q344,q345,q346,q347,q348,q349,q350,q351,q352,q353,q354,q355,q356,q357,q358,q359,q360,q361,q362,q363,q364,q365,q366,q367,q368,q369,q370,q371,q372,q373,q374,q375,q376,q377,q378,q379,q380,q381,q382,q383,q384,q385,q386,q387,q388,q389,q390,q391,q392,q393,q394,q395,q396,q397,q398,q399,q400,q401,q402,q403]
noncomputable def Sf86 (b : Bool) (w : World) (os : OsState) : SharedT := ⟨Tfx (o96f86 b w.params) (lI 95 86) w.params, 98, {}, Array.mk [], {}, 501, os⟩
noncomputable def o96f87 (b : Bool) (_ : Params) : Obj := sO b 90 3 511 #[1,32,33,34,35,36,37,38,39,40,41,42,43,44,45,46,47,48,49,50,51,52,53,54,55,56,57,58,59,60,61,62,63,64,65,66,67,68,69,70,71,72,73,74,75,76,77,78,79,80,81,82,83,84,85,86,87,88,89,90,91,92,93,94,95,96,97,98,99,100,101,102,103,104,105,106,107,108,109,110,111,112,113,114,115,116,117] #[q313,q319,q320,q321,q322,q323,q324,q325,q326,q327,q328,q329,q330,q331,q332,q333,q334,q335,q336,q337,q338,q339,q340,q341,q342,q343,q344,q345,q346,q347,q348,q349,q350,q351,q352,q353,q354,q355,q356,q357,q358,q359,q360,q361,q362,q363,q364,q365,q366,q367,q368,q369,q370,q371,q372,q373,q374,q375,q376,q377,q378,q379,q380,q381,q382,q383,q384,q385,q386,q387,q388,q389,q390,q391,q392,q393,q394,q395,q396,q397,q398,q399,q400,q401,q402,q403,q404]
noncomputable def Sf87 (b : Bool) (w : World) (os : OsState) : SharedT := ⟨Tfx (o96f87 b w.params) (lI 95 87) w.params, 98, {}, Array.mk [], {}, 502, os⟩
noncomputable def o96f88 (b : Bool) (_ : Params) : Obj := sO b 91 3 511 #[1,32,33,34,35,36,37,38,39,40,41,42,43,44,45,46,47,48,49,50,51,52,53,54,55,56,57,58,59,60,61,62,63,64,65,66,67,68,69,70,71,72,73,74,75,76,77,78,79,80,81,82,83,84,85,86,87,88,89,90,91,92,93,94,95,96,97,98,99,100,101,102,103,104,105,106,107,108,109,110,111,112,113,114,115,116,117,118] #[q313,q319,q320,q321,q322,q323,q324,q325,q326,q327,q328,q329,q330,q331,q332,q333,q334,q335,q336,q337,q338,q339,q340,q341,q342,q343,q344,q345,q346,q347,q348,q349,q350,q351,q352,q353,q354,q355,q356,q357,q358,q359,q360,q361,q362,q363,q364,q365,q366,q367,q368,q369,q370,q371,q372,q373,q374,q375,q376,q377,q378,q379,q380,q381,q382,q383,q384,q385,q386,q387,q388,q389,q390,q391,q392,q393,q394,q395,q396,q397,q398,q399,q400,q401,q402,q403,q404,q405]
noncomputable def Sf88 (b : Bool) (w : World) (os : OsState) : SharedT := ⟨Tfx (o96f88 b w.params) (lI 95 88) w.params, 98, {}, Array.mk [], {}, 503, os⟩
noncomputable def o96f89 (b : Bool) (_ : Params) : Obj := sO b 92 3 511 #[1,32,33,34,35,36,37,38,39,40,41,42,43,44,45,46,47,48,49,50,51,52,53,54,55,56,57,58,59,60,61,62,63,64,65,66,67,68,69,70,71,72,73,74,75,76,77,78,79,80,81,82,83,84,85,86,87,88,89,90,91,92,93,94,95,96,97,98,99,100,101,102,103,104,105,106,107,108,109,110,111,112,113,114,115,116,117,118,119] #[q313,q319,q320,q321,q322,q323,q324,q325,q326,q327,q328,q329,q330,q331,q332,q333,q334,q335,q336,q337,q338,q339,q340,q341,q342,q343,q344,q345,q346,q347,q348,q349,q350,q351,q352,q353,q354,q355,q356,q357,q358,q359,q360,q361,q362,q363,q364,q365,q366,q367,q368,q369,q370,q371,q372,q373,q374,q375,q376,q377,q378,q379,q380,q381,q382,q383,q384,q385,q386,q387,q388,q389,q390,q391,q392,q393,q394,q395,q396,q397,q398,q399,q400,q401,q402,q403,q404,q405,q406]
noncomputable def Sf89 (b : Bool) (w : World) (os : OsState) : SharedT := ⟨Tfx (o96f89 b w.params) (lI 95 89) w.params, 98, {}, Array.mk [], {}, 504, os⟩
noncomputable def o96f90 (b : Bool) (_ : Params) : Obj := sO b 93 3 511 #[1,32,33,34,35,36,37,38,39,40,41,42,43,44,45,46,47,48,49,50,51,52,53,54,55,56,57,58,59,60,61,62,63,64,65,66,67,68,69,70,71,72,73,74,75,76,77,78,79,80,81,82,83,84,85,86,87,88,89,90,91,92,93,94,95,96,97,98,99,100,101,102,103,104,105,106,107,108,109,110,111,112,113,114,115,116,117,118,119,120] #[q313,q319,q320,q321,q322,q323,q324,q325,q326,q327,q328,q329,q330,q331,q332,q333,q334,q335,q336,q337,q338,q339,q340,q341,q342,q343,q344,q345,q346,q347,q348,q349,q350,q351,q352,q353,q354,q355,q356,q357,q358,q359,q360,q361,q362,q363,q364,q365,q366,q367,q368,q369,q370,q371,q372,q373,q374,q375,q376,q377,q378,q379,q380,q381,q382,q383,q384,q385,q386,q387,q388,q389,q390,q391,q392,q393,q394,q395,q396,q397,q398,q399,q400,q401,q402,q403,q404,q405,q406,q407]
noncomputable def Sf90 (b : Bool) (w : World) (os : OsState) : SharedT := ⟨Tfx (o96f90 b w.params) (lI 95 90) w.params, 98, {}, Array.mk [], {}, 505, os⟩
noncomputable def o96f91 (b : Bool) (_ : Params) : Obj := sO b 94 3 511 #[1,32,33,34,35,36,37,38,39,40,41,42,43,44,45,46,47,48,49,50,51,52,53,54,55,56,57,58,59,60,61,62,63,64,65,66,67,68,69,70,71,72,73,74,75,76,77,78,79,80,81,82,83,84,85,86,87,88,89,90,91,92,93,94,95,96,97,98,99,100,101,102,103,104,105,106,107,108,109,110,111,112,113,114,115,116,117,118,119,120,121] #[q313,q319,q320,q321,q322,q323,q324,q325,q326,q327,q328,q329,q330,q331,q332,q333,q334,q335,q336,q337,q338,q339,q340,q341,q342,q343,q344,q345,q346,q347,q348,q349,q350,q351,q352,q353,q354,q355,q356,q357,q358,q359,q360,q361,q362,q363,q364,q365,q366,q367,q368,q369,q370,q371,q372,q373,q374,q375,q376,q377,q378,q379,q380,q381,q382,q383,q384,q385,q386,q387,q388,q389,q390,q391,q392,q393,q394,q395,q396,q397,q398,q399,q400,q401,q402,q403,q404,q405,q406,q407,q408]
noncomputable def Sf91 (b : Bool) (w : World) (os : OsState) : SharedT := ⟨Tfx (o96f91 b w.params) (lI 95 91) w.params, 98, {}, Array.mk [], {}, 506, os⟩
noncomputable def o96f92 (b : Bool) (_ : Params) : Obj := sO b 95 3 511 #[1,32,33,34,35,36,37,38,39,40,41,42,43,44,45,46,47,48,49,50,51,52,53,54,55,56,57,58,59,60,61,62,63,64,65,66,67,68,69,70,71,72,73,74,75,76,77,78,79,80,81,82,83,84,85,86,87,88,89,90,91,92,93,94,95,96,97,98,99,100,101,102,103,104,105,106,107,108,109,110,111,112,113,114,115,116,117,118,119,120,121,122] #[q313,q319,q320,q321,q322,q323,q324,q325,q326,q327,q328,q329,q330,q331,q332,q333,q334,q335,q336,q337,q338,q339,q340,q341,q342,q343,q344,q345,q346,q347,q348,q349,q350,q351,q352,q353,q354,q355,q356,q357,q358,q359,q360,q361,q362,q363,q364,q365,q366,q367,q368,q369,q370,q371,q372,q373,q374,q375,q376,q377,q378,q379,q380,q381,q382,q383,q384,q385,q386,q387,q388,q389,q390,q391,q392,q393,q394,q395,q396,q397,q398,q399,q400,q401,q402,q403,q404,q405,q406,q407,q408,q409]
noncomputable def Sf92 (b : Bool) (w : World) (os : OsState) : SharedT := ⟨Tfx (o96f92 b w.params) (lI 95 92) w.params, 98, {}, Array.mk [], {}, 507, os⟩
noncomputable def o96f93 (b : Bool) (_ : Params) : Obj := sO b 96 3 511 #[1,32,33,34,35,36,37,38,39,40,41,42,43,44,45,46,47,48,49,50,51,52,53,54,55,56,57,58,59,60,61,62,63,64,65,66,67,68,69,70,71,72,73,74,75,76,77,78,79,80,81,82,83,84,85,86,87,88,89,90,91,92,93,94,95,96,97,98,99,100,101,102,103,104,105,106,107,108,109,110,111,112,113,114,115,116,117,118,119,120,121,122,123] #[q313,q319,q320,q321,q322,q323,q324,q325,q326,q327,q328,q329,q330,q331,q332,q333,q334,q335,q336,q337,q338,q339,q340,q341,q342,q343,q344,q345,q346,q347,q348,q349,q350,q351,q352,q353,q354,q355,q356,q357,q358,q359,q360,q361,q362,q363,q364,q365,q366,q367,q368,q369,q370,q371,q372,q373,q374,q375,q376,q377,q378,q379,q380,q381,q382,q383,q384,q385,q386,q387,q388,q389,q390,q391,q392,q393,q394,q395,q396,q397,q398,q399,q400,q401,q402,q403,q404,q405,q406,q407,q408,q409,q410]
noncomputable def Sf93 (b : Bool) (w : World) (os : OsState) : SharedT := ⟨Tfx (o96f93 b w.params) (lI 95 93) w.params, 98, {}, Array.mk [], {}, 508, os⟩
noncomputable def o96f94 (b : Bool) (_ : Params) : Obj := sO b 97 3 511 #[1,32,33,34,35,36,37,38,39,40,41,42,43,44,45,46,47,48,49,50,51,52,53,54,55,56,57,58,59,60,61,62,63,64,65,66,67,68,69,70,71,72,73,74,75,76,77,78,79,80,81,82,83,84,85,86,87,88,89,90,91,92,93,94,95,96,97,98,99,100,101,102,103,104,105,106,107,108,109,110,111,112,113,114,115,116,117,118,119,120,121,122,123,124] #[q313,q319,q320,q321,q322,q323,q324,q325,q326,q327,q328,q329,q330,q331,q332,q333,q334,q335,q336,q337,q338,q339,q340,q341,q342,q343,q344,q345,q346,q347,q348,q349,q350,q351,q352,q353,q354,q355,q356,q357,q358,q359,q360,q361,q362,q363,q364,q365,q366,q367,q368,q369,q370,q371,q372,q373,q374,q375,q376,q377,q378,q379,q380,q381,q382,q383,q384,q385,q386,q387,q388,q389,q390,q391,q392,q393,q394,q395,q396,q397,q398,q399,q400,q401,q402,q403,q404,q405,q406,q407,q408,q409,q410,q411]
noncomputable def Sf94 (b : Bool) (w : World) (os : OsState) : SharedT := ⟨Tfx (o96f94 b w.params) (lI 95 94) w.params, 98, {}, Array.mk [], {}, 509, os⟩
noncomputable def o96f95 (b : Bool) (_ : Params) : Obj := sO b 98 3 511 #[1,32,33,34,35,36,37,38,39,40,41,42,43,44,45,46,47,48,49,50,51,52,53,54,55,56,57,58,59,60,61,62,63,64,65,66,67,68,69,70,71,72,73,74,75,76,77,78,79,80,81,82,83,84,85,86,87,88,89,90,91,92,93,94,95,96,97,98,99,100,101,102,103,104,105,106,107,108,109,110,111,112,113,114,115,116,117,118,119,120,121,122,123,124,125] #[q313,q319,q320,q321,q322,q323,q324,q325,q326,q327,q328,q329,q330,q331,q332,q333,q334,q335,q336,q337,q338,q339,q340,q341,q342,q343,q344,q345,q346,q347,q348,q349,q350,q351,q352,q353,q354,q355,q356,q357,q358,q359,q360,q361,q362,q363,q364,q365,q366,q367,q368,q369,q370,q371,q372,q373,q374,q375,q376,q377,q378,q379,q380,q381,q382,q383,q384,q385,q386,q387,q388,q389,q390,q391,q392,q393,q394,q395,q396,q397,q398,q399,q400,q401,q402,q403,q404,q405,q406,q407,q408,q409,q410,q411,q412]
noncomputable def Sf95 (b : Bool) (w : World) (os : OsState) : SharedT := ⟨Tfx (o96f95 b w.params) (lI 95 95) w.params, 98, {}, Array.mk [], {}, 510, os⟩
noncomputable def o96f96 (b : Bool) (_ : Params) : Obj := sO b 99 3 511 #[1,32,33,34,35,36,37,38,39,40,41,42,43,44,45,46,47,48,49,50,51,52,53,54,55,56,57,58,59,60,61,62,63,64,65,66,67,68,69,70,71,72,73,74,75,76,77,78,79,80,81,82,83,84,85,86,87,88,89,90,91,92,93,94,95,96,97,98,99,100,101,102,103,104,105,106,107,108,109,110,111,112,113,114,115,116,117,118,119,120,121,122,123,124,125,126] #[q313,q319,q320,q321,q322,q323,q324,q325,q326,q327,q328,q329,q330,q331,q332,q333,q334,q335,q336,q337,q338,q339,q340,q341,q342,q343,q344,q345,q346,q347,q348,q349,q350,q351,q352,q353,q354,q355,q356,q357,q358,q359,q360,q361,q362,q363,q364,q365,q366,q367,q368,q369,q370,q371,q372,q373,q374,q375,q376,q377,q378,q379,q380,q381,q382,q383,q384,q385,q386,q387,q388,q389,q390,q391,q392,q393,q394,q395,q396,q397,q398,q399,q400,q401,q402,q403,q404,q405,q406,q407,q408,q409,q410,q411,q412,q413]
noncomputable def Sf96 (b : Bool) (w : World) (os : OsState) : SharedT := ⟨Tfx (o96f96 b w.params) (lI 95 96) w.params, 98, {}, Array.mk [], {}, 511, os⟩
noncomputable def o96f97 (b : Bool) (_ : Params) : Obj := sO b 100 3 511 #[1,32,33,34,35,36,37,38,39,40,41,42,43,44,45,46,47,48,49,50,51,52,53,54,55,56,57,58,59,60,61,62,63,64,65,66,67,68,69,70,71,72,73,74,75,76,77,78,79,80,81,82,83,84,85,86,87,88,89,90,91,92,93,94,95,96,97,98,99,100,101,102,103,104,105,106,107,108,109,110,111,112,113,114,115,116,117,118,119,120,121,122,123,124,125,126,127] #[q313,q319,q320,q321,q322,q323,q324,q325,q326,q327,q328,q329,q330,q331,q332,q333,q334,q335,q336,q337,q338,q339,q340,q341,q342,q343,q344,q345,q346,q347,q348,q349,q350,q351,q352,q353,q354,q355,q356,q357,q358,q359,q360,q361,q362,q363,q364,q365,q366,q367,q368,q369,q370,q371,q372,q373,q374,q375,q376,q377,q378,q379,q380,q381,q382,q383,q384,q385,q386,q387,q388,q389,q390,q391,q392,q393,q394,q395,q396,q397,q398,q399,q400,q401,q402,q403,q404,q405,q406,q407,q408,q409,q410,q411,q412,q413,q414]
noncomputable def Sf97 (b : Bool) (w : World) (os : OsState) : SharedT := ⟨Tfx (o96f97 b w.params) (lI 95 97) w.params, 98, {}, Array.mk [], {}, 512, os⟩
noncomputable def o3f (P : Params) : Obj := { cls := (.type "dict"), dict := none, data := .dict #[⟨PyData.keyHash P (Str.ofString "__name__"), (.str (Str.ofString "__name__") 165), (.str (Str.ofString "cpy313.stringprep") 263)⟩, ⟨PyData.keyHash P (Str.ofString "__doc__"), (.str (Str.ofString "__doc__") 166), .none⟩, ⟨PyData.keyHash P (Str.ofString "__package__"), (.str (Str.ofString "__package__") 167), .none⟩, ⟨PyData.keyHash P (Str.ofString "__loader__"), (.str (Str.ofString "__loader__") 168), (.builtin "__main__.__loader__#opaque")⟩, ⟨PyData.keyHash P (Str.ofString "__spec__"), (.str (Str.ofString "__spec__") 169), .none⟩, ⟨PyData.keyHash P (Str.ofString "__annotations__"), (.str (Str.ofString "__annotations__") 170), (.ref 6)⟩, ⟨PyData.keyHash P (Str.ofString "__builtins__"), (.str (Str.ofString "__builtins__") 171), (.ref 4)⟩, ⟨PyData.keyHash P (Str.ofString "__file__"), (.str (Str.ofString "__file__") 173), (.str (Str.ofString "/claim/cut.py") 172)⟩, ⟨PyData.keyHash P (Str.ofString "__cached__"), (.str (Str.ofString "__cached__") 174), .none⟩, ⟨PyData.keyHash P (Str.ofString "_wall"), (.str (Str.ofString "_wall") 193), (.ref 21)⟩, ⟨PyData.keyHash P (Str.ofString "insort_right"), (.str (Str.ofString "insort_right") 208), (.ref 30)⟩, ⟨PyData.keyHash P (Str.ofString "bisect_right"), (.str (Str.ofString "bisect_right") 222), (.ref 39)⟩, ⟨PyData.keyHash P (Str.ofString "insort_left"), (.str (Str.ofString "insort_left") 235), (.ref 48)⟩, ⟨PyData.keyHash P (Str.ofString "bisect_left"), (.str (Str.ofString "bisect_left") 249), (.ref 57)⟩, ⟨PyData.keyHash P (Str.ofString "restore"), (.str (Str.ofString "restore") 262), (.ref 64)⟩, ⟨PyData.keyHash P (Str.ofString "c8_set"), (.str (Str.ofString "c8_set") 305), (.ref 78)⟩, ⟨PyData.keyHash P (Str.ofString "in_table_c8"), (.str (Str.ofString "in_table_c8") 312), (.ref 88)⟩, ⟨PyData.keyHash P (Str.ofString "c9_set"), (.str (Str.ofString "c9_set") 512), (.ref 96)⟩] 18, slots := #[] }
noncomputable def o89f (P : Params) : Obj := { cls := (.type "list"), dict := none, data := .seq #[(.int 917505 313)] 0, slots := #[] }
noncomputable def o90f (P : Params) : Obj := { cls := (.type "range"), dict := none, data := .fields #[(.int 917536 314), (.int 917632 315), (.int 1 316)], slots := #[] }
noncomputable def o91f (P : Params) : Obj := { cls := (.type "list"), dict := none, data := .seq #[(.int 917536 319), (.int 917537 320), (.int 917538 321), (.int 917539 322), (.int 917540 323), (.int 917541 324), (.int 917542 325), (.int 917543 326), (.int 917544 327), (.int 917545 328), (.int 917546 329), (.int 917547 330), (.int 917548 331), (.int 917549 332), (.int 917550 333), (.int 917551 334), (.int 917552 335), (.int 917553 336), (.int 917554 337), (.int 917555 338), (.int 917556 339), (.int 917557 340), (.int 917558 341), (.int 917559 342), (.int 917560 343), (.int 917561 344), (.int 917562 345), (.int 917563 346), (.int 917564 347), (.int 917565 348), (.int 917566 349), (.int 917567 350), (.int 917568 351), (.int 917569 352), (.int 917570 353), (.int 917571 354), (.int 917572 355), (.int 917573 356), (.int 917574 357), (.int 917575 358), (.int 917576 359), (.int 917577 360), (.int 917578 361), (.int 917579 362), (.int 917580 363), (.int 917581 364), (.int 917582 365), (.int 917583 366), (.int 917584 367), (.int 917585 368), (.int 917586 369), (.int 917587 370), (.int 917588 371), (.int 917589 372), (.int 917590 373), (.int 917591 374), (.int 917592 375), (.int 917593 376), (.int 917594 377), (.int 917595 378), (.int 917596 379), (.int 917597 380), (.int 917598 381), (.int 917599 382), (.int 917600 383), (.int 917601 384), (.int 917602 385), (.int 917603 386), (.int 917604 387), (.int 917605 388), (.int 917606 389), (.int 917607 390), (.int 917608 391), (.int 917609 392), (.int 917610 393), (.int 917611 394), (.int 917612 395), (.int 917613 396), (.int 917614 397), (.int 917615 398), (.int 917616 399), (.int 917617 400), (.int 917618 401), (.int 917619 402), (.int 917620 403), (.int 917621 404), (.int 917622 405), (.int 917623 406), (.int 917624 407), (.int 917625 408), (.int 917626 409), (.int 917627 410), (.int 917628 411), (.int 917629 412), (.int 917630 413), (.int 917631 414)] 98, slots := #[] }
noncomputable def o92f (P : Params) : Obj := { cls := (.type "range_iterator"), dict := none, data := .fields #[(.int 917632 0), (.int 0 0), (.int 1 0)], slots := #[] }
noncomputable def o94f (P : Params) : Obj := { cls := (.type "StopIteration"), dict := none, data := .fields #[(.ref 93), .none, .none, .none, (.bool false), .none], slots := #[] }
noncomputable def o95f (P : Params) : Obj := { cls := (.type "list"), dict := none, data := .seq #[(.int 917505 313), (.int 917536 319), (.int 917537 320), (.int 917538 321), (.int 917539 322), (.int 917540 323), (.int 917541 324), (.int 917542 325), (.int 917543 326), (.int 917544 327), (.int 917545 328), (.int 917546 329), (.int 917547 330), (.int 917548 331), (.int 917549 332), (.int 917550 333), (.int 917551 334), (.int 917552 335), (.int 917553 336), (.int 917554 337), (.int 917555 338), (.int 917556 339), (.int 917557 340), (.int 917558 341), (.int 917559 342), (.int 917560 343), (.int 917561 344), (.int 917562 345), (.int 917563 346), (.int 917564 347), (.int 917565 348), (.int 917566 349), (.int 917567 350), (.int 917568 351), (.int 917569 352), (.int 917570 353), (.int 917571 354), (.int 917572 355), (.int 917573 356), (.int 917574 357), (.int 917575 358), (.int 917576 359), (.int 917577 360), (.int 917578 361), (.int 917579 362), (.int 917580 363), (.int 917581 364), (.int 917582 365), (.int 917583 366), (.int 917584 367), (.int 917585 368), (.int 917586 369), (.int 917587 370), (.int 917588 371), (.int 917589 372), (.int 917590 373), (.int 917591 374), (.int 917592 375), (.int 917593 376), (.int 917594 377), (.int 917595 378), (.int 917596 379), (.int 917597 380), (.int 917598 381), (.int 917599 382), (.int 917600 383), (.int 917601 384), (.int 917602 385), (.int 917603 386), (.int 917604 387), (.int 917605 388), (.int 917606 389), (.int 917607 390), (.int 917608 391), (.int 917609 392), (.int 917610 393), (.int 917611 394), (.int 917612 395), (.int 917613 396), (.int 917614 397), (.int 917615 398), (.int 917616 399), (.int 917617 400), (.int 917618 401), (.int 917619 402), (.int 917620 403), (.int 917621 404), (.int 917622 405), (.int 917623 406), (.int 917624 407), (.int 917625 408), (.int 917626 409), (.int 917627 410), (.int 917628 411), (.int 917629 412), (.int 917630 413), (.int 917631 414)] 0, slots := #[] }
noncomputable def o96f (b : Bool) (_ : Params) : Obj := sO b 100 3 511 #[1,32,33,34,35,36,37,38,39,40,41,42,43,44,45,46,47,48,49,50,51,52,53,54,55,56,57,58,59,60,61,62,63,64,65,66,67,68,69,70,71,72,73,74,75,76,77,78,79,80,81,82,83,84,85,86,87,88,89,90,91,92,93,94,95,96,97,98,99,100,101,102,103,104,105,106,107,108,109,110,111,112,113,114,115,116,117,118,119,120,121,122,123,124,125,126,127] #[q313,q319,q320,q321,q322,q323,q324,q325,q326,q327,q328,q329,q330,q331,q332,q333,q334,q335,q336,q337,q338,q339,q340,q341,q342,q343,q344,q345,q346,q347,q348,q349,q350,q351,q352,q353,q354,q355,q356,q357,q358,q359,q360,q361,q362,q363,q364,q365,q366,q367,q368,q369,q370,q371,q372,q373,q374,q375,q376,q377,q378,q379,q380,q381,q382,q383,q384,q385,q386,q387,q388,q389,q390,q391,q392,q393,q394,q395,q396,q397,q398,q399,q400,q401,q402,q403,q404,q405,q406,q407,q408,q409,q410,q411,q412,q413,q414]
noncomputable def o97f (P : Params) : Obj := { cls := (.type "list_iterator"), dict := none, data := .fields #[.none, (.int 97 0)], slots := #[] }
noncomputable def o98f (P : Params) : Obj := { cls := (.type "tuple"), dict := none, data := .seq #[] 0, slots := #[] }
noncomputable def o99f (P : Params) : Obj := { cls := (.type "StopIteration"), dict := none, data := .fields #[(.ref 98), .none, .none, .none, (.bool false), .none], slots := #[] }
noncomputable def Tf (P : Params) : BT := (.node ((boot_o_0) P) (.node ((boot_o_1) P) (.node ((o3f) P) (.node ((boot_o_7) P) (.node ((o15c) P) (.node ((o31c) P) (.node ((o63c) P) .nil .nil) (.node ((o95f) P) .nil .nil)) (.node ((o47c) P) (.node ((o79d) P) .nil .nil) .nil)) (.node ((o23c) P) (.node ((o39c) P) (.node ((o71d) P) .nil .nil) .nil) (.node ((o55c) P) (.node ((o87e) P) .nil .nil) .nil))) (.node ((o11a) P) (.node ((o19c) P) (.node ((o35c) P) (.node ((o67d) P) .nil .nil) (.node ((o99f) P) .nil .nil)) (.node ((o51c) P) (.node ((o83e) P) .nil .nil) .nil)) (.node ((o27c) P) (.node ((o43c) P) (.node ((o75d0) P) .nil .nil) .nil) (.node ((o59c) P) (.node ((o91f) P) .nil .nil) .nil)))) (.node ((boot_o_5) P) (.node ((boot_o_9) P) (.node ((o17c) P) (.node ((o33c) P) (.node ((o65d) P) .nil .nil) (.node ((o97f) P) .nil .nil)) (.node ((o49c) P) (.node ((o81d) P) .nil .nil) .nil)) (.node ((o25c) P) (.node ((o41c) P) (.node ((o73d) P) .nil .nil) .nil) (.node ((o57c) P) (.node ((o89f) P) .nil .nil) .nil))) (.node ((o13a) P) (.node ((o21c) P) (.node ((o37c) P) (.node ((o69d0) P) .nil .nil) .nil) (.node ((o53c) P) (.node ((o85e) P) .nil .nil) .nil)) (.node ((o29c) P) (.node ((o45c) P) (.node ((o77d) P) .nil .nil) .nil) (.node ((o61c) P) (.node ((o93f0) P) .nil .nil) .nil))))) (.node ((boot_o_2) P) (.node ((boot_o_4) P) (.node ((boot_o_8) P) (.node ((o16c) P) (.node ((o32c) P) (.node ((o64c) P) .nil .nil) (.node ((o96f (!P.followText "set-order")) P) .nil .nil)) (.node ((o48c) P) (.node ((o80d) P) .nil .nil) .nil)) (.node ((o24c) P) (.node ((o40c) P) (.node ((o72d) P) .nil .nil) .nil) (.node ((o56c) P) (.node ((o88e) P) .nil .nil) .nil))) (.node ((o12e) P) (.node ((o20c) P) (.node ((o36c) P) (.node ((o68d) P) .nil .nil) .nil) (.node ((o52c) P) (.node ((o84e) P) .nil .nil) .nil)) (.node ((o28c) P) (.node ((o44c) P) (.node ((o76d) P) .nil .nil) .nil) (.node ((o60c) P) (.node ((o92f) P) .nil .nil) .nil)))) (.node ((boot_o_6) P) (.node ((boot_o_10) P) (.node ((o18c) P) (.node ((o34c) P) (.node ((o66d) P) .nil .nil) (.node ((o98f) P) .nil .nil)) (.node ((o50c) P) (.node ((o82e) P) .nil .nil) .nil)) (.node ((o26c) P) (.node ((o42c) P) (.node ((o74d) P) .nil .nil) .nil) (.node ((o58c) P) (.node ((o90f) P) .nil .nil) .nil))) (.node ((o14a) P) (.node ((o22c) P) (.node ((o38c) P) (.node ((o70d) P) .nil .nil) .nil) (.node ((o54c) P) (.node ((o86e) P) .nil .nil) .nil)) (.node ((o30c) P) (.node ((o46c) P) (.node ((o78d (!P.followText "set-order")) P) .nil .nil) .nil) (.node ((o62c) P) (.node ((o94f) P) .nil .nil) .nil))))))
noncomputable def Sf (w : World) (os : OsState) : SharedT := ⟨Tf w.params, 100, {}, Array.mk [], {}, 513, os⟩
noncomputable def o3g (P : Params) : Obj := { cls := (.type "dict"), dict := none, data := .dict #[⟨PyData.keyHash P (Str.ofString "__name__"), (.str (Str.ofString "__name__") 165), (.str (Str.ofString "cpy313.tabnanny") 520)⟩, ⟨PyData.keyHash P (Str.ofString "__doc__"), (.str (Str.ofString "__doc__") 166), .none⟩, ⟨PyData.keyHash P (Str.ofString "__package__"), (.str (Str.ofString "__package__") 167), .none⟩, ⟨PyData.keyHash P (Str.ofString "__loader__"), (.str (Str.ofString "__loader__") 168), (.builtin "__main__.__loader__#opaque")⟩, ⟨PyData.keyHash P (Str.ofString "__spec__"), (.str (Str.ofString "__spec__") 169), .none⟩, ⟨PyData.keyHash P (Str.ofString "__annotations__"), (.str (Str.ofString "__annotations__") 170), (.ref 6)⟩, ⟨PyData.keyHash P (Str.ofString "__builtins__"), (.str (Str.ofString "__builtins__") 171), (.ref 4)⟩, ⟨PyData.keyHash P (Str.ofString "__file__"), (.str (Str.ofString "__file__") 173), (.str (Str.ofString "/claim/cut.py") 172)⟩, ⟨PyData.keyHash P (Str.ofString "__cached__"), (.str (Str.ofString "__cached__") 174), .none⟩, ⟨PyData.keyHash P (Str.ofString "_wall"), (.str (Str.ofString "_wall") 193), (.ref 21)⟩, ⟨PyData.keyHash P (Str.ofString "insort_right"), (.str (Str.ofString "insort_right") 208), (.ref 30)⟩, ⟨PyData.keyHash P (Str.ofString "bisect_right"), (.str (Str.ofString "bisect_right") 222), (.ref 39)⟩, ⟨PyData.keyHash P (Str.ofString "insort_left"), (.str (Str.ofString "insort_left") 235), (.ref 48)⟩, ⟨PyData.keyHash P (Str.ofString "bisect_left"), (.str (Str.ofString "bisect_left") 249), (.ref 57)⟩, ⟨PyData.keyHash P (Str.ofString "restore"), (.str (Str.ofString "restore") 262), (.ref 64)⟩, ⟨PyData.keyHash P (Str.ofString "c8_set"), (.str (Str.ofString "c8_set") 305), (.ref 78)⟩, ⟨PyData.keyHash P (Str.ofString "in_table_c8"), (.str (Str.ofString "in_table_c8") 312), (.ref 88)⟩, ⟨PyData.keyHash P (Str.ofString "c9_set"), (.str (Str.ofString "c9_set") 512), (.ref 96)⟩, ⟨PyData.keyHash P (Str.ofString "in_table_c9"), (.str (Str.ofString "in_table_c9") 519), (.ref 106)⟩] 19, slots := #[] }
noncomputable def o12g (P : Params) : Obj := { cls := .none, dict := none, data := .fields #[(.int 1 0), (.int 0 0), (.ref 20), (.int 5 0), (.int 0 0), (.ref 29), (.int 11 0), (.int 0 0), (.ref 38), (.int 31 0), (.int 0 0), (.ref 47), (.int 37 0), (.int 0 0), (.ref 56), (.int 58 0), (.int 0 0), (.ref 63), (.int 69 0), (.int 0 0), (.ref 87), (.int 72 0), (.int 0 0), (.ref 105)], slots := #[] }
noncomputable def o100g (P : Params) : Obj := { cls := (.type "tuple"), dict := none, data := .seq #[] 0, slots := #[] }
noncomputable def o101g (P : Params) : Obj := { cls := .none, dict := none, data := .fields #[], slots := #[] }
noncomputable def o102g (P : Params) : Obj := { cls := (.type "tuple"), dict := none, data := .seq #[(.str (Str.ofString "code") 516)] 0, slots := #[] }
noncomputable def o103g (P : Params) : Obj := { cls := (.type "tuple"), dict := none, data := .seq #[] 0, slots := #[] }
noncomputable def o104g (P : Params) : Obj := { cls := .none, dict := none, data := .func { name := (Str.ofString "in_table_c9"), qualname := (Str.ofString "in_table_c9"), params := dParams (stmtAt 12), body := .stmts (dBody (stmtAt 12)), scope := dScope (stmtAt 12), globals := 0, closure := [], defaults := .none, kwdefaults := .none, doc := .none, pyModule := .none, annotations := none, code := .none, closureTuple := .none, builtins := 0 }, slots := #[] }
noncomputable def o105g (P : Params) : Obj := { cls := (.type "code"), dict := none, data := .fields #[(.str (Str.ofString "in_table_c9") 513), (.str (Str.ofString "in_table_c9") 514), (.str (Str.ofString "/claim/cut.py") 515), (.int 72 0), (.int 1 0), (.int 0 0), (.int 0 0), (.int 3 0), (.ref 100), (.bool true), (.int 181 0), (.ref 101), .none, (.ref 102), (.ref 103), (.ref 104), (.int 517 0), (.int 72 0), (.str (Str.ofString "/claim/cut.py") 518)], slots := #[] }
noncomputable def o106g (P : Params) : Obj := { cls := (.type "function"), dict := none, data := .func { name := (Str.ofString "in_table_c9"), qualname := (Str.ofString "in_table_c9"), params := dParams (stmtAt 12), body := .stmts (dBody (stmtAt 12)), scope := dScope (stmtAt 12), globals := 3, closure := [], defaults := .none, kwdefaults := .none, doc := .none, pyModule := (.str (Str.ofString "cpy313.stringprep") 263), annotations := none, code := (.ref 105), closureTuple := .none, builtins := 0 }, slots := #[] }
noncomputable def Tg (P : Params) : BT := (.node ((boot_o_0) P) (.node ((boot_o_1) P) (.node ((o3g) P) (.node ((boot_o_7) P) (.node ((o15c) P) (.node ((o31c) P) (.node ((o63c) P) .nil .nil) (.node ((o95f) P) .nil .nil)) (.node ((o47c) P) (.node ((o79d) P) .nil .nil) .nil)) (.node ((o23c) P) (.node ((o39c) P) (.node ((o71d) P) .nil .nil) (.node ((o103g) P) .nil .nil)) (.node ((o55c) P) (.node ((o87e) P) .nil .nil) .nil))) (.node ((o11a) P) (.node ((o19c) P) (.node ((o35c) P) (.node ((o67d) P) .nil .nil) (.node ((o99f) P) .nil .nil)) (.node ((o51c) P) (.node ((o83e) P) .nil .nil) .nil)) (.node ((o27c) P) (.node ((o43c) P) (.node ((o75d0) P) .nil .nil) .nil) (.node ((o59c) P) (.node ((o91f) P) .nil .nil) .nil)))) (.node ((boot_o_5) P) (.node ((boot_o_9) P) (.node ((o17c) P) (.node ((o33c) P) (.node ((o65d) P) .nil .nil) (.node ((o97f) P) .nil .nil)) (.node ((o49c) P) (.node ((o81d) P) .nil .nil) .nil)) (.node ((o25c) P) (.node ((o41c) P) (.node ((o73d) P) .nil .nil) (.node ((o105g) P) .nil .nil)) (.node ((o57c) P) (.node ((o89f) P) .nil .nil) .nil))) (.node ((o13a) P) (.node ((o21c) P) (.node ((o37c) P) (.node ((o69d0) P) .nil .nil) (.node ((o101g) P) .nil .nil)) (.node ((o53c) P) (.node ((o85e) P) .nil .nil) .nil)) (.node ((o29c) P) (.node ((o45c) P) (.node ((o77d) P) .nil .nil) .nil) (.node ((o61c) P) (.node ((o93f0) P) .nil .nil) .nil))))) (.node ((boot_o_2) P) (.node ((boot_o_4) P) (.node ((boot_o_8) P) (.node ((o16c) P) (.node ((o32c) P) (.node ((o64c) P) .nil .nil) (.node ((o96f (!P.followText "set-order")) P) .nil .nil)) (.node ((o48c) P) (.node ((o80d) P) .nil .nil) .nil)) (.node ((o24c) P) (.node ((o40c) P) (.node ((o72d) P) .nil .nil) (.node ((o104g) P) .nil .nil)) (.node ((o56c) P) (.node ((o88e) P) .nil .nil) .nil))) (.node ((o12g) P) (.node ((o20c) P) (.node ((o36c) P) (.node ((o68d) P) .nil .nil) (.node ((o100g) P) .nil .nil)) (.node ((o52c) P) (.node ((o84e) P) .nil .nil) .nil)) (.node ((o28c) P) (.node ((o44c) P) (.node ((o76d) P) .nil .nil) .nil) (.node ((o60c) P) (.node ((o92f) P) .nil .nil) .nil)))) (.node ((boot_o_6) P) (.node ((boot_o_10) P) (.node ((o18c) P) (.node ((o34c) P) (.node ((o66d) P) .nil .nil) (.node ((o98f) P) .nil .nil)) (.node ((o50c) P) (.node ((o82e) P) .nil .nil) .nil)) (.node ((o26c) P) (.node ((o42c) P) (.node ((o74d) P) .nil .nil) (.node ((o106g) P) .nil .nil)) (.node ((o58c) P) (.node ((o90f) P) .nil .nil) .nil))) (.node ((o14a) P) (.node ((o22c) P) (.node ((o38c) P) (.node ((o70d) P) .nil .nil) (.node ((o102g) P) .nil .nil)) (.node ((o54c) P) (.node ((o86e) P) .nil .nil) .nil)) (.node ((o30c) P) (.node ((o46c) P) (.node ((o78d (!P.followText "set-order")) P) .nil .nil) .nil) (.node ((o62c) P) (.node ((o94f) P) .nil .nil) .nil))))))
noncomputable def Sg (w : World) (os : OsState) : SharedT := ⟨Tg w.params, 107, {}, Array.mk [], {}, 522, os⟩
noncomputable def o3h (P : Params) : Obj := { cls := (.type "dict"), dict := none, data := .dict #[⟨PyData.keyHash P (Str.ofString "__name__"), (.str (Str.ofString "__name__") 165), (.str (Str.ofString "cpy313.tabnanny") 520)⟩, ⟨PyData.keyHash P (Str.ofString "__doc__"), (.str (Str.ofString "__doc__") 166), .none⟩, ⟨PyData.keyHash P (Str.ofString "__package__"), (.str (Str.ofString "__package__") 167), .none⟩, ⟨PyData.keyHash P (Str.ofString "__loader__"), (.str (Str.ofString "__loader__") 168), (.builtin "__main__.__loader__#opaque")⟩, ⟨PyData.keyHash P (Str.ofString "__spec__"), (.str (Str.ofString "__spec__") 169), .none⟩, ⟨PyData.keyHash P (Str.ofString "__annotations__"), (.str (Str.ofString "__annotations__") 170), (.ref 6)⟩, ⟨PyData.keyHash P (Str.ofString "__builtins__"), (.str (Str.ofString "__builtins__") 171), (.ref 4)⟩, ⟨PyData.keyHash P (Str.ofString "__file__"), (.str (Str.ofString "__file__") 173), (.str (Str.ofString "/claim/cut.py") 172)⟩, ⟨PyData.keyHash P (Str.ofString "__cached__"), (.str (Str.ofString "__cached__") 174), .none⟩, ⟨PyData.keyHash P (Str.ofString "_wall"), (.str (Str.ofString "_wall") 193), (.ref 21)⟩, ⟨PyData.keyHash P (Str.ofString "insort_right"), (.str (Str.ofString "insort_right") 208), (.ref 30)⟩, ⟨PyData.keyHash P (Str.ofString "bisect_right"), (.str (Str.ofString "bisect_right") 222), (.ref 39)⟩, ⟨PyData.keyHash P (Str.ofString "insort_left"), (.str (Str.ofString "insort_left") 235), (.ref 48)⟩, ⟨PyData.keyHash P (Str.ofString "bisect_left"), (.str (Str.ofString "bisect_left") 249), (.ref 57)⟩, ⟨PyData.keyHash P (Str.ofString "restore"), (.str (Str.ofString "restore") 262), (.ref 64)⟩, ⟨PyData.keyHash P (Str.ofString "c8_set"), (.str (Str.ofString "c8_set") 305), (.ref 78)⟩, ⟨PyData.keyHash P (Str.ofString "in_table_c8"), (.str (Str.ofString "in_table_c8") 312), (.ref 88)⟩, ⟨PyData.keyHash P (Str.ofString "c9_set"), (.str (Str.ofString "c9_set") 512), (.ref 96)⟩, ⟨PyData.keyHash P (Str.ofString "in_table_c9"), (.str (Str.ofString "in_table_c9") 519), (.ref 106)⟩, ⟨PyData.keyHash P (Str.ofString "Whitespace"), (.str (Str.ofString "Whitespace") 615), (.ref 168)⟩] 20, slots := #[] }
noncomputable def o12h (P : Params) : Obj := { cls := .none, dict := none, data := .fields #[(.int 1 0), (.int 0 0), (.ref 20), (.int 5 0), (.int 0 0), (.ref 29), (.int 11 0), (.int 0 0), (.ref 38), (.int 31 0), (.int 0 0), (.ref 47), (.int 37 0), (.int 0 0), (.ref 56), (.int 58 0), (.int 0 0), (.ref 63), (.int 69 0), (.int 0 0), (.ref 87), (.int 72 0), (.int 0 0), (.ref 105), (.int 75 0), (.int 0 0), (.ref 112)], slots := #[] }
noncomputable def o107h (P : Params) : Obj := { cls := (.type "tuple"), dict := none, data := .seq #[] 0, slots := #[] }
noncomputable def o108h (P : Params) : Obj := { cls := (.type "builtin_function_or_method"), dict := none, data := .fields #[(.builtin "type.__prepare__"), (.type "type")], slots := #[] }
noncomputable def o109h (P : Params) : Obj := { cls := (.type "dict"), dict := none, data := .dict #[⟨PyData.keyHash P (Str.ofString "__module__"), (.str (Str.ofString "__module__") 529), (.str (Str.ofString "cpy313.tabnanny") 520)⟩, ⟨PyData.keyHash P (Str.ofString "__qualname__"), (.str (Str.ofString "__qualname__") 531), (.str (Str.ofString "Whitespace") 530)⟩, ⟨PyData.keyHash P (Str.ofString "__firstlineno__"), (.str (Str.ofString "__firstlineno__") 533), (.int 75 532)⟩, ⟨PyData.keyHash P (Str.ofString "S"), (.str (Str.ofString "S") 537), (.str (Str.ofString " ") 535)⟩, ⟨PyData.keyHash P (Str.ofString "T"), (.str (Str.ofString "T") 538), (.str (Str.ofString "\t") 536)⟩, ⟨PyData.keyHash P (Str.ofString "__init__"), (.str (Str.ofString "__init__") 553), (.ref 123)⟩, ⟨PyData.keyHash P (Str.ofString "longest_run_of_spaces"), (.str (Str.ofString "longest_run_of_spaces") 562), (.ref 130)⟩, ⟨PyData.keyHash P (Str.ofString "indent_level"), (.str (Str.ofString "indent_level") 570), (.ref 137)⟩, ⟨PyData.keyHash P (Str.ofString "equal"), (.str (Str.ofString "equal") 578), (.ref 144)⟩, ⟨PyData.keyHash P (Str.ofString "not_equal_witness"), (.str (Str.ofString "not_equal_witness") 586), (.ref 151)⟩, ⟨PyData.keyHash P (Str.ofString "less"), (.str (Str.ofString "less") 594), (.ref 158)⟩, ⟨PyData.keyHash P (Str.ofString "not_less_witness"), (.str (Str.ofString "not_less_witness") 602), (.ref 165)⟩, ⟨PyData.keyHash P (Str.ofString "__static_attributes__"), (.str (Str.ofString "__static_attributes__") 608), (.ref 166)⟩] 13, slots := #[] }
noncomputable def o110h (P : Params) : Obj := { cls := (.type "tuple"), dict := none, data := .seq #[] 0, slots := #[] }
noncomputable def o111h (P : Params) : Obj := { cls := .none, dict := none, data := .fields #[(.int 78 0), (.int 4 0), (.ref 122), (.int 101 0), (.int 4 0), (.ref 129), (.int 105 0), (.int 4 0), (.ref 136), (.int 108 0), (.int 4 0), (.ref 143), (.int 111 0), (.int 4 0), (.ref 150), (.int 114 0), (.int 4 0), (.ref 157), (.int 117 0), (.int 4 0), (.ref 164)], slots := #[] }
noncomputable def o112h (P : Params) : Obj := { cls := (.type "code"), dict := none, data := .fields #[(.str (Str.ofString "Whitespace") 524), (.str (Str.ofString "Whitespace") 525), (.str (Str.ofString "/claim/cut.py") 526), (.int 75 0), (.int 0 0), (.int 0 0), (.int 0 0), (.int 0 0), (.ref 110), (.bool false), (.int 181 0), (.ref 111), .none, .none, .none, .none, (.int 527 0), (.int 75 0), (.str (Str.ofString "/claim/cut.py") 528)], slots := #[] }
noncomputable def o113h (P : Params) : Obj := { cls := (.type "frame"), dict := none, data := .plain, slots := #[(some (.ref 112)), (some (.ref 3)), (some (.ref 109)), none, (some (.str (Str.ofString "cpy313.tabnanny") 520)), none, (some (.ref 0))] }
noncomputable def o114h (P : Params) : Obj := { cls := (.type "str_ascii_iterator"), dict := none, data := .fields #[.none, (.int 2 0)], slots := #[] }
noncomputable def o115h (P : Params) : Obj := { cls := (.type "tuple"), dict := none, data := .seq #[] 0, slots := #[] }
noncomputable def o116h (P : Params) : Obj := { cls := (.type "StopIteration"), dict := none, data := .fields #[(.ref 115), .none, .none, .none, (.bool false), .none], slots := #[] }
noncomputable def o117h (P : Params) : Obj := { cls := (.type "tuple"), dict := none, data := .seq #[] 0, slots := #[] }
noncomputable def o118h (P : Params) : Obj := { cls := .none, dict := none, data := .fields #[], slots := #[] }
noncomputable def o119h (P : Params) : Obj := { cls := (.type "tuple"), dict := none, data := .seq #[(.str (Str.ofString "self") 542), (.str (Str.ofString "ws") 543), (.str (Str.ofString "S") 544), (.str (Str.ofString "T") 545), (.str (Str.ofString "count") 546), (.str (Str.ofString "b") 547), (.str (Str.ofString "n") 548), (.str (Str.ofString "nt") 549), (.str (Str.ofString "ch") 550)] 0, slots := #[] }
noncomputable def o120h (P : Params) : Obj := { cls := (.type "tuple"), dict := none, data := .seq #[] 0, slots := #[] }
noncomputable def o121h (P : Params) : Obj := { cls := .none, dict := none, data := .func { name := (Str.ofString "__init__"), qualname := (Str.ofString "Whitespace.__init__"), params := dParams (stmtIn 14 1), body := .stmts (dBody (stmtIn 14 1)), scope := dScope (stmtIn 14 1), globals := 0, closure := [], defaults := .none, kwdefaults := .none, doc := .none, pyModule := .none, annotations := none, code := .none, closureTuple := .none, builtins := 0 }, slots := #[] }
noncomputable def o122h (P : Params) : Obj := { cls := (.type "code"), dict := none, data := .fields #[(.str (Str.ofString "__init__") 539), (.str (Str.ofString "Whitespace.__init__") 540), (.str (Str.ofString "/claim/cut.py") 541), (.int 78 0), (.int 2 0), (.int 0 0), (.int 0 0), (.int 3 0), (.ref 117), (.bool true), (.int 181 0), (.ref 118), .none, (.ref 119), (.ref 120), (.ref 121), (.int 551 0), (.int 78 0), (.str (Str.ofString "/claim/cut.py") 552)], slots := #[] }
noncomputable def o123h (P : Params) : Obj := { cls := (.type "function"), dict := none, data := .func { name := (Str.ofString "__init__"), qualname := (Str.ofString "Whitespace.__init__"), params := dParams (stmtIn 14 1), body := .stmts (dBody (stmtIn 14 1)), scope := dScope (stmtIn 14 1), globals := 3, closure := [], defaults := .none, kwdefaults := .none, doc := .none, pyModule := (.str (Str.ofString "cpy313.tabnanny") 520), annotations := none, code := (.ref 122), closureTuple := .none, builtins := 0 }, slots := #[] }
noncomputable def o124h (P : Params) : Obj := { cls := (.type "tuple"), dict := none, data := .seq #[] 0, slots := #[] }
noncomputable def o125h (P : Params) : Obj := { cls := .none, dict := none, data := .fields #[], slots := #[] }
noncomputable def o126h (P : Params) : Obj := { cls := (.type "tuple"), dict := none, data := .seq #[(.str (Str.ofString "self") 557), (.str (Str.ofString "count") 558), (.str (Str.ofString "trailing") 559)] 0, slots := #[] }
noncomputable def o127h (P : Params) : Obj := { cls := (.type "tuple"), dict := none, data := .seq #[] 0, slots := #[] }
noncomputable def o128h (P : Params) : Obj := { cls := .none, dict := none, data := .func { name := (Str.ofString "longest_run_of_spaces"), qualname := (Str.ofString "Whitespace.longest_run_of_spaces"), params := dParams (stmtIn 14 2), body := .stmts (dBody (stmtIn 14 2)), scope := dScope (stmtIn 14 2), globals := 0, closure := [], defaults := .none, kwdefaults := .none, doc := .none, pyModule := .none, annotations := none, code := .none, closureTuple := .none, builtins := 0 }, slots := #[] }
noncomputable def o129h (P : Params) : Obj := { cls := (.type "code"), dict := none, data := .fields #[(.str (Str.ofString "longest_run_of_spaces") 554), (.str (Str.ofString "Whitespace.longest_run_of_spaces") 555), (.str (Str.ofString "/claim/cut.py") 556), (.int 101 0), (.int 1 0), (.int 0 0), (.int 0 0), (.int 3 0), (.ref 124), (.bool true), (.int 181 0), (.ref 125), .none, (.ref 126), (.ref 127), (.ref 128), (.int 560 0), (.int 101 0), (.str (Str.ofString "/claim/cut.py") 561)], slots := #[] }
noncomputable def o130h (P : Params) : Obj := { cls := (.type "function"), dict := none, data := .func { name := (Str.ofString "longest_run_of_spaces"), qualname := (Str.ofString "Whitespace.longest_run_of_spaces"), params := dParams (stmtIn 14 2), body := .stmts (dBody (stmtIn 14 2)), scope := dScope (stmtIn 14 2), globals := 3, closure := [], defaults := .none, kwdefaults := .none, doc := .none, pyModule := (.str (Str.ofString "cpy313.tabnanny") 520), annotations := none, code := (.ref 129), closureTuple := .none, builtins := 0 }, slots := #[] }
noncomputable def o131h (P : Params) : Obj := { cls := (.type "tuple"), dict := none, data := .seq #[] 0, slots := #[] }
noncomputable def o132h (P : Params) : Obj := { cls := .none, dict := none, data := .fields #[], slots := #[] }
noncomputable def o133h (P : Params) : Obj := { cls := (.type "tuple"), dict := none, data := .seq #[(.str (Str.ofString "self") 566), (.str (Str.ofString "tabsize") 567)] 0, slots := #[] }
noncomputable def o134h (P : Params) : Obj := { cls := (.type "tuple"), dict := none, data := .seq #[] 0, slots := #[] }
noncomputable def o135h (P : Params) : Obj := { cls := .none, dict := none, data := .func { name := (Str.ofString "indent_level"), qualname := (Str.ofString "Whitespace.indent_level"), params := dParams (stmtIn 14 3), body := .stmts (dBody (stmtIn 14 3)), scope := dScope (stmtIn 14 3), globals := 0, closure := [], defaults := .none, kwdefaults := .none, doc := .none, pyModule := .none, annotations := none, code := .none, closureTuple := .none, builtins := 0 }, slots := #[] }
noncomputable def o136h (P : Params) : Obj := { cls := (.type "code"), dict := none, data := .fields #[(.str (Str.ofString "indent_level") 563), (.str (Str.ofString "Whitespace.indent_level") 564), (.str (Str.ofString "/claim/cut.py") 565), (.int 105 0), (.int 2 0), (.int 0 0), (.int 0 0), (.int 3 0), (.ref 131), (.bool true), (.int 181 0), (.ref 132), .none, (.ref 133), (.ref 134), (.ref 135), (.int 568 0), (.int 105 0), (.str (Str.ofString "/claim/cut.py") 569)], slots := #[] }
noncomputable def o137h (P : Params) : Obj := { cls := (.type "function"), dict := none, data := .func { name := (Str.ofString "indent_level"), qualname := (Str.ofString "Whitespace.indent_level"), params := dParams (stmtIn 14 3), body := .stmts (dBody (stmtIn 14 3)), scope := dScope (stmtIn 14 3), globals := 3, closure := [], defaults := .none, kwdefaults := .none, doc := .none, pyModule := (.str (Str.ofString "cpy313.tabnanny") 520), annotations := none, code := (.ref 136), closureTuple := .none, builtins := 0 }, slots := #[] }
noncomputable def o138h (P : Params) : Obj := { cls := (.type "tuple"), dict := none, data := .seq #[] 0, slots := #[] }
noncomputable def o139h (P : Params) : Obj := { cls := .none, dict := none, data := .fields #[], slots := #[] }
noncomputable def o140h (P : Params) : Obj := { cls := (.type "tuple"), dict := none, data := .seq #[(.str (Str.ofString "self") 574), (.str (Str.ofString "other") 575)] 0, slots := #[] }
noncomputable def o141h (P : Params) : Obj := { cls := (.type "tuple"), dict := none, data := .seq #[] 0, slots := #[] }
noncomputable def o142h (P : Params) : Obj := { cls := .none, dict := none, data := .func { name := (Str.ofString "equal"), qualname := (Str.ofString "Whitespace.equal"), params := dParams (stmtIn 14 4), body := .stmts (dBody (stmtIn 14 4)), scope := dScope (stmtIn 14 4), globals := 0, closure := [], defaults := .none, kwdefaults := .none, doc := .none, pyModule := .none, annotations := none, code := .none, closureTuple := .none, builtins := 0 }, slots := #[] }
noncomputable def o143h (P : Params) : Obj := { cls := (.type "code"), dict := none, data := .fields #[(.str (Str.ofString "equal") 571), (.str (Str.ofString "Whitespace.equal") 572), (.str (Str.ofString "/claim/cut.py") 573), (.int 108 0), (.int 2 0), (.int 0 0), (.int 0 0), (.int 3 0), (.ref 138), (.bool true), (.int 181 0), (.ref 139), .none, (.ref 140), (.ref 141), (.ref 142), (.int 576 0), (.int 108 0), (.str (Str.ofString "/claim/cut.py") 577)], slots := #[] }
noncomputable def o144h (P : Params) : Obj := { cls := (.type "function"), dict := none, data := .func { name := (Str.ofString "equal"), qualname := (Str.ofString "Whitespace.equal"), params := dParams (stmtIn 14 4), body := .stmts (dBody (stmtIn 14 4)), scope := dScope (stmtIn 14 4), globals := 3, closure := [], defaults := .none, kwdefaults := .none, doc := .none, pyModule := (.str (Str.ofString "cpy313.tabnanny") 520), annotations := none, code := (.ref 143), closureTuple := .none, builtins := 0 }, slots := #[] }
noncomputable def o145h (P : Params) : Obj := { cls := (.type "tuple"), dict := none, data := .seq #[] 0, slots := #[] }
noncomputable def o146h (P : Params) : Obj := { cls := .none, dict := none, data := .fields #[], slots := #[] }
noncomputable def o147h (P : Params) : Obj := { cls := (.type "tuple"), dict := none, data := .seq #[(.str (Str.ofString "self") 582), (.str (Str.ofString "other") 583)] 0, slots := #[] }
noncomputable def o148h (P : Params) : Obj := { cls := (.type "tuple"), dict := none, data := .seq #[] 0, slots := #[] }
noncomputable def o149h (P : Params) : Obj := { cls := .none, dict := none, data := .func { name := (Str.ofString "not_equal_witness"), qualname := (Str.ofString "Whitespace.not_equal_witness"), params := dParams (stmtIn 14 5), body := .stmts (dBody (stmtIn 14 5)), scope := dScope (stmtIn 14 5), globals := 0, closure := [], defaults := .none, kwdefaults := .none, doc := .none, pyModule := .none, annotations := none, code := .none, closureTuple := .none, builtins := 0 }, slots := #[] }
noncomputable def o150h (P : Params) : Obj := { cls := (.type "code"), dict := none, data := .fields #[(.str (Str.ofString "not_equal_witness") 579), (.str (Str.ofString "Whitespace.not_equal_witness") 580), (.str (Str.ofString "/claim/cut.py") 581), (.int 111 0), (.int 2 0), (.int 0 0), (.int 0 0), (.int 3 0), (.ref 145), (.bool true), (.int 181 0), (.ref 146), .none, (.ref 147), (.ref 148), (.ref 149), (.int 584 0), (.int 111 0), (.str (Str.ofString "/claim/cut.py") 585)], slots := #[] }
noncomputable def o151h (P : Params) : Obj := { cls := (.type "function"), dict := none, data := .func { name := (Str.ofString "not_equal_witness"), qualname := (Str.ofString "Whitespace.not_equal_witness"), params := dParams (stmtIn 14 5), body := .stmts (dBody (stmtIn 14 5)), scope := dScope (stmtIn 14 5), globals := 3, closure := [], defaults := .none, kwdefaults := .none, doc := .none, pyModule := (.str (Str.ofString "cpy313.tabnanny") 520), annotations := none, code := (.ref 150), closureTuple := .none, builtins := 0 }, slots := #[] }
noncomputable def o152h (P : Params) : Obj := { cls := (.type "tuple"), dict := none, data := .seq #[] 0, slots := #[] }
noncomputable def o153h (P : Params) : Obj := { cls := .none, dict := none, data := .fields #[], slots := #[] }
noncomputable def o154h (P : Params) : Obj := { cls := (.type "tuple"), dict := none, data := .seq #[(.str (Str.ofString "self") 590), (.str (Str.ofString "other") 591)] 0, slots := #[] }
noncomputable def o155h (P : Params) : Obj := { cls := (.type "tuple"), dict := none, data := .seq #[] 0, slots := #[] }
noncomputable def o156h (P : Params) : Obj := { cls := .none, dict := none, data := .func { name := (Str.ofString "less"), qualname := (Str.ofString "Whitespace.less"), params := dParams (stmtIn 14 6), body := .stmts (dBody (stmtIn 14 6)), scope := dScope (stmtIn 14 6), globals := 0, closure := [], defaults := .none, kwdefaults := .none, doc := .none, pyModule := .none, annotations := none, code := .none, closureTuple := .none, builtins := 0 }, slots := #[] }
noncomputable def o157h (P : Params) : Obj := { cls := (.type "code"), dict := none, data := .fields #[(.str (Str.ofString "less") 587), (.str (Str.ofString "Whitespace.less") 588), (.str (Str.ofString "/claim/cut.py") 589), (.int 114 0), (.int 2 0), (.int 0 0), (.int 0 0), (.int 3 0), (.ref 152), (.bool true), (.int 181 0), (.ref 153), .none, (.ref 154), (.ref 155), (.ref 156), (.int 592 0), (.int 114 0), (.str (Str.ofString "/claim/cut.py") 593)], slots := #[] }
noncomputable def o158h (P : Params) : Obj := { cls := (.type "function"), dict := none, data := .func { name := (Str.ofString "less"), qualname := (Str.ofString "Whitespace.less"), params := dParams (stmtIn 14 6), body := .stmts (dBody (stmtIn 14 6)), scope := dScope (stmtIn 14 6), globals := 3, closure := [], defaults := .none, kwdefaults := .none, doc := .none, pyModule := (.str (Str.ofString "cpy313.tabnanny") 520), annotations := none, code := (.ref 157), closureTuple := .none, builtins := 0 }, slots := #[] }
noncomputable def o159h (P : Params) : Obj := { cls := (.type "tuple"), dict := none, data := .seq #[] 0, slots := #[] }
noncomputable def o160h (P : Params) : Obj := { cls := .none, dict := none, data := .fields #[], slots := #[] }
noncomputable def o161h (P : Params) : Obj := { cls := (.type "tuple"), dict := none, data := .seq #[(.str (Str.ofString "self") 598), (.str (Str.ofString "other") 599)] 0, slots := #[] }
noncomputable def o162h (P : Params) : Obj := { cls := (.type "tuple"), dict := none, data := .seq #[] 0, slots := #[] }
noncomputable def o163h (P : Params) : Obj := { cls := .none, dict := none, data := .func { name := (Str.ofString "not_less_witness"), qualname := (Str.ofString "Whitespace.not_less_witness"), params := dParams (stmtIn 14 7), body := .stmts (dBody (stmtIn 14 7)), scope := dScope (stmtIn 14 7), globals := 0, closure := [], defaults := .none, kwdefaults := .none, doc := .none, pyModule := .none, annotations := none, code := .none, closureTuple := .none, builtins := 0 }, slots := #[] }
noncomputable def o164h (P : Params) : Obj := { cls := (.type "code"), dict := none, data := .fields #[(.str (Str.ofString "not_less_witness") 595), (.str (Str.ofString "Whitespace.not_less_witness") 596), (.str (Str.ofString "/claim/cut.py") 597), (.int 117 0), (.int 2 0), (.int 0 0), (.int 0 0), (.int 3 0), (.ref 159), (.bool true), (.int 181 0), (.ref 160), .none, (.ref 161), (.ref 162), (.ref 163), (.int 600 0), (.int 117 0), (.str (Str.ofString "/claim/cut.py") 601)], slots := #[] }
noncomputable def o165h (P : Params) : Obj := { cls := (.type "function"), dict := none, data := .func { name := (Str.ofString "not_less_witness"), qualname := (Str.ofString "Whitespace.not_less_witness"), params := dParams (stmtIn 14 7), body := .stmts (dBody (stmtIn 14 7)), scope := dScope (stmtIn 14 7), globals := 3, closure := [], defaults := .none, kwdefaults := .none, doc := .none, pyModule := (.str (Str.ofString "cpy313.tabnanny") 520), annotations := none, code := (.ref 164), closureTuple := .none, builtins := 0 }, slots := #[] }
noncomputable def o166h (P : Params) : Obj := { cls := (.type "tuple"), dict := none, data := .seq #[(.str (Str.ofString "is_simple") 603), (.str (Str.ofString "n") 604), (.str (Str.ofString "norm") 605), (.str (Str.ofString "nt") 606), (.str (Str.ofString "raw") 607)] 0, slots := #[] }
noncomputable def o167h (P : Params) : Obj := { cls := (.type "dict"), dict := none, data := .dict #[⟨PyData.keyHash P (Str.ofString "__module__"), (.str (Str.ofString "__module__") 529), (.str (Str.ofString "cpy313.tabnanny") 520)⟩, ⟨PyData.keyHash P (Str.ofString "__firstlineno__"), (.str (Str.ofString "__firstlineno__") 533), (.int 75 532)⟩, ⟨PyData.keyHash P (Str.ofString "S"), (.str (Str.ofString "S") 537), (.str (Str.ofString " ") 535)⟩, ⟨PyData.keyHash P (Str.ofString "T"), (.str (Str.ofString "T") 538), (.str (Str.ofString "\t") 536)⟩, ⟨PyData.keyHash P (Str.ofString "__init__"), (.str (Str.ofString "__init__") 553), (.ref 123)⟩, ⟨PyData.keyHash P (Str.ofString "longest_run_of_spaces"), (.str (Str.ofString "longest_run_of_spaces") 562), (.ref 130)⟩, ⟨PyData.keyHash P (Str.ofString "indent_level"), (.str (Str.ofString "indent_level") 570), (.ref 137)⟩, ⟨PyData.keyHash P (Str.ofString "equal"), (.str (Str.ofString "equal") 578), (.ref 144)⟩, ⟨PyData.keyHash P (Str.ofString "not_equal_witness"), (.str (Str.ofString "not_equal_witness") 586), (.ref 151)⟩, ⟨PyData.keyHash P (Str.ofString "less"), (.str (Str.ofString "less") 594), (.ref 158)⟩, ⟨PyData.keyHash P (Str.ofString "not_less_witness"), (.str (Str.ofString "not_less_witness") 602), (.ref 165)⟩, ⟨PyData.keyHash P (Str.ofString "__static_attributes__"), (.str (Str.ofString "__static_attributes__") 608), (.ref 166)⟩, ⟨PyData.keyHash P (Str.ofString "__dict__"), (.str (Str.ofString "__dict__") 610), (.ref 169)⟩, ⟨PyData.keyHash P (Str.ofString "__weakref__"), (.str (Str.ofString "__weakref__") 612), (.ref 170)⟩, ⟨PyData.keyHash P (Str.ofString "__doc__"), (.str (Str.ofString "__doc__") 613), .none⟩] 4, slots := #[] }
noncomputable def o168h (P : Params) : Obj := { cls := (.type "type"), dict := none, data := .cls { name := (Str.ofString "Whitespace"), bases := [(.type "object")], mro := [(.ref 168), (.type "object")], ns := 167, qualname := (Str.ofString "Whitespace"), hasDict := true, slotNames := [], subclasses := [], abstract := false, collection := none, hasDel := false }, slots := #[none, none, (some (.str (Str.ofString "Whitespace") 522)), (some (.str (Str.ofString "Whitespace") 530)), (some (.builtin "object.__new__")), (some (.bool true))] }
noncomputable def o169h (P : Params) : Obj := { cls := (.type "getset_descriptor"), dict := none, data := .fields #[(.str (Str.ofString "__dict__") 609), (.ref 168), (.builtin "function.__dict__"), (.builtin "function.__dict__#set")], slots := #[] }
noncomputable def o170h (P : Params) : Obj := { cls := (.type "getset_descriptor"), dict := none, data := .fields #[(.str (Str.ofString "__weakref__") 611), (.ref 168), (.builtin "ExceptionGroup.__weakref__"), .none], slots := #[] }
noncomputable def o171h (P : Params) : Obj := { cls := (.type "super"), dict := none, data := .fields #[(.ref 168), (.ref 168), (.ref 168)], slots := #[] }
noncomputable def o172h (P : Params) : Obj := { cls := (.type "builtin_function_or_method"), dict := none, data := .fields #[(.builtin "object.__init_subclass__"), (.ref 168)], slots := #[] }
noncomputable def Th (P : Params) : BT := (.node ((boot_o_0) P) (.node ((boot_o_1) P) (.node ((o3h) P) (.node ((boot_o_7) P) (.node ((o15c) P) (.node ((o31c) P) (.node ((o63c) P) (.node ((o127h) P) .nil .nil) .nil) (.node ((o95f) P) (.node ((o159h) P) .nil .nil) .nil)) (.node ((o47c) P) (.node ((o79d) P) (.node ((o143h) P) .nil .nil) .nil) (.node ((o111h) P) .nil .nil))) (.node ((o23c) P) (.node ((o39c) P) (.node ((o71d) P) (.node ((o135h) P) .nil .nil) .nil) (.node ((o103g) P) (.node ((o167h) P) .nil .nil) .nil)) (.node ((o55c) P) (.node ((o87e) P) (.node ((o151h) P) .nil .nil) .nil) (.node ((o119h) P) .nil .nil)))) (.node ((o11a) P) (.node ((o19c) P) (.node ((o35c) P) (.node ((o67d) P) (.node ((o131h) P) .nil .nil) .nil) (.node ((o99f) P) (.node ((o163h) P) .nil .nil) .nil)) (.node ((o51c) P) (.node ((o83e) P) (.node ((o147h) P) .nil .nil) .nil) (.node ((o115h) P) .nil .nil))) (.node ((o27c) P) (.node ((o43c) P) (.node ((o75d0) P) (.node ((o139h) P) .nil .nil) .nil) (.node ((o107h) P) (.node ((o171h) P) .nil .nil) .nil)) (.node ((o59c) P) (.node ((o91f) P) (.node ((o155h) P) .nil .nil) .nil) (.node ((o123h) P) .nil .nil))))) (.node ((boot_o_5) P) (.node ((boot_o_9) P) (.node ((o17c) P) (.node ((o33c) P) (.node ((o65d) P) (.node ((o129h) P) .nil .nil) .nil) (.node ((o97f) P) (.node ((o161h) P) .nil .nil) .nil)) (.node ((o49c) P) (.node ((o81d) P) (.node ((o145h) P) .nil .nil) .nil) (.node ((o113h) P) .nil .nil))) (.node ((o25c) P) (.node ((o41c) P) (.node ((o73d) P) (.node ((o137h) P) .nil .nil) .nil) (.node ((o105g) P) (.node ((o169h) P) .nil .nil) .nil)) (.node ((o57c) P) (.node ((o89f) P) (.node ((o153h) P) .nil .nil) .nil) (.node ((o121h) P) .nil .nil)))) (.node ((o13a) P) (.node ((o21c) P) (.node ((o37c) P) (.node ((o69d0) P) (.node ((o133h) P) .nil .nil) .nil) (.node ((o101g) P) (.node ((o165h) P) .nil .nil) .nil)) (.node ((o53c) P) (.node ((o85e) P) (.node ((o149h) P) .nil .nil) .nil) (.node ((o117h) P) .nil .nil))) (.node ((o29c) P) (.node ((o45c) P) (.node ((o77d) P) (.node ((o141h) P) .nil .nil) .nil) (.node ((o109h) P) .nil .nil)) (.node ((o61c) P) (.node ((o93f0) P) (.node ((o157h) P) .nil .nil) .nil) (.node ((o125h) P) .nil .nil)))))) (.node ((boot_o_2) P) (.node ((boot_o_4) P) (.node ((boot_o_8) P) (.node ((o16c) P) (.node ((o32c) P) (.node ((o64c) P) (.node ((o128h) P) .nil .nil) .nil) (.node ((o96f (!P.followText "set-order")) P) (.node ((o160h) P) .nil .nil) .nil)) (.node ((o48c) P) (.node ((o80d) P) (.node ((o144h) P) .nil .nil) .nil) (.node ((o112h) P) .nil .nil))) (.node ((o24c) P) (.node ((o40c) P) (.node ((o72d) P) (.node ((o136h) P) .nil .nil) .nil) (.node ((o104g) P) (.node ((o168h) P) .nil .nil) .nil)) (.node ((o56c) P) (.node ((o88e) P) (.node ((o152h) P) .nil .nil) .nil) (.node ((o120h) P) .nil .nil)))) (.node ((o12h) P) (.node ((o20c) P) (.node ((o36c) P) (.node ((o68d) P) (.node ((o132h) P) .nil .nil) .nil) (.node ((o100g) P) (.node ((o164h) P) .nil .nil) .nil)) (.node ((o52c) P) (.node ((o84e) P) (.node ((o148h) P) .nil .nil) .nil) (.node ((o116h) P) .nil .nil))) (.node ((o28c) P) (.node ((o44c) P) (.node ((o76d) P) (.node ((o140h) P) .nil .nil) .nil) (.node ((o108h) P) (.node ((o172h) P) .nil .nil) .nil)) (.node ((o60c) P) (.node ((o92f) P) (.node ((o156h) P) .nil .nil) .nil) (.node ((o124h) P) .nil .nil))))) (.node ((boot_o_6) P) (.node ((boot_o_10) P) (.node ((o18c) P) (.node ((o34c) P) (.node ((o66d) P) (.node ((o130h) P) .nil .nil) .nil) (.node ((o98f) P) (.node ((o162h) P) .nil .nil) .nil)) (.node ((o50c) P) (.node ((o82e) P) (.node ((o146h) P) .nil .nil) .nil) (.node ((o114h) P) .nil .nil))) (.node ((o26c) P) (.node ((o42c) P) (.node ((o74d) P) (.node ((o138h) P) .nil .nil) .nil) (.node ((o106g) P) (.node ((o170h) P) .nil .nil) .nil)) (.node ((o58c) P) (.node ((o90f) P) (.node ((o154h) P) .nil .nil) .nil) (.node ((o122h) P) .nil .nil)))) (.node ((o14a) P) (.node ((o22c) P) (.node ((o38c) P) (.node ((o70d) P) (.node ((o134h) P) .nil .nil) .nil) (.node ((o102g) P) (.node ((o166h) P) .nil .nil) .nil)) (.node ((o54c) P) (.node ((o86e) P) (.node ((o150h) P) .nil .nil) .nil) (.node ((o118h) P) .nil .nil))) (.node ((o30c) P) (.node ((o46c) P) (.node ((o78d (!P.followText "set-order")) P) (.node ((o142h) P) .nil .nil) .nil) (.node ((o110h) P) .nil .nil)) (.node ((o62c) P) (.node ((o94f) P) (.node ((o158h) P) .nil .nil) .nil) (.node ((o126h) P) .nil .nil)))))))
noncomputable def Sh (w : World) (os : OsState) : SharedT := ⟨Th w.params, 173, {}, Array.mk [], {}, 616, os⟩
noncomputable def o3i (P : Params) : Obj := { cls := (.type "dict"), dict := none, data := .dict #[⟨PyData.keyHash P (Str.ofString "__name__"), (.str (Str.ofString "__name__") 165), (.str (Str.ofString "law_wy0036_01") 616)⟩, ⟨PyData.keyHash P (Str.ofString "__doc__"), (.str (Str.ofString "__doc__") 166), .none⟩, ⟨PyData.keyHash P (Str.ofString "__package__"), (.str (Str.ofString "__package__") 167), .none⟩, ⟨PyData.keyHash P (Str.ofString "__loader__"), (.str (Str.ofString "__loader__") 168), (.builtin "__main__.__loader__#opaque")⟩, ⟨PyData.keyHash P (Str.ofString "__spec__"), (.str (Str.ofString "__spec__") 169), .none⟩, ⟨PyData.keyHash P (Str.ofString "__annotations__"), (.str (Str.ofString "__annotations__") 170), (.ref 6)⟩, ⟨PyData.keyHash P (Str.ofString "__builtins__"), (.str (Str.ofString "__builtins__") 171), (.ref 4)⟩, ⟨PyData.keyHash P (Str.ofString "__file__"), (.str (Str.ofString "__file__") 173), (.str (Str.ofString "/claim/cut.py") 172)⟩, ⟨PyData.keyHash P (Str.ofString "__cached__"), (.str (Str.ofString "__cached__") 174), .none⟩, ⟨PyData.keyHash P (Str.ofString "_wall"), (.str (Str.ofString "_wall") 193), (.ref 21)⟩, ⟨PyData.keyHash P (Str.ofString "insort_right"), (.str (Str.ofString "insort_right") 208), (.ref 30)⟩, ⟨PyData.keyHash P (Str.ofString "bisect_right"), (.str (Str.ofString "bisect_right") 222), (.ref 39)⟩, ⟨PyData.keyHash P (Str.ofString "insort_left"), (.str (Str.ofString "insort_left") 235), (.ref 48)⟩, ⟨PyData.keyHash P (Str.ofString "bisect_left"), (.str (Str.ofString "bisect_left") 249), (.ref 57)⟩, ⟨PyData.keyHash P (Str.ofString "restore"), (.str (Str.ofString "restore") 262), (.ref 64)⟩, ⟨PyData.keyHash P (Str.ofString "c8_set"), (.str (Str.ofString "c8_set") 305), (.ref 78)⟩, ⟨PyData.keyHash P (Str.ofString "in_table_c8"), (.str (Str.ofString "in_table_c8") 312), (.ref 88)⟩, ⟨PyData.keyHash P (Str.ofString "c9_set"), (.str (Str.ofString "c9_set") 512), (.ref 96)⟩, ⟨PyData.keyHash P (Str.ofString "in_table_c9"), (.str (Str.ofString "in_table_c9") 519), (.ref 106)⟩, ⟨PyData.keyHash P (Str.ofString "Whitespace"), (.str (Str.ofString "Whitespace") 615), (.ref 168)⟩, ⟨PyData.keyHash P (Str.ofString "_law_games"), (.str (Str.ofString "_law_games") 623), (.ref 179)⟩, ⟨PyData.keyHash P (Str.ofString "_law_signs"), (.str (Str.ofString "_law_signs") 629), (.ref 184)⟩, ⟨PyData.keyHash P (Str.ofString "_law_drawn"), (.str (Str.ofString "_law_drawn") 646), (.ref 191)⟩, ⟨PyData.keyHash P (Str.ofString "_law_read"), (.str (Str.ofString "_law_read") 658), (.ref 198)⟩, ⟨PyData.keyHash P (Str.ofString "_law_sides"), (.str (Str.ofString "_law_sides") 664), (.ref 203)⟩, ⟨PyData.keyHash P (Str.ofString "_law_rows"), (.str (Str.ofString "_law_rows") 670), (.ref 208)⟩, ⟨PyData.keyHash P (Str.ofString "_law_by_wins"), (.str (Str.ofString "_law_by_wins") 676), (.ref 213)⟩, ⟨PyData.keyHash P (Str.ofString "_law_ends"), (.str (Str.ofString "_law_ends") 687), (.ref 220)⟩, ⟨PyData.keyHash P (Str.ofString "law"), (.str (Str.ofString "law") 693), (.ref 225)⟩] 29, slots := #[] }
noncomputable def o12i (P : Params) : Obj := { cls := .none, dict := none, data := .fields #[(.int 1 0), (.int 0 0), (.ref 20), (.int 5 0), (.int 0 0), (.ref 29), (.int 11 0), (.int 0 0), (.ref 38), (.int 31 0), (.int 0 0), (.ref 47), (.int 37 0), (.int 0 0), (.ref 56), (.int 58 0), (.int 0 0), (.ref 63), (.int 69 0), (.int 0 0), (.ref 87), (.int 72 0), (.int 0 0), (.ref 105), (.int 75 0), (.int 0 0), (.ref 112), (.int 120 0), (.int 0 0), (.ref 178), (.int 122 0), (.int 0 0), (.ref 183), (.int 124 0), (.int 0 0), (.ref 190), (.int 142 0), (.int 0 0), (.ref 197), (.int 154 0), (.int 0 0), (.ref 202), (.int 161 0), (.int 0 0), (.ref 207), (.int 176 0), (.int 0 0), (.ref 212), (.int 184 0), (.int 0 0), (.ref 219), (.int 192 0), (.int 0 0), (.ref 224)], slots := #[] }
noncomputable def o173i (P : Params) : Obj := { cls := (.type "tuple"), dict := none, data := .seq #[] 0, slots := #[] }
noncomputable def o174i (P : Params) : Obj := { cls := .none, dict := none, data := .fields #[], slots := #[] }
noncomputable def o175i (P : Params) : Obj := { cls := (.type "tuple"), dict := none, data := .seq #[] 0, slots := #[] }
noncomputable def o176i (P : Params) : Obj := { cls := (.type "tuple"), dict := none, data := .seq #[] 0, slots := #[] }
noncomputable def o177i (P : Params) : Obj := { cls := .none, dict := none, data := .func { name := (Str.ofString "_law_games"), qualname := (Str.ofString "_law_games"), params := dParams (stmtAt 16), body := .stmts (dBody (stmtAt 16)), scope := dScope (stmtAt 16), globals := 0, closure := [], defaults := .none, kwdefaults := .none, doc := .none, pyModule := .none, annotations := none, code := .none, closureTuple := .none, builtins := 0 }, slots := #[] }
noncomputable def o178i (P : Params) : Obj := { cls := (.type "code"), dict := none, data := .fields #[(.str (Str.ofString "_law_games") 618), (.str (Str.ofString "_law_games") 619), (.str (Str.ofString "/claim/cut.py") 620), (.int 120 0), (.int 0 0), (.int 0 0), (.int 0 0), (.int 3 0), (.ref 173), (.bool true), (.int 181 0), (.ref 174), .none, (.ref 175), (.ref 176), (.ref 177), (.int 621 0), (.int 120 0), (.str (Str.ofString "/claim/cut.py") 622)], slots := #[] }
noncomputable def o179i (P : Params) : Obj := { cls := (.type "function"), dict := none, data := .func { name := (Str.ofString "_law_games"), qualname := (Str.ofString "_law_games"), params := dParams (stmtAt 16), body := .stmts (dBody (stmtAt 16)), scope := dScope (stmtAt 16), globals := 3, closure := [], defaults := .none, kwdefaults := .none, doc := .none, pyModule := (.str (Str.ofString "law_wy0036_01") 616), annotations := none, code := (.ref 178), closureTuple := .none, builtins := 0 }, slots := #[] }
noncomputable def o180i (P : Params) : Obj := { cls := (.type "tuple"), dict := none, data := .seq #[] 0, slots := #[] }
noncomputable def o181i (P : Params) : Obj := { cls := .none, dict := none, data := .fields #[], slots := #[] }
noncomputable def o182i (P : Params) : Obj := { cls := .none, dict := none, data := .func { name := (Str.ofString "_law_signs"), qualname := (Str.ofString "_law_signs"), params := dParams (stmtAt 17), body := .stmts (dBody (stmtAt 17)), scope := dScope (stmtAt 17), globals := 0, closure := [], defaults := .none, kwdefaults := .none, doc := .none, pyModule := .none, annotations := none, code := .none, closureTuple := .none, builtins := 0 }, slots := #[] }
noncomputable def o183i (P : Params) : Obj := { cls := (.type "code"), dict := none, data := .fields #[(.str (Str.ofString "_law_signs") 624), (.str (Str.ofString "_law_signs") 625), (.str (Str.ofString "/claim/cut.py") 626), (.int 122 0), (.int 1 0), (.int 0 0), (.int 0 0), (.int 3 0), (.ref 180), (.bool true), (.int 181 0), (.ref 181), .none, .none, .none, (.ref 182), (.int 627 0), (.int 122 0), (.str (Str.ofString "/claim/cut.py") 628)], slots := #[] }
noncomputable def o184i (P : Params) : Obj := { cls := (.type "function"), dict := none, data := .func { name := (Str.ofString "_law_signs"), qualname := (Str.ofString "_law_signs"), params := dParams (stmtAt 17), body := .stmts (dBody (stmtAt 17)), scope := dScope (stmtAt 17), globals := 3, closure := [], defaults := .none, kwdefaults := .none, doc := .none, pyModule := (.str (Str.ofString "law_wy0036_01") 616), annotations := none, code := (.ref 183), closureTuple := .none, builtins := 0 }, slots := #[] }
noncomputable def o185i (P : Params) : Obj := { cls := (.type "tuple"), dict := none, data := .seq #[] 0, slots := #[] }
noncomputable def o186i (P : Params) : Obj := { cls := .none, dict := none, data := .fields #[], slots := #[] }
noncomputable def o187i (P : Params) : Obj := { cls := (.type "tuple"), dict := none, data := .seq #[(.str (Str.ofString "script") 633), (.str (Str.ofString "firsts") 634), (.str (Str.ofString "moving") 635), (.str (Str.ofString "tagging") 636), (.str (Str.ofString "beside") 637), (.str (Str.ofString "page") 638), (.str (Str.ofString "wins") 639), (.str (Str.ofString "place") 640), (.str (Str.ofString "game") 641), (.str (Str.ofString "cell") 642), (.str (Str.ofString "half") 643)] 0, slots := #[] }
noncomputable def o188i (P : Params) : Obj := { cls := (.type "tuple"), dict := none, data := .seq #[] 0, slots := #[] }
noncomputable def o189i (P : Params) : Obj := { cls := .none, dict := none, data := .func { name := (Str.ofString "_law_drawn"), qualname := (Str.ofString "_law_drawn"), params := dParams (stmtAt 18), body := .stmts (dBody (stmtAt 18)), scope := dScope (stmtAt 18), globals := 0, closure := [], defaults := .none, kwdefaults := .none, doc := .none, pyModule := .none, annotations := none, code := .none, closureTuple := .none, builtins := 0 }, slots := #[] }
noncomputable def o190i (P : Params) : Obj := { cls := (.type "code"), dict := none, data := .fields #[(.str (Str.ofString "_law_drawn") 630), (.str (Str.ofString "_law_drawn") 631), (.str (Str.ofString "/claim/cut.py") 632), (.int 124 0), (.int 1 0), (.int 0 0), (.int 0 0), (.int 3 0), (.ref 185), (.bool true), (.int 181 0), (.ref 186), .none, (.ref 187), (.ref 188), (.ref 189), (.int 644 0), (.int 124 0), (.str (Str.ofString "/claim/cut.py") 645)], slots := #[] }
noncomputable def o191i (P : Params) : Obj := { cls := (.type "function"), dict := none, data := .func { name := (Str.ofString "_law_drawn"), qualname := (Str.ofString "_law_drawn"), params := dParams (stmtAt 18), body := .stmts (dBody (stmtAt 18)), scope := dScope (stmtAt 18), globals := 3, closure := [], defaults := .none, kwdefaults := .none, doc := .none, pyModule := (.str (Str.ofString "law_wy0036_01") 616), annotations := none, code := (.ref 190), closureTuple := .none, builtins := 0 }, slots := #[] }
noncomputable def o192i (P : Params) : Obj := { cls := (.type "tuple"), dict := none, data := .seq #[] 0, slots := #[] }
noncomputable def o193i (P : Params) : Obj := { cls := .none, dict := none, data := .fields #[], slots := #[] }
noncomputable def o194i (P : Params) : Obj := { cls := (.type "tuple"), dict := none, data := .seq #[(.str (Str.ofString "page") 650), (.str (Str.ofString "wins") 651), (.str (Str.ofString "sign") 652), (.str (Str.ofString "first") 653), (.str (Str.ofString "second") 654), (.str (Str.ofString "game") 655)] 0, slots := #[] }
noncomputable def o195i (P : Params) : Obj := { cls := (.type "tuple"), dict := none, data := .seq #[] 0, slots := #[] }
noncomputable def o196i (P : Params) : Obj := { cls := .none, dict := none, data := .func { name := (Str.ofString "_law_read"), qualname := (Str.ofString "_law_read"), params := dParams (stmtAt 19), body := .stmts (dBody (stmtAt 19)), scope := dScope (stmtAt 19), globals := 0, closure := [], defaults := .none, kwdefaults := .none, doc := .none, pyModule := .none, annotations := none, code := .none, closureTuple := .none, builtins := 0 }, slots := #[] }
noncomputable def o197i (P : Params) : Obj := { cls := (.type "code"), dict := none, data := .fields #[(.str (Str.ofString "_law_read") 647), (.str (Str.ofString "_law_read") 648), (.str (Str.ofString "/claim/cut.py") 649), (.int 142 0), (.int 1 0), (.int 0 0), (.int 0 0), (.int 3 0), (.ref 192), (.bool true), (.int 181 0), (.ref 193), .none, (.ref 194), (.ref 195), (.ref 196), (.int 656 0), (.int 142 0), (.str (Str.ofString "/claim/cut.py") 657)], slots := #[] }
noncomputable def o198i (P : Params) : Obj := { cls := (.type "function"), dict := none, data := .func { name := (Str.ofString "_law_read"), qualname := (Str.ofString "_law_read"), params := dParams (stmtAt 19), body := .stmts (dBody (stmtAt 19)), scope := dScope (stmtAt 19), globals := 3, closure := [], defaults := .none, kwdefaults := .none, doc := .none, pyModule := (.str (Str.ofString "law_wy0036_01") 616), annotations := none, code := (.ref 197), closureTuple := .none, builtins := 0 }, slots := #[] }
noncomputable def o199i (P : Params) : Obj := { cls := (.type "tuple"), dict := none, data := .seq #[] 0, slots := #[] }
noncomputable def o200i (P : Params) : Obj := { cls := .none, dict := none, data := .fields #[], slots := #[] }
noncomputable def o201i (P : Params) : Obj := { cls := .none, dict := none, data := .func { name := (Str.ofString "_law_sides"), qualname := (Str.ofString "_law_sides"), params := dParams (stmtAt 20), body := .stmts (dBody (stmtAt 20)), scope := dScope (stmtAt 20), globals := 0, closure := [], defaults := .none, kwdefaults := .none, doc := .none, pyModule := .none, annotations := none, code := .none, closureTuple := .none, builtins := 0 }, slots := #[] }
noncomputable def o202i (P : Params) : Obj := { cls := (.type "code"), dict := none, data := .fields #[(.str (Str.ofString "_law_sides") 659), (.str (Str.ofString "_law_sides") 660), (.str (Str.ofString "/claim/cut.py") 661), (.int 154 0), (.int 2 0), (.int 0 0), (.int 0 0), (.int 3 0), (.ref 199), (.bool true), (.int 181 0), (.ref 200), .none, .none, .none, (.ref 201), (.int 662 0), (.int 154 0), (.str (Str.ofString "/claim/cut.py") 663)], slots := #[] }
noncomputable def o203i (P : Params) : Obj := { cls := (.type "function"), dict := none, data := .func { name := (Str.ofString "_law_sides"), qualname := (Str.ofString "_law_sides"), params := dParams (stmtAt 20), body := .stmts (dBody (stmtAt 20)), scope := dScope (stmtAt 20), globals := 3, closure := [], defaults := .none, kwdefaults := .none, doc := .none, pyModule := (.str (Str.ofString "law_wy0036_01") 616), annotations := none, code := (.ref 202), closureTuple := .none, builtins := 0 }, slots := #[] }
noncomputable def o204i (P : Params) : Obj := { cls := (.type "tuple"), dict := none, data := .seq #[] 0, slots := #[] }
noncomputable def o205i (P : Params) : Obj := { cls := .none, dict := none, data := .fields #[], slots := #[] }
noncomputable def o206i (P : Params) : Obj := { cls := .none, dict := none, data := .func { name := (Str.ofString "_law_rows"), qualname := (Str.ofString "_law_rows"), params := dParams (stmtAt 21), body := .stmts (dBody (stmtAt 21)), scope := dScope (stmtAt 21), globals := 0, closure := [], defaults := .none, kwdefaults := .none, doc := .none, pyModule := .none, annotations := none, code := .none, closureTuple := .none, builtins := 0 }, slots := #[] }
noncomputable def o207i (P : Params) : Obj := { cls := (.type "code"), dict := none, data := .fields #[(.str (Str.ofString "_law_rows") 665), (.str (Str.ofString "_law_rows") 666), (.str (Str.ofString "/claim/cut.py") 667), (.int 161 0), (.int 1 0), (.int 0 0), (.int 0 0), (.int 3 0), (.ref 204), (.bool true), (.int 181 0), (.ref 205), .none, .none, .none, (.ref 206), (.int 668 0), (.int 161 0), (.str (Str.ofString "/claim/cut.py") 669)], slots := #[] }
noncomputable def o208i (P : Params) : Obj := { cls := (.type "function"), dict := none, data := .func { name := (Str.ofString "_law_rows"), qualname := (Str.ofString "_law_rows"), params := dParams (stmtAt 21), body := .stmts (dBody (stmtAt 21)), scope := dScope (stmtAt 21), globals := 3, closure := [], defaults := .none, kwdefaults := .none, doc := .none, pyModule := (.str (Str.ofString "law_wy0036_01") 616), annotations := none, code := (.ref 207), closureTuple := .none, builtins := 0 }, slots := #[] }
noncomputable def o209i (P : Params) : Obj := { cls := (.type "tuple"), dict := none, data := .seq #[] 0, slots := #[] }
noncomputable def o210i (P : Params) : Obj := { cls := .none, dict := none, data := .fields #[], slots := #[] }
noncomputable def o211i (P : Params) : Obj := { cls := .none, dict := none, data := .func { name := (Str.ofString "_law_by_wins"), qualname := (Str.ofString "_law_by_wins"), params := dParams (stmtAt 22), body := .stmts (dBody (stmtAt 22)), scope := dScope (stmtAt 22), globals := 0, closure := [], defaults := .none, kwdefaults := .none, doc := .none, pyModule := .none, annotations := none, code := .none, closureTuple := .none, builtins := 0 }, slots := #[] }
noncomputable def o212i (P : Params) : Obj := { cls := (.type "code"), dict := none, data := .fields #[(.str (Str.ofString "_law_by_wins") 671), (.str (Str.ofString "_law_by_wins") 672), (.str (Str.ofString "/claim/cut.py") 673), (.int 176 0), (.int 5 0), (.int 0 0), (.int 0 0), (.int 3 0), (.ref 209), (.bool true), (.int 181 0), (.ref 210), .none, .none, .none, (.ref 211), (.int 674 0), (.int 176 0), (.str (Str.ofString "/claim/cut.py") 675)], slots := #[] }
noncomputable def o213i (P : Params) : Obj := { cls := (.type "function"), dict := none, data := .func { name := (Str.ofString "_law_by_wins"), qualname := (Str.ofString "_law_by_wins"), params := dParams (stmtAt 22), body := .stmts (dBody (stmtAt 22)), scope := dScope (stmtAt 22), globals := 3, closure := [], defaults := .none, kwdefaults := .none, doc := .none, pyModule := (.str (Str.ofString "law_wy0036_01") 616), annotations := none, code := (.ref 212), closureTuple := .none, builtins := 0 }, slots := #[] }
noncomputable def o214i (P : Params) : Obj := { cls := (.type "tuple"), dict := none, data := .seq #[] 0, slots := #[] }
noncomputable def o215i (P : Params) : Obj := { cls := .none, dict := none, data := .fields #[], slots := #[] }
noncomputable def o216i (P : Params) : Obj := { cls := (.type "tuple"), dict := none, data := .seq #[(.str (Str.ofString "last") 680), (.str (Str.ofString "rest") 681), (.str (Str.ofString "wins") 682), (.str (Str.ofString "ends") 683), (.str (Str.ofString "name") 684)] 0, slots := #[] }
noncomputable def o217i (P : Params) : Obj := { cls := (.type "tuple"), dict := none, data := .seq #[] 0, slots := #[] }
noncomputable def o218i (P : Params) : Obj := { cls := .none, dict := none, data := .func { name := (Str.ofString "_law_ends"), qualname := (Str.ofString "_law_ends"), params := dParams (stmtAt 23), body := .stmts (dBody (stmtAt 23)), scope := dScope (stmtAt 23), globals := 0, closure := [], defaults := .none, kwdefaults := .none, doc := .none, pyModule := .none, annotations := none, code := .none, closureTuple := .none, builtins := 0 }, slots := #[] }
noncomputable def o219i (P : Params) : Obj := { cls := (.type "code"), dict := none, data := .fields #[(.str (Str.ofString "_law_ends") 677), (.str (Str.ofString "_law_ends") 678), (.str (Str.ofString "/claim/cut.py") 679), (.int 184 0), (.int 3 0), (.int 0 0), (.int 0 0), (.int 3 0), (.ref 214), (.bool true), (.int 181 0), (.ref 215), .none, (.ref 216), (.ref 217), (.ref 218), (.int 685 0), (.int 184 0), (.str (Str.ofString "/claim/cut.py") 686)], slots := #[] }
noncomputable def o220i (P : Params) : Obj := { cls := (.type "function"), dict := none, data := .func { name := (Str.ofString "_law_ends"), qualname := (Str.ofString "_law_ends"), params := dParams (stmtAt 23), body := .stmts (dBody (stmtAt 23)), scope := dScope (stmtAt 23), globals := 3, closure := [], defaults := .none, kwdefaults := .none, doc := .none, pyModule := (.str (Str.ofString "law_wy0036_01") 616), annotations := none, code := (.ref 219), closureTuple := .none, builtins := 0 }, slots := #[] }
noncomputable def o221i (P : Params) : Obj := { cls := (.type "tuple"), dict := none, data := .seq #[] 0, slots := #[] }
noncomputable def o222i (P : Params) : Obj := { cls := .none, dict := none, data := .fields #[], slots := #[] }
noncomputable def o223i (P : Params) : Obj := { cls := .none, dict := none, data := .func { name := (Str.ofString "law"), qualname := (Str.ofString "law"), params := dParams (stmtAt 24), body := .stmts (dBody (stmtAt 24)), scope := dScope (stmtAt 24), globals := 0, closure := [], defaults := .none, kwdefaults := .none, doc := .none, pyModule := .none, annotations := none, code := .none, closureTuple := .none, builtins := 0 }, slots := #[] }
noncomputable def o224i (P : Params) : Obj := { cls := (.type "code"), dict := none, data := .fields #[(.str (Str.ofString "law") 688), (.str (Str.ofString "law") 689), (.str (Str.ofString "/claim/cut.py") 690), (.int 192 0), (.int 1 0), (.int 0 0), (.int 0 0), (.int 3 0), (.ref 221), (.bool true), (.int 181 0), (.ref 222), .none, .none, .none, (.ref 223), (.int 691 0), (.int 192 0), (.str (Str.ofString "/claim/cut.py") 692)], slots := #[] }
noncomputable def o225i (P : Params) : Obj := { cls := (.type "function"), dict := none, data := .func { name := (Str.ofString "law"), qualname := (Str.ofString "law"), params := dParams (stmtAt 24), body := .stmts (dBody (stmtAt 24)), scope := dScope (stmtAt 24), globals := 3, closure := [], defaults := .none, kwdefaults := .none, doc := .none, pyModule := (.str (Str.ofString "law_wy0036_01") 616), annotations := none, code := (.ref 224), closureTuple := .none, builtins := 0 }, slots := #[] }
noncomputable def Ti (P : Params) : BT := (.node ((boot_o_0) P) (.node ((boot_o_1) P) (.node ((o3i) P) (.node ((boot_o_7) P) (.node ((o15c) P) (.node ((o31c) P) (.node ((o63c) P) (.node ((o127h) P) .nil .nil) (.node ((o191i) P) .nil .nil)) (.node ((o95f) P) (.node ((o159h) P) .nil .nil) (.node ((o223i) P) .nil .nil))) (.node ((o47c) P) (.node ((o79d) P) (.node ((o143h) P) .nil .nil) (.node ((o207i) P) .nil .nil)) (.node ((o111h) P) (.node ((o175i) P) .nil .nil) .nil))) (.node ((o23c) P) (.node ((o39c) P) (.node ((o71d) P) (.node ((o135h) P) .nil .nil) (.node ((o199i) P) .nil .nil)) (.node ((o103g) P) (.node ((o167h) P) .nil .nil) .nil)) (.node ((o55c) P) (.node ((o87e) P) (.node ((o151h) P) .nil .nil) (.node ((o215i) P) .nil .nil)) (.node ((o119h) P) (.node ((o183i) P) .nil .nil) .nil)))) (.node ((o11a) P) (.node ((o19c) P) (.node ((o35c) P) (.node ((o67d) P) (.node ((o131h) P) .nil .nil) (.node ((o195i) P) .nil .nil)) (.node ((o99f) P) (.node ((o163h) P) .nil .nil) .nil)) (.node ((o51c) P) (.node ((o83e) P) (.node ((o147h) P) .nil .nil) (.node ((o211i) P) .nil .nil)) (.node ((o115h) P) (.node ((o179i) P) .nil .nil) .nil))) (.node ((o27c) P) (.node ((o43c) P) (.node ((o75d0) P) (.node ((o139h) P) .nil .nil) (.node ((o203i) P) .nil .nil)) (.node ((o107h) P) (.node ((o171h) P) .nil .nil) .nil)) (.node ((o59c) P) (.node ((o91f) P) (.node ((o155h) P) .nil .nil) (.node ((o219i) P) .nil .nil)) (.node ((o123h) P) (.node ((o187i) P) .nil .nil) .nil))))) (.node ((boot_o_5) P) (.node ((boot_o_9) P) (.node ((o17c) P) (.node ((o33c) P) (.node ((o65d) P) (.node ((o129h) P) .nil .nil) (.node ((o193i) P) .nil .nil)) (.node ((o97f) P) (.node ((o161h) P) .nil .nil) (.node ((o225i) P) .nil .nil))) (.node ((o49c) P) (.node ((o81d) P) (.node ((o145h) P) .nil .nil) (.node ((o209i) P) .nil .nil)) (.node ((o113h) P) (.node ((o177i) P) .nil .nil) .nil))) (.node ((o25c) P) (.node ((o41c) P) (.node ((o73d) P) (.node ((o137h) P) .nil .nil) (.node ((o201i) P) .nil .nil)) (.node ((o105g) P) (.node ((o169h) P) .nil .nil) .nil)) (.node ((o57c) P) (.node ((o89f) P) (.node ((o153h) P) .nil .nil) (.node ((o217i) P) .nil .nil)) (.node ((o121h) P) (.node ((o185i) P) .nil .nil) .nil)))) (.node ((o13a) P) (.node ((o21c) P) (.node ((o37c) P) (.node ((o69d0) P) (.node ((o133h) P) .nil .nil) (.node ((o197i) P) .nil .nil)) (.node ((o101g) P) (.node ((o165h) P) .nil .nil) .nil)) (.node ((o53c) P) (.node ((o85e) P) (.node ((o149h) P) .nil .nil) (.node ((o213i) P) .nil .nil)) (.node ((o117h) P) (.node ((o181i) P) .nil .nil) .nil))) (.node ((o29c) P) (.node ((o45c) P) (.node ((o77d) P) (.node ((o141h) P) .nil .nil) (.node ((o205i) P) .nil .nil)) (.node ((o109h) P) (.node ((o173i) P) .nil .nil) .nil)) (.node ((o61c) P) (.node ((o93f0) P) (.node ((o157h) P) .nil .nil) (.node ((o221i) P) .nil .nil)) (.node ((o125h) P) (.node ((o189i) P) .nil .nil) .nil)))))) (.node ((boot_o_2) P) (.node ((boot_o_4) P) (.node ((boot_o_8) P) (.node ((o16c) P) (.node ((o32c) P) (.node ((o64c) P) (.node ((o128h) P) .nil .nil) (.node ((o192i) P) .nil .nil)) (.node ((o96f (!P.followText "set-order")) P) (.node ((o160h) P) .nil .nil) (.node ((o224i) P) .nil .nil))) (.node ((o48c) P) (.node ((o80d) P) (.node ((o144h) P) .nil .nil) (.node ((o208i) P) .nil .nil)) (.node ((o112h) P) (.node ((o176i) P) .nil .nil) .nil))) (.node ((o24c) P) (.node ((o40c) P) (.node ((o72d) P) (.node ((o136h) P) .nil .nil) (.node ((o200i) P) .nil .nil)) (.node ((o104g) P) (.node ((o168h) P) .nil .nil) .nil)) (.node ((o56c) P) (.node ((o88e) P) (.node ((o152h) P) .nil .nil) (.node ((o216i) P) .nil .nil)) (.node ((o120h) P) (.node ((o184i) P) .nil .nil) .nil)))) (.node ((o12i) P) (.node ((o20c) P) (.node ((o36c) P) (.node ((o68d) P) (.node ((o132h) P) .nil .nil) (.node ((o196i) P) .nil .nil)) (.node ((o100g) P) (.node ((o164h) P) .nil .nil) .nil)) (.node ((o52c) P) (.node ((o84e) P) (.node ((o148h) P) .nil .nil) (.node ((o212i) P) .nil .nil)) (.node ((o116h) P) (.node ((o180i) P) .nil .nil) .nil))) (.node ((o28c) P) (.node ((o44c) P) (.node ((o76d) P) (.node ((o140h) P) .nil .nil) (.node ((o204i) P) .nil .nil)) (.node ((o108h) P) (.node ((o172h) P) .nil .nil) .nil)) (.node ((o60c) P) (.node ((o92f) P) (.node ((o156h) P) .nil .nil) (.node ((o220i) P) .nil .nil)) (.node ((o124h) P) (.node ((o188i) P) .nil .nil) .nil))))) (.node ((boot_o_6) P) (.node ((boot_o_10) P) (.node ((o18c) P) (.node ((o34c) P) (.node ((o66d) P) (.node ((o130h) P) .nil .nil) (.node ((o194i) P) .nil .nil)) (.node ((o98f) P) (.node ((o162h) P) .nil .nil) .nil)) (.node ((o50c) P) (.node ((o82e) P) (.node ((o146h) P) .nil .nil) (.node ((o210i) P) .nil .nil)) (.node ((o114h) P) (.node ((o178i) P) .nil .nil) .nil))) (.node ((o26c) P) (.node ((o42c) P) (.node ((o74d) P) (.node ((o138h) P) .nil .nil) (.node ((o202i) P) .nil .nil)) (.node ((o106g) P) (.node ((o170h) P) .nil .nil) .nil)) (.node ((o58c) P) (.node ((o90f) P) (.node ((o154h) P) .nil .nil) (.node ((o218i) P) .nil .nil)) (.node ((o122h) P) (.node ((o186i) P) .nil .nil) .nil)))) (.node ((o14a) P) (.node ((o22c) P) (.node ((o38c) P) (.node ((o70d) P) (.node ((o134h) P) .nil .nil) (.node ((o198i) P) .nil .nil)) (.node ((o102g) P) (.node ((o166h) P) .nil .nil) .nil)) (.node ((o54c) P) (.node ((o86e) P) (.node ((o150h) P) .nil .nil) (.node ((o214i) P) .nil .nil)) (.node ((o118h) P) (.node ((o182i) P) .nil .nil) .nil))) (.node ((o30c) P) (.node ((o46c) P) (.node ((o78d (!P.followText "set-order")) P) (.node ((o142h) P) .nil .nil) (.node ((o206i) P) .nil .nil)) (.node ((o110h) P) (.node ((o174i) P) .nil .nil) .nil)) (.node ((o62c) P) (.node ((o94f) P) (.node ((o158h) P) .nil .nil) (.node ((o222i) P) .nil .nil)) (.node ((o126h) P) (.node ((o190i) P) .nil .nil) .nil)))))))
noncomputable def Si (w : World) (os : OsState) : SharedT := ⟨Ti w.params, 226, {}, Array.mk [], {}, 694, os⟩
end
section
set_option maxRecDepth 100000
set_option maxHeartbeats 0
theorem eps_all {α : Type} [Nonempty α] {p : α → Prop} (h : p (Classical.epsilon fun x => ¬ p x)) : ∀ x, p x := fun x => Classical.byContradiction fun hx => Classical.epsilon_spec (p := fun x => ¬ p x) ⟨x, hx⟩ h
theorem pc (w : World) (os : OsState) : segRunT treeTable prg w 11 annV 1 252 (Sb w os) (piecesOf (sts 0 9) topEnv topC ⟨0, 0, 0, 0⟩ topB) = some (.next, Sc w os, topC, ⟨67, 0, 67, 8⟩) := by rw [PySem.W.Fast.te10110043849684766642, PySem.W.Fast.te14364793385576792824]; kernel_rfl
noncomputable def stkd (w : World) (os : OsState) : List Frame := match PySem.W.Fast.tw10295753902157049106 PySem.W.Fast.tw14364793385576792824 prg w 11 annV 1 446 (Sc w os) (piecesOf (sts 9 1) topEnv topC ⟨67, 0, 67, 8⟩ topB) with | some (_, t) => t.stack | none => []
noncomputable def natB : Int → Bool := fun h => Int.rec (fun _ => true) (fun _ => false) h
noncomputable def ascB (size : Nat) (l : List (Int × Value)) : Nat → Bool := List.rec (fun _ => true) (fun e _ ih lo => natB e.1 && (Nat.ble lo (e.1.toNat % size) && (Nat.blt e.1.toNat 18446744073709551616 && ih (Nat.succ (e.1.toNat % size))))) l
noncomputable def prs (size : Nat) (l : List (Int × Value)) : Nat → List (Nat × Nat) := List.rec (fun _ => []) (fun e _ ih k => (e.1.toNat % size, k) :: ih (k + 1)) l
theorem prs_fst (size : Nat) (l : List (Int × Value)) : ∀ k : Nat, (prs size l k).map (·.1) = l.map fun e => e.1.toNat % size := by
  induction l with
  | nil => exact fun _ => rfl
  | cons e r ih => exact fun k => congrArg (e.1.toNat % size :: ·) (ih (k + 1))
theorem prs_snd (size : Nat) (l : List (Int × Value)) : ∀ k : Nat, (prs size l k).map (·.2) = List.range' k l.length := by
  induction l with
  | nil => exact fun _ => rfl
  | cons e r ih => exact fun k => congrArg (k :: ·) (ih (k + 1))
def live (owner : Array (Option Nat)) (n : Nat) : List (Nat × Nat) := (List.range n).filterMap fun j => (owner.getD j none).map (j, ·)
theorem live_succ {owner : Array (Option Nat)} {n : Nat} : live owner (n + 1) = live owner n ++ ((owner.getD n none).map (n, ·)).toList := by
  rw [live, List.range_succ, List.filterMap_append]
  refine congrArg (live owner n ++ ·) ?_
  cases h : owner.getD n none with
  | none => rw [List.filterMap_cons_none (by rw [h]; rfl)]; rfl
  | some x => rw [List.filterMap_cons_some (by rw [h]; rfl)]; rfl
theorem getD_of {owner : Array (Option Nat)} {j : Nat} {x : Option Nat} (h : owner[j]? = some x) : owner.getD j none = x := by rw [Array.getD_eq_getD_getElem?, h]; rfl
def Emp (owner : Array (Option Nat)) (lo size : Nat) : Prop := ∀ j, lo ≤ j → j < size → owner[j]? = some none
theorem live_add {owner : Array (Option Nat)} {lo size : Nat} (hn : Emp owner lo size) : ∀ d, lo + d ≤ size → live owner (lo + d) = live owner lo
  | 0, _ => rfl
  | d + 1, h => by
    rw [← Nat.add_assoc, live_succ, getD_of (hn _ (Nat.le_add_right _ _) h), live_add hn d (Nat.le_of_succ_le h)]
    exact List.append_nil _
theorem live_to {owner : Array (Option Nat)} {lo n size : Nat} (hn : Emp owner lo size) (h1 : lo ≤ n) (h2 : n ≤ size) : live owner n = live owner lo := by
  obtain ⟨d, rfl⟩ := Nat.exists_eq_add_of_le h1
  exact live_add hn d h2
theorem live_congr {a b : Array (Option Nat)} : ∀ n, (∀ j, j < n → a[j]? = b[j]?) → live a n = live b n
  | 0, _ => rfl
  | n + 1, h => by rw [live_succ, live_succ, live_congr n fun j hj => h j (Nat.lt_succ_of_lt hj), Array.getD_eq_getD_getElem?, h n (Nat.lt_succ_self n), ← Array.getD_eq_getD_getElem?]
theorem free_hit {mask i p : Nat} {owner : Array (Option Nat)} (h : owner[i]? = some none) : SetTable.layClean.free mask owner (SetTable.turns mask) i p = some i := by
  have e0 : i ≤ SetTable.runEnd mask i := by
    unfold SetTable.runEnd
    split
    · exact Nat.le_add_right _ _
    · exact Nat.le_refl _
  have q : (owner.getD (i + 0) (some 0)).isNone = true := by rw [Nat.add_zero, Array.getD_eq_getD_getElem?, h]; rfl
  show (match (List.range (SetTable.runEnd mask i + 1 - i)).find? fun k => (owner.getD (i + k) (some 0)).isNone with | some k => some (i + k) | none => _) = _
  rw [Nat.succ_sub e0, List.range_succ_eq_map, List.find?_cons_of_pos (p := fun k => (owner.getD (i + k) (some 0)).isNone) q]
  rfl
def StepG (mask : Nat) (g : Option (Array (Option Nat) × Nat) → Int → Option (Array (Option Nat) × Nat)) : Prop :=
  ∀ owner k h, natB h = true → h.toNat < 18446744073709551616 → owner[h.toNat % (mask + 1)]? = some none → g (some (owner, k)) h = some (owner.setIfInBounds (h.toNat % (mask + 1)) (some k), k + 1)
theorem lay_fold {mask : Nat} {g : Option (Array (Option Nat) × Nat) → Int → Option (Array (Option Nat) × Nat)} (hg : StepG mask g) (l : List (Int × Value)) :
    ∀ (lo k : Nat) (owner : Array (Option Nat)), ascB (mask + 1) l lo = true → lo ≤ mask + 1 → owner.size = mask + 1 → Emp owner lo (mask + 1) →
      ∃ owner', ((l.map (·.1)).foldl g (some (owner, k))).map (·.1) = some owner' ∧ live owner' (mask + 1) = live owner lo ++ prs (mask + 1) l k := by
  induction l with
  | nil => exact fun lo k owner _ hl hs hn => ⟨owner, rfl, by rw [live_to hn hl (Nat.le_refl _)]; exact (List.append_nil _).symm⟩
  | cons e r ih =>
    intro lo k owner ha hl hs hn
    obtain ⟨a0, ha⟩ := Bool.and_eq_true_iff.mp ha
    obtain ⟨a1, ha⟩ := Bool.and_eq_true_iff.mp ha
    obtain ⟨a2, a3⟩ := Bool.and_eq_true_iff.mp ha
    have h1 : lo ≤ e.1.toNat % (mask + 1) := Nat.le_of_ble_eq_true a1
    have h3 : e.1.toNat % (mask + 1) < mask + 1 := Nat.mod_lt _ (Nat.succ_pos _)
    have z := hg owner k e.1 a0 (Nat.le_of_ble_eq_true a2) (hn _ h1 h3)
    show ∃ owner', (List.foldl g (g (some (owner, k)) e.1) (r.map (·.1))).map (·.1) = some owner' ∧ live owner' (mask + 1) = live owner lo ++ ((e.1.toNat % (mask + 1), k) :: prs (mask + 1) r (k + 1))
    rw [z]
    replace a3 : ascB (mask + 1) r (e.1.toNat % (mask + 1) + 1) = true := a3
    clear ha a0 a1 a2 z
    revert h1 h3 a3
    generalize e.1.toNat % (mask + 1) = i
    intro h1 h3 a3
    have gz : ∀ j, j ≠ i → (owner.setIfInBounds i (some k))[j]? = owner[j]? := fun j hj => Array.getElem?_setIfInBounds_ne (Ne.symm hj)
    obtain ⟨owner', e1, e2⟩ := ih (i + 1) (k + 1) _ a3 h3 (Array.size_setIfInBounds.trans hs) fun j a b => (gz j (Nat.ne_of_gt a)).trans (hn j (Nat.le_of_lt (Nat.lt_of_le_of_lt h1 a)) b)
    refine ⟨owner', e1, e2.trans ?_⟩
    rw [live_succ, live_congr i fun j hj => gz j (Nat.ne_of_lt hj), live_to hn h1 (Nat.le_of_lt h3), getD_of (Array.getElem?_setIfInBounds_self_of_lt (by rw [hs]; exact h3)), List.append_assoc]
    rfl
noncomputable def relF (t : SetTable) (es : Array (Int × Value)) (wanted : Nat) : Array (Int × Value) × SetTable × Bool :=
  bif Nat.blt es.size (SetTable.sizeAbove wanted) && ascB (SetTable.sizeAbove wanted) es.toList 0 then
    (es, { mask := SetTable.sizeAbove wanted - 1, place := (es.toList.map fun e => e.1.toNat % SetTable.sizeAbove wanted).toArray, dummies := #[], finger := t.finger, led := t.led, moves := t.movedTo (SetTable.sizeAbove wanted - 1), plain := t.plain }, false)
  else relayAll t es wanted
theorem get_all (l : List (Int × Value)) : (List.range l.length).filterMap (fun i => l[i]?) = l := by
  induction l with
  | nil => rfl
  | cons a r ih =>
    rw [List.length_cons, List.range_succ_eq_map, List.filterMap_cons_some (f := fun i => (a :: r)[i]?) (b := a) rfl, List.filterMap_map]
    exact congrArg _ ih
theorem clean_F {es : Array (Int × Value)} {mask : Nat} (ha : ascB (mask + 1) es.toList 0 = true) :
    ∃ owner', SetTable.layClean mask (es.map (·.1)) = some owner' ∧ live owner' (mask + 1) = prs (mask + 1) es.toList 0 := by
  unfold SetTable.layClean
  rw [← Array.foldl_toList, Array.toList_map]
  refine lay_fold (fun owner k h a0 hn ho => ?_) es.toList 0 0 _ ha (Nat.zero_le _) Array.size_replicate fun j _ h => by rw [Array.getElem?_replicate, if_pos h]
  cases h with
  | negSucc n => cases a0
  | ofNat n =>
    replace hn : n < 18446744073709551616 := hn
    replace ho : owner[n % (mask + 1)]? = some none := ho
    have b : SetTable.bits (Int.ofNat n) = n := by
      show ((n : Int) % ((18446744073709551616 : Nat) : Int)).toNat = n
      rw [← Int.natCast_emod, Int.toNat_natCast, Nat.mod_eq_of_lt hn]
    show Option.bind (SetTable.layClean.free mask owner (SetTable.turns mask) (SetTable.bits (Int.ofNat n) % (mask + 1)) (SetTable.bits (Int.ofNat n))) _ = _
    rw [b, free_hit ho]
    rfl
theorem laid_F {t : SetTable} {es : Array (Int × Value)} {wanted mask : Nat} (hm : SetTable.sizeAbove wanted = mask + 1) (ha : ascB (mask + 1) es.toList 0 = true) :
    t.relaid (es.map (·.1)) wanted = some ({ mask := mask, place := (es.toList.map fun e => e.1.toNat % (mask + 1)).toArray, dummies := #[], finger := t.finger, led := t.led, moves := t.movedTo mask, plain := t.plain }, (List.range es.size).toArray) := by
  obtain ⟨owner', e1, e6⟩ := clean_F ha
  have e7 : (List.range (mask + 1)).filterMap (fun j => (owner'.getD j none).map (j, ·)) = prs (mask + 1) es.toList 0 := e6
  rw [SetTable.relaid, hm, Nat.add_sub_cancel, SetTable.laid, e1]
  show some _ = _
  rw [e7, prs_fst, prs_snd, List.range_eq_range']
  rfl
theorem rel_F : relayAll = relF := by
  funext t es wanted
  rw [relF]
  cases h : Nat.blt es.size (SetTable.sizeAbove wanted) && ascB (SetTable.sizeAbove wanted) es.toList 0 with
  | false => rfl
  | true =>
    obtain ⟨h1, h2⟩ := Bool.and_eq_true_iff.mp h
    have h1 : es.size < SetTable.sizeAbove wanted := Nat.le_of_ble_eq_true h1
    obtain ⟨mask, hm⟩ := Nat.exists_eq_add_of_lt (Nat.lt_of_le_of_lt (Nat.zero_le _) h1)
    rw [Nat.zero_add] at hm
    rw [hm] at h1 h2
    rw [relayAll, laid_F hm h2, cond_true, hm, Nat.add_sub_cancel]
    have c1 : ((List.range es.size).toArray.filterMap (es[·]?)) = es := by
      apply Array.ext'
      rw [Array.toList_filterMap]
      show List.filterMap (fun x => es[x]?) (List.range es.toList.length) = _
      simpa only [Array.getElem?_toList] using get_all es.toList
    have c2 : coversAll (List.range es.size).toArray es.size = true := List.isPerm_iff.mpr (List.Perm.refl _)
    have c3 : (es.toList.map fun e => e.1.toNat % (mask + 1)).toArray.size = es.size := List.length_map _
    show (if coversAll _ _ && _ then _ else _) = _
    rw [c1, c2, if_pos]
    show ((_ == es.size) && decide (_ + 0 ≤ mask)) = true
    rw [c3, beq_self_eq_true]
    exact decide_eq_true (Nat.le_of_lt_succ h1)
noncomputable def insF {α : Type} (es : Array α) (p : Nat) (x : α) : Array α := bif Nat.beq p es.size then es.push x else SetTable.insertAt es p x
theorem ins_F : @SetTable.insertAt = @insF := by
  funext α es p x
  rw [insF]
  cases h : Nat.beq p es.size with
  | false => rfl
  | true =>
    rw [Nat.eq_of_beq_eq_true h, SetTable.insertAt, Array.extract_size, Array.extract_empty_of_stop_le_start (Nat.le_refl _), Array.append_empty]
    rfl
noncomputable def byF (x : Value) (es : Array (Int × Value)) : Bool := x.scannable && Nat.blt es.size 4096 && List.rec (motive := fun _ => Bool) true (fun e _ ih => e.2.scannable && ih) es.toList
theorem by_F : byScan = byF := by
  funext x es
  have h1 : decide (es.size < scanBound) = Nat.blt es.size 4096 := by
    cases h : Nat.blt es.size 4096 with
    | true => exact decide_eq_true (Nat.le_of_ble_eq_true h)
    | false => exact decide_eq_false fun g => Bool.false_ne_true (h.symm.trans (Nat.ble_eq_true_of_le g))
  have h2 : ∀ l : List (Int × Value), l.all (·.2.scannable) = List.rec (motive := fun _ => Bool) true (fun e _ ih => e.2.scannable && ih) l := fun l => by
    induction l with
    | nil => rfl
    | cons e r ih => rw [List.all_cons, ih]
  rw [byScan, byF, h1, ← Array.all_toList, h2]
noncomputable def layS : { y // layNew = y } := by
  have e : layNew = layNew := rfl
  conv at e => { rhs; delta layNew SetTable.put; rw [ins_F] }
  exact ⟨_, e⟩
noncomputable def addS (n : Nat) (a : Addr) (x : Value) (h : Int) : { y : Sem Bool // setAddHashedIn a x h (n + 1) = y } := by
  have e := setAddHashedIn.eq_2 a x h n
  unfold setAddByScan at e
  rw [rel_F, layS.2, by_F] at e
  exact ⟨_, e⟩
theorem hs_F : setAddHashed = fun a x h => holding [x] (addS 99999 a x h).1 := by
  funext a x h
  exact congrArg (holding [x]) (addS 99999 a x h).2
noncomputable def updS : { y : Builtin // PySem.W.Fast.tw14453038532278432606 = y } := by
  have e : PySem.W.Fast.tw14453038532278432606 = PySem.W.Fast.tw14453038532278432606 := rfl
  conv at e => { rhs; delta PySem.W.Fast.tw14453038532278432606 PySem.W.Fast.tw5518019106960326183; rw [← PySem.W.Fast.te16065284519293194179, hs_F] }
  exact ⟨_, e⟩
theorem upd_D (x : Args) : denote treeTable (.builtin "set.update.loop" x) = Builtin.«set.update.loop» x := by kernel_rfl
theorem upd_F (x : Args) : denote treeTable (.builtin "set.update.loop" x) = updS.1 x := by rw [upd_D, PySem.W.Fast.te14453038532278432606]; exact congrFun updS.2 x
noncomputable def sgF (w : World) (x : Args) (q : Pos) (k : List Frame) (n : Nat) (s : SharedT) : Option (SharedT × Thread) := PySem.W.Fast.tw10295753902157049106 PySem.W.Fast.tw14364793385576792824 prg w 11 annV 1 n s ⟨updS.1 x, .builtin "set.update.loop" x, q, k⟩
noncomputable def lpG (x : Args) (q : Pos) (k : List Frame) : Thread := ⟨denote PySem.W.Fast.tw14364793385576792824 (.builtin "set.update.loop" x), .builtin "set.update.loop" x, q, k⟩
def lpT (x : Args) (q : Pos) (k : List Frame) : Thread := ⟨denote treeTable (.builtin "set.update.loop" x), .builtin "set.update.loop" x, q, k⟩
theorem lp_G : lpT = lpG := by unfold lpT lpG; rw [PySem.W.Fast.te14364793385576792824]
theorem sg_F (w : World) (x : Args) (q : Pos) (k : List Frame) (n : Nat) (s : SharedT) : segGoT treeTable prg w 11 annV 1 n s (lpT x q k) = sgF w x q k n s := by
  rw [lpT, upd_F, sgF, PySem.W.Fast.te10295753902157049106, PySem.W.Fast.te14364793385576792824]
noncomputable def rowGo (f : Nat → SharedT → Option (SharedT × Thread)) (l : List (Nat × SharedT)) : SharedT → List (Option (SharedT × Thread)) := List.rec (fun _ => []) (fun p _ ih s => f p.1 s :: ih p.2) l
noncomputable def rowEnd (t : Thread) (l : List (Nat × SharedT)) : List (Option (SharedT × Thread)) := List.rec [] (fun p _ ih => some (p.2, t) :: ih) l
noncomputable def rowTot (N : Nat) (l : List (Nat × SharedT)) : Nat := List.rec N (fun p _ ih => p.1 + ih) l
noncomputable def rowFin (l : List (Nat × SharedT)) : SharedT → SharedT := List.rec (fun s => s) (fun p _ ih _ => ih p.2) l
theorem row_run {w : World} {x : Args} {q : Pos} {k : List Frame} {N : Nat} {y : Flow × Shared × Code × Pos} : ∀ {l : List (Nat × SharedT)} {s s' : SharedT} {M : Nat}, rowGo (sgF w x q k) l s = rowEnd (lpG x q k) l → rowFin l s = s' → rowTot N l = M → segRun treeTable prg w 11 annV 1 N s'.abs (lpT x q k) = some y → segRun treeTable prg w 11 annV 1 M s.abs (lpT x q k) = some y
  | [], _, _, _, _, rfl, rfl, h => h
  | p :: l, s, s', _, e, hs, rfl, h => by
    obtain ⟨e1, e2⟩ := List.cons.inj (show sgF w x q k p.1 s :: rowGo (sgF w x q k) l p.2 = some (p.2, lpG x q k) :: rowEnd (lpG x q k) l from e)
    rw [← sg_F, ← lp_G] at e1
    exact seg_go (segGo_of e1) (row_run e2 hs rfl h)
noncomputable def lpd (k : List Frame) : Thread := lpT ⟨[.ref 78, .ref 79], []⟩ ⟨68, 9, 68, 88⟩ k
noncomputable def stkda (w : World) (os : OsState) : Frame := match stkd w os with | a :: _ => a | [] => topFrame default
noncomputable def stkdb (w : World) (os : OsState) : Frame := match stkd w os with | _ :: b :: _ => b | _ => topFrame default
noncomputable def stkdr (w : World) (os : OsState) : List Frame := match stkd w os with | _ :: _ :: r => r | _ => []
theorem pdA : ∀ (w : World) (os : OsState), ((segGoT treeTable prg w 11 annV 1 446 (Sc w os) (piecesOf (sts 9 1) topEnv topC ⟨67, 0, 67, 8⟩ topB), stkd w os, segRunT treeTable prg w 11 annV 1 27 (Sd15 (!w.params.followText "set-order") w os) (lpd (stkd w os))) : Option (SharedT × Thread) × List Frame × Option (Flow × SharedT × Code × Pos)) = (some (Sd0 (!w.params.followText "set-order") w os, lpd (stkd w os)), stkda w os :: stkdb w os :: stkdr w os, some (.next, Sd w os, topC, ⟨68, 0, 68, 6⟩)) :=
  byRow2 "special-get-raises" (fun w os => by unfold lpd lpT; rw [PySem.W.Fast.te10110043849684766642, PySem.W.Fast.te10295753902157049106, PySem.W.Fast.te14364793385576792824]; kernel_rfl) (fun w os => by unfold lpd lpT; rw [PySem.W.Fast.te10110043849684766642, PySem.W.Fast.te10295753902157049106, PySem.W.Fast.te14364793385576792824]; kernel_rfl)
noncomputable def Ld0 (o : Bool) (w : World) (os : OsState) : List (Nat × SharedT) := [(20, Sd1 o w os), (20, Sd2 o w os), (20, Sd3 o w os), (20, Sd4 o w os), (22, Sd5 o w os), (20, Sd6 o w os), (20, Sd7 o w os), (20, Sd8 o w os), (20, Sd9 o w os), (20, Sd10 o w os), (20, Sd11 o w os), (20, Sd12 o w os), (20, Sd13 o w os), (20, Sd14 o w os), (20, Sd15 o w os)]
theorem pdB0 : ∀ (o : Bool) (w : World) (os : OsState) (a b : Frame) (r : List Frame), rowGo (sgF w ⟨[.ref 78, .ref 79], []⟩ ⟨68, 9, 68, 88⟩ (a :: b :: r)) (Ld0 o w os) (Sd0 o w os) = rowEnd (lpG ⟨[.ref 78, .ref 79], []⟩ ⟨68, 9, 68, 88⟩ (a :: b :: r)) (Ld0 o w os) := eps_all (byRow2 "special-get-raises" (fun w os a b r => by kernel_rfl) (fun w os a b r => by kernel_rfl))
theorem pe (w : World) (os : OsState) : segRunT treeTable prg w 11 annV 1 30 (Sd w os) (piecesOf (sts 10 1) topEnv topC ⟨68, 0, 68, 6⟩ topB) = some (.next, Se w os, topC, ⟨69, 0, 70, 30⟩) := by rw [PySem.W.Fast.te10110043849684766642, PySem.W.Fast.te14364793385576792824]; kernel_rfl
noncomputable def stkf (w : World) (os : OsState) : List Frame := match PySem.W.Fast.tw10295753902157049106 PySem.W.Fast.tw14364793385576792824 prg w 11 annV 1 1778 (Se w os) (piecesOf (sts 11 1) topEnv topC ⟨69, 0, 70, 30⟩ topB) with | some (_, t) => t.stack | none => []
noncomputable def lpf (k : List Frame) : Thread := lpT ⟨[.ref 96, .ref 97], []⟩ ⟨71, 9, 71, 52⟩ k
noncomputable def stkfa (w : World) (os : OsState) : Frame := match stkf w os with | a :: _ => a | [] => topFrame default
noncomputable def stkfb (w : World) (os : OsState) : Frame := match stkf w os with | _ :: b :: _ => b | _ => topFrame default
noncomputable def stkfr (w : World) (os : OsState) : List Frame := match stkf w os with | _ :: _ :: r => r | _ => []
theorem pfA : ∀ (w : World) (os : OsState), ((segGoT treeTable prg w 11 annV 1 1778 (Se w os) (piecesOf (sts 11 1) topEnv topC ⟨69, 0, 70, 30⟩ topB), stkf w os, segRunT treeTable prg w 11 annV 1 27 (Sf97 (!w.params.followText "set-order") w os) (lpf (stkf w os))) : Option (SharedT × Thread) × List Frame × Option (Flow × SharedT × Code × Pos)) = (some (Sf0 (!w.params.followText "set-order") w os, lpf (stkf w os)), stkfa w os :: stkfb w os :: stkfr w os, some (.next, Sf w os, topC, ⟨71, 0, 71, 6⟩)) :=
  byRow2 "special-get-raises" (fun w os => by unfold lpf lpT; rw [PySem.W.Fast.te10110043849684766642, PySem.W.Fast.te10295753902157049106, PySem.W.Fast.te14364793385576792824]; kernel_rfl) (fun w os => by unfold lpf lpT; rw [PySem.W.Fast.te10110043849684766642, PySem.W.Fast.te10295753902157049106, PySem.W.Fast.te14364793385576792824]; kernel_rfl)
noncomputable def Lf0 (o : Bool) (w : World) (os : OsState) : List (Nat × SharedT) := [(20, Sf1 o w os), (20, Sf2 o w os), (20, Sf3 o w os), (20, Sf4 o w os), (22, Sf5 o w os), (20, Sf6 o w os), (20, Sf7 o w os), (20, Sf8 o w os), (20, Sf9 o w os), (20, Sf10 o w os), (20, Sf11 o w os), (20, Sf12 o w os), (20, Sf13 o w os), (20, Sf14 o w os), (20, Sf15 o w os), (20, Sf16 o w os), (20, Sf17 o w os), (20, Sf18 o w os), (22, Sf19 o w os), (20, Sf20 o w os)]
theorem pfB0 : ∀ (o : Bool) (w : World) (os : OsState) (a b : Frame) (r : List Frame), rowGo (sgF w ⟨[.ref 96, .ref 97], []⟩ ⟨71, 9, 71, 52⟩ (a :: b :: r)) (Lf0 o w os) (Sf0 o w os) = rowEnd (lpG ⟨[.ref 96, .ref 97], []⟩ ⟨71, 9, 71, 52⟩ (a :: b :: r)) (Lf0 o w os) := eps_all (byRow2 "special-get-raises" (fun w os a b r => by kernel_rfl) (fun w os a b r => by kernel_rfl))
noncomputable def Lf1 (o : Bool) (w : World) (os : OsState) : List (Nat × SharedT) := [(20, Sf21 o w os), (20, Sf22 o w os), (20, Sf23 o w os), (20, Sf24 o w os), (20, Sf25 o w os), (20, Sf26 o w os), (20, Sf27 o w os), (20, Sf28 o w os), (20, Sf29 o w os), (20, Sf30 o w os), (20, Sf31 o w os), (20, Sf32 o w os), (20, Sf33 o w os), (20, Sf34 o w os), (20, Sf35 o w os), (20, Sf36 o w os), (20, Sf37 o w os), (20, Sf38 o w os), (20, Sf39 o w os), (20, Sf40 o w os)]
theorem pfB1 : ∀ (o : Bool) (w : World) (os : OsState) (a b : Frame) (r : List Frame), rowGo (sgF w ⟨[.ref 96, .ref 97], []⟩ ⟨71, 9, 71, 52⟩ (a :: b :: r)) (Lf1 o w os) (Sf20 o w os) = rowEnd (lpG ⟨[.ref 96, .ref 97], []⟩ ⟨71, 9, 71, 52⟩ (a :: b :: r)) (Lf1 o w os) := eps_all (byRow2 "special-get-raises" (fun w os a b r => by kernel_rfl) (fun w os a b r => by kernel_rfl))
noncomputable def Lf2 (o : Bool) (w : World) (os : OsState) : List (Nat × SharedT) := [(20, Sf41 o w os), (20, Sf42 o w os), (20, Sf43 o w os), (20, Sf44 o w os), (20, Sf45 o w os), (20, Sf46 o w os), (20, Sf47 o w os), (20, Sf48 o w os), (20, Sf49 o w os), (20, Sf50 o w os), (20, Sf51 o w os), (20, Sf52 o w os), (20, Sf53 o w os), (20, Sf54 o w os), (20, Sf55 o w os), (20, Sf56 o w os), (20, Sf57 o w os), (20, Sf58 o w os), (20, Sf59 o w os), (20, Sf60 o w os)]
theorem pfB2 : ∀ (o : Bool) (w : World) (os : OsState) (a b : Frame) (r : List Frame), rowGo (sgF w ⟨[.ref 96, .ref 97], []⟩ ⟨71, 9, 71, 52⟩ (a :: b :: r)) (Lf2 o w os) (Sf40 o w os) = rowEnd (lpG ⟨[.ref 96, .ref 97], []⟩ ⟨71, 9, 71, 52⟩ (a :: b :: r)) (Lf2 o w os) := eps_all (byRow2 "special-get-raises" (fun w os a b r => by kernel_rfl) (fun w os a b r => by kernel_rfl))
noncomputable def Lf3 (o : Bool) (w : World) (os : OsState) : List (Nat × SharedT) := [(20, Sf61 o w os), (20, Sf62 o w os), (20, Sf63 o w os), (20, Sf64 o w os), (20, Sf65 o w os), (20, Sf66 o w os), (20, Sf67 o w os), (20, Sf68 o w os), (20, Sf69 o w os), (20, Sf70 o w os), (20, Sf71 o w os), (20, Sf72 o w os), (20, Sf73 o w os), (20, Sf74 o w os), (20, Sf75 o w os), (20, Sf76 o w os), (22, Sf77 o w os), (20, Sf78 o w os), (20, Sf79 o w os), (20, Sf80 o w os)]
theorem pfB3 : ∀ (o : Bool) (w : World) (os : OsState) (a b : Frame) (r : List Frame), rowGo (sgF w ⟨[.ref 96, .ref 97], []⟩ ⟨71, 9, 71, 52⟩ (a :: b :: r)) (Lf3 o w os) (Sf60 o w os) = rowEnd (lpG ⟨[.ref 96, .ref 97], []⟩ ⟨71, 9, 71, 52⟩ (a :: b :: r)) (Lf3 o w os) := eps_all (byRow2 "special-get-raises" (fun w os a b r => by kernel_rfl) (fun w os a b r => by kernel_rfl))
noncomputable def Lf4 (o : Bool) (w : World) (os : OsState) : List (Nat × SharedT) := [(20, Sf81 o w os), (20, Sf82 o w os), (20, Sf83 o w os), (20, Sf84 o w os), (20, Sf85 o w os), (20, Sf86 o w os), (20, Sf87 o w os), (20, Sf88 o w os), (20, Sf89 o w os), (20, Sf90 o w os), (20, Sf91 o w os), (20, Sf92 o w os), (20, Sf93 o w os), (20, Sf94 o w os), (20, Sf95 o w os), (20, Sf96 o w os), (20, Sf97 o w os)]
theorem pfB4 : ∀ (o : Bool) (w : World) (os : OsState) (a b : Frame) (r : List Frame), rowGo (sgF w ⟨[.ref 96, .ref 97], []⟩ ⟨71, 9, 71, 52⟩ (a :: b :: r)) (Lf4 o w os) (Sf80 o w os) = rowEnd (lpG ⟨[.ref 96, .ref 97], []⟩ ⟨71, 9, 71, 52⟩ (a :: b :: r)) (Lf4 o w os) := eps_all (byRow2 "special-get-raises" (fun w os a b r => by kernel_rfl) (fun w os a b r => by kernel_rfl))
theorem pg (w : World) (os : OsState) : segRunT treeTable prg w 11 annV 1 39 (Sf w os) (piecesOf (sts 12 2) topEnv topC ⟨71, 0, 71, 6⟩ topB) = some (.next, Sg w os, topC, ⟨74, 0, 74, 8⟩) := by rw [PySem.W.Fast.te10110043849684766642, PySem.W.Fast.te14364793385576792824]; kernel_rfl
theorem ph : ∀ (w : World) (os : OsState), segRunT treeTable prg w 11 annV 1 487 (Sg w os) (piecesOf (sts 14 1) topEnv topC ⟨74, 0, 74, 8⟩ topB) = some (.next, Sh w os, topC, ⟨75, 0, 118, 16⟩) :=
  byRow2 "special-get-raises" (fun w os => by rw [PySem.W.Fast.te10110043849684766642, PySem.W.Fast.te14364793385576792824]; kernel_rfl) (fun w os => by rw [PySem.W.Fast.te10110043849684766642, PySem.W.Fast.te14364793385576792824]; kernel_rfl)
theorem pi (w : World) (os : OsState) : segRunT treeTable prg w 11 annV 1 274 (Sh w os) (piecesOf (sts 15 10) topEnv topC ⟨75, 0, 118, 16⟩ topB) = some (.next, Si w os, topC, ⟨192, 0, 245, 15⟩) := by rw [PySem.W.Fast.te10110043849684766642, PySem.W.Fast.te14364793385576792824]; kernel_rfl
end
section
set_option maxRecDepth 100000
set_option maxHeartbeats 0
noncomputable def Hi (P : Params) : Heap := ⟨Array.mk [boot_o_0 P, boot_o_1 P, boot_o_2 P, o3i P, boot_o_4 P, boot_o_5 P, boot_o_6 P, boot_o_7 P, boot_o_8 P, boot_o_9 P, boot_o_10 P, o11a P, o12i P, o13a P, o14a P, o15c P, o16c P, o17c P, o18c P, o19c P, o20c P, o21c P, o22c P, o23c P, o24c P, o25c P, o26c P, o27c P, o28c P, o29c P, o30c P, o31c P, o32c P, o33c P, o34c P, o35c P, o36c P, o37c P, o38c P, o39c P, o40c P, o41c P, o42c P, o43c P, o44c P, o45c P, o46c P, o47c P, o48c P, o49c P, o50c P, o51c P, o52c P, o53c P, o54c P, o55c P, o56c P, o57c P, o58c P, o59c P, o60c P, o61c P, o62c P, o63c P, o64c P, o65d P, o66d P, o67d P, o68d P, o69d0 P, o70d P, o71d P, o72d P, o73d P, o74d P, o75d0 P, o76d P, o77d P, o78d (!P.followText "set-order") P, o79d P, o80d P, o81d P, o82e P, o83e P, o84e P, o85e P, o86e P, o87e P, o88e P, o89f P, o90f P, o91f P, o92f P, o93f0 P, o94f P, o95f P, o96f (!P.followText "set-order") P, o97f P, o98f P, o99f P, o100g P, o101g P, o102g P, o103g P, o104g P, o105g P, o106g P, o107h P, o108h P, o109h P, o110h P, o111h P, o112h P, o113h P, o114h P, o115h P, o116h P, o117h P, o118h P, o119h P, o120h P, o121h P, o122h P, o123h P, o124h P, o125h P, o126h P, o127h P, o128h P, o129h P, o130h P, o131h P, o132h P, o133h P, o134h P, o135h P, o136h P, o137h P, o138h P, o139h P, o140h P, o141h P, o142h P, o143h P, o144h P, o145h P, o146h P, o147h P, o148h P, o149h P, o150h P, o151h P, o152h P, o153h P, o154h P, o155h P, o156h P, o157h P, o158h P, o159h P, o160h P, o161h P, o162h P, o163h P, o164h P, o165h P, o166h P, o167h P, o168h P, o169h P, o170h P, o171h P, o172h P, o173i P, o174i P, o175i P, o176i P, o177i P, o178i P, o179i P, o180i P, o181i P, o182i P, o183i P, o184i P, o185i P, o186i P, o187i P, o188i P, o189i P, o190i P, o191i P, o192i P, o193i P, o194i P, o195i P, o196i P, o197i P, o198i P, o199i P, o200i P, o201i P, o202i P, o203i P, o204i P, o205i P, o206i P, o207i P, o208i P, o209i P, o210i P, o211i P, o212i P, o213i P, o214i P, o215i P, o216i P, o217i P, o218i P, o219i P, o220i P, o221i P, o222i P, o223i P, o224i P, o225i P], {}⟩
noncomputable def KK (P : Params) : Frag := (nat_lit 2, boot_o_2 P) :: (nat_lit 3, o3i P) :: (nat_lit 15, o15c P) :: (nat_lit 17, o17c P) :: (nat_lit 18, o18c P) :: (nat_lit 20, o20c P) :: (nat_lit 21, o21c P) :: (nat_lit 22, o22c P) :: (nat_lit 23, o23c P) :: (nat_lit 24, o24c P) :: (nat_lit 26, o26c P) :: (nat_lit 27, o27c P) :: (nat_lit 29, o29c P) :: (nat_lit 30, o30c P) :: (nat_lit 31, o31c P) :: (nat_lit 32, o32c P) :: (nat_lit 33, o33c P) :: (nat_lit 35, o35c P) :: (nat_lit 36, o36c P) :: (nat_lit 38, o38c P) :: (nat_lit 39, o39c P) :: (nat_lit 40, o40c P) :: (nat_lit 41, o41c P) :: (nat_lit 42, o42c P) :: (nat_lit 44, o44c P) :: (nat_lit 45, o45c P) :: (nat_lit 47, o47c P) :: (nat_lit 48, o48c P) :: (nat_lit 49, o49c P) :: (nat_lit 50, o50c P) :: (nat_lit 51, o51c P) :: (nat_lit 53, o53c P) :: (nat_lit 54, o54c P) :: (nat_lit 56, o56c P) :: (nat_lit 57, o57c P) :: (nat_lit 58, o58c P) :: (nat_lit 60, o60c P) :: (nat_lit 61, o61c P) :: (nat_lit 63, o63c P) :: (nat_lit 64, o64c P) :: (nat_lit 78, o78d (!P.followText "set-order") P) :: (nat_lit 82, o82e P) :: (nat_lit 84, o84e P) :: (nat_lit 85, o85e P) :: (nat_lit 87, o87e P) :: (nat_lit 88, o88e P) :: (nat_lit 96, o96f (!P.followText "set-order") P) :: (nat_lit 100, o100g P) :: (nat_lit 102, o102g P) :: (nat_lit 103, o103g P) :: (nat_lit 105, o105g P) :: (nat_lit 106, o106g P) :: (nat_lit 117, o117h P) :: (nat_lit 119, o119h P) :: (nat_lit 120, o120h P) :: (nat_lit 122, o122h P) :: (nat_lit 123, o123h P) :: (nat_lit 124, o124h P) :: (nat_lit 126, o126h P) :: (nat_lit 127, o127h P) :: (nat_lit 129, o129h P) :: (nat_lit 130, o130h P) :: (nat_lit 131, o131h P) :: (nat_lit 133, o133h P) :: (nat_lit 134, o134h P) :: (nat_lit 136, o136h P) :: (nat_lit 137, o137h P) :: (nat_lit 138, o138h P) :: (nat_lit 140, o140h P) :: (nat_lit 141, o141h P) :: (nat_lit 143, o143h P) :: (nat_lit 144, o144h P) :: (nat_lit 145, o145h P) :: (nat_lit 147, o147h P) :: (nat_lit 148, o148h P) :: (nat_lit 150, o150h P) :: (nat_lit 151, o151h P) :: (nat_lit 152, o152h P) :: (nat_lit 154, o154h P) :: (nat_lit 155, o155h P) :: (nat_lit 157, o157h P) :: (nat_lit 158, o158h P) :: (nat_lit 159, o159h P) :: (nat_lit 161, o161h P) :: (nat_lit 162, o162h P) :: (nat_lit 164, o164h P) :: (nat_lit 165, o165h P) :: (nat_lit 166, o166h P) :: (nat_lit 167, o167h P) :: (nat_lit 168, o168h P) :: (nat_lit 169, o169h P) :: (nat_lit 170, o170h P) :: (nat_lit 173, o173i P) :: (nat_lit 175, o175i P) :: (nat_lit 176, o176i P) :: (nat_lit 178, o178i P) :: (nat_lit 179, o179i P) :: (nat_lit 180, o180i P) :: (nat_lit 183, o183i P) :: (nat_lit 184, o184i P) :: (nat_lit 185, o185i P) :: (nat_lit 187, o187i P) :: (nat_lit 188, o188i P) :: (nat_lit 190, o190i P) :: (nat_lit 191, o191i P) :: (nat_lit 192, o192i P) :: (nat_lit 194, o194i P) :: (nat_lit 195, o195i P) :: (nat_lit 197, o197i P) :: (nat_lit 198, o198i P) :: (nat_lit 199, o199i P) :: (nat_lit 202, o202i P) :: (nat_lit 203, o203i P) :: (nat_lit 204, o204i P) :: (nat_lit 207, o207i P) :: (nat_lit 208, o208i P) :: (nat_lit 209, o209i P) :: (nat_lit 212, o212i P) :: (nat_lit 213, o213i P) :: (nat_lit 214, o214i P) :: (nat_lit 216, o216i P) :: (nat_lit 217, o217i P) :: (nat_lit 219, o219i P) :: (nat_lit 220, o220i P) :: (nat_lit 221, o221i P) :: (nat_lit 224, o224i P) :: (nat_lit 225, o225i P) :: []
abbrev KA : List Addr := [nat_lit 2, nat_lit 3, nat_lit 15, nat_lit 17, nat_lit 18, nat_lit 20, nat_lit 21, nat_lit 22, nat_lit 23, nat_lit 24, nat_lit 26, nat_lit 27, nat_lit 29, nat_lit 30, nat_lit 31, nat_lit 32, nat_lit 33, nat_lit 35, nat_lit 36, nat_lit 38, nat_lit 39, nat_lit 40, nat_lit 41, nat_lit 42, nat_lit 44, nat_lit 45, nat_lit 47, nat_lit 48, nat_lit 49, nat_lit 50, nat_lit 51, nat_lit 53, nat_lit 54, nat_lit 56, nat_lit 57, nat_lit 58, nat_lit 60, nat_lit 61, nat_lit 63, nat_lit 64, nat_lit 78, nat_lit 82, nat_lit 84, nat_lit 85, nat_lit 87, nat_lit 88, nat_lit 96, nat_lit 100, nat_lit 102, nat_lit 103, nat_lit 105, nat_lit 106, nat_lit 117, nat_lit 119, nat_lit 120, nat_lit 122, nat_lit 123, nat_lit 124, nat_lit 126, nat_lit 127, nat_lit 129, nat_lit 130, nat_lit 131, nat_lit 133, nat_lit 134, nat_lit 136, nat_lit 137, nat_lit 138, nat_lit 140, nat_lit 141, nat_lit 143, nat_lit 144, nat_lit 145, nat_lit 147, nat_lit 148, nat_lit 150, nat_lit 151, nat_lit 152, nat_lit 154, nat_lit 155, nat_lit 157, nat_lit 158, nat_lit 159, nat_lit 161, nat_lit 162, nat_lit 164, nat_lit 165, nat_lit 166, nat_lit 167, nat_lit 168, nat_lit 169, nat_lit 170, nat_lit 173, nat_lit 175, nat_lit 176, nat_lit 178, nat_lit 179, nat_lit 180, nat_lit 183, nat_lit 184, nat_lit 185, nat_lit 187, nat_lit 188, nat_lit 190, nat_lit 191, nat_lit 192, nat_lit 194, nat_lit 195, nat_lit 197, nat_lit 198, nat_lit 199, nat_lit 202, nat_lit 203, nat_lit 204, nat_lit 207, nat_lit 208, nat_lit 209, nat_lit 212, nat_lit 213, nat_lit 214, nat_lit 216, nat_lit 217, nat_lit 219, nat_lit 220, nat_lit 221, nat_lit 224, nat_lit 225]
abbrev lsv : List Str := [Str.ofString "_wall", Str.ofString "insort_right", Str.ofString "bisect_right", Str.ofString "insort_left", Str.ofString "bisect_left", Str.ofString "restore", Str.ofString "c8_set", Str.ofString "in_table_c8", Str.ofString "c9_set", Str.ofString "in_table_c9", Str.ofString "Whitespace", Str.ofString "_law_games", Str.ofString "_law_signs", Str.ofString "_law_drawn", Str.ofString "_law_read", Str.ofString "_law_sides", Str.ofString "_law_rows", Str.ofString "_law_by_wins", Str.ofString "_law_ends"]
abbrev qv : Program := view prg [24]
end
section
set_option maxRecDepth 100000
set_option maxHeartbeats 0
theorem ppre (w : World) (os : OsState) : topGo treeTable prg w 11 annV 12 ⟨boot_heap w.params, Array.mk [], boot_drawn, boot_toks, os⟩ (topStub prg) = some (⟨Ha w.params, Array.mk [], {}, 187, os⟩, ⟨denote treeTable topC, topC, ⟨0, 0, 0, 0⟩, topB⟩) := by kernel_rfl
theorem pblk (w : World) (os : OsState) : segRun treeTable prg w 11 annV 1 1 ⟨Ha w.params, Array.mk [], {}, 187, os⟩ (blockOf (behindTheImports prg) topEnv topC ⟨0, 0, 0, 0⟩ topB) = some (.next, (Sb w os).abs, topC, ⟨0, 0, 0, 0⟩) := by rw [PySem.W.Fast.te14374325043358763698, PySem.W.Fast.te14364793385576792824]; kernel_rfl
theorem pfin (w : World) (os : OsState) : topRun treeTable prg w 11 annV 2 (Si w os).abs ⟨doneF .next, topC, ⟨192, 0, 245, 15⟩, topB⟩ = some ⟨Hi w.params, Array.mk [], {}, 694, os⟩ := by rw [PySem.W.Fast.te14082659384304107361, PySem.W.Fast.te14364793385576792824]; kernel_rfl
theorem psts : behindTheImports prg = sts 0 9 ++ (sts 9 1 ++ (sts 10 1 ++ (sts 11 1 ++ (sts 12 2 ++ (sts 14 1 ++ (sts 15 10 ++ [])))))) := by kernel_rfl
theorem chd (w : World) (os : OsState) (o : Bool) (a b : Frame) (r : List Frame) (x : Flow × Shared × Code × Pos) (h : segRun treeTable prg w 11 annV 1 27 (Sd15 o w os).abs (lpd (a :: b :: r)) = some x) : segRun treeTable prg w 11 annV 1 329 (Sd0 o w os).abs (lpd (a :: b :: r)) = some x :=
  row_run (N := 27) (M := 329) (s' := Sd15 o w os) (pdB0 o w os a b r) (by kernel_rfl) (by kernel_rfl) (h)
theorem pd (w : World) (os : OsState) : segRun treeTable prg w 11 annV 1 (446 + 329) (Sc w os).abs (piecesOf (sts 9 1) topEnv topC ⟨67, 0, 67, 8⟩ topB) = some (.next, (Sd w os).abs, topC, ⟨68, 0, 68, 6⟩) := by
  obtain ⟨h1, h23⟩ := Prod.mk.inj (pdA w os)
  obtain ⟨h2, h3⟩ := Prod.mk.inj h23
  refine seg_go (segGo_of h1) ?_
  have h4 := segRun_of h3
  rw [h2] at h4 ⊢
  exact chd w os _ _ _ _ _ h4
theorem chf (w : World) (os : OsState) (o : Bool) (a b : Frame) (r : List Frame) (x : Flow × Shared × Code × Pos) (h : segRun treeTable prg w 11 annV 1 27 (Sf97 o w os).abs (lpf (a :: b :: r)) = some x) : segRun treeTable prg w 11 annV 1 1973 (Sf0 o w os).abs (lpf (a :: b :: r)) = some x :=
  row_run (N := 1569) (M := 1973) (s' := Sf20 o w os) (pfB0 o w os a b r) (by kernel_rfl) (by kernel_rfl) (row_run (N := 1169) (M := 1569) (s' := Sf40 o w os) (pfB1 o w os a b r) (by kernel_rfl) (by kernel_rfl) (row_run (N := 769) (M := 1169) (s' := Sf60 o w os) (pfB2 o w os a b r) (by kernel_rfl) (by kernel_rfl) (row_run (N := 367) (M := 769) (s' := Sf80 o w os) (pfB3 o w os a b r) (by kernel_rfl) (by kernel_rfl) (row_run (N := 27) (M := 367) (s' := Sf97 o w os) (pfB4 o w os a b r) (by kernel_rfl) (by kernel_rfl) (h)))))
theorem pf (w : World) (os : OsState) : segRun treeTable prg w 11 annV 1 (1778 + 1973) (Se w os).abs (piecesOf (sts 11 1) topEnv topC ⟨69, 0, 70, 30⟩ topB) = some (.next, (Sf w os).abs, topC, ⟨71, 0, 71, 6⟩) := by
  obtain ⟨h1, h23⟩ := Prod.mk.inj (pfA w os)
  obtain ⟨h2, h3⟩ := Prod.mk.inj h23
  refine seg_go (segGo_of h1) ?_
  have h4 := segRun_of h3
  rw [h2] at h4 ⊢
  exact chf w os _ _ _ _ _ h4
theorem prun (w : World) (os : OsState) : topRun treeTable prg w 11 annV (12 + (1 + (252 + ((446 + 329) + (30 + ((1778 + 1973) + (39 + (487 + (274 + 2))))))))) ⟨boot_heap w.params, Array.mk [], boot_drawn, boot_toks, os⟩ (topStub prg) = some ⟨Hi w.params, Array.mk [], {}, 694, os⟩ := by
  refine go_top (ppre w os) (piece_block (q := ⟨0, 0, 0, 0⟩) (pblk w os) ?_)
  rw [psts]
  exact piece_app (q := ⟨0, 0, 0, 0⟩) (segRun_of (pc w os)) (piece_app (pd w os) (piece_app (segRun_of (pe w os)) (piece_app (pf w os) (piece_app (segRun_of (pg w os)) (piece_app (segRun_of (ph w os)) (piece_app (segRun_of (pi w os)) (piece_nil (pfin w os))))))))
end
section
set_option maxRecDepth 100000
set_option maxHeartbeats 0
theorem psize (w : World) : ((boot_heap w.params).isNs mainGlobals && (Array.mk [] : Array GenState).size == 0, (boot_heap w.params).objs.size, (boot_heap w.params).nsMap mainGlobals "__annotations__") = (true, 11, annV) := by kernel_rfl
theorem popen : ∀ w : World, (fencedOpening treeTable prg w 6000).map (fun s => (s.heap, s.gens, s.drawn, s.toks)) = some (boot_heap w.params, Array.mk [], boot_drawn, boot_toks) :=
  boot_open (by kernel_rfl) (by decide) (fun s => by kernel_rfl)
noncomputable abbrev hk : Hook := kmHook KK KA (fun _ => by kernel_rfl) [nat_lit 205, nat_lit 210]
theorem look1 (w : World) (os : OsState) : (staticsOk (importedModules prg.main.body) (boot_heap w.params) (Hi w.params) && namesBound prg (Hi w.params) && gensDone ⟨Hi w.params, Array.mk [], {}, 694, os⟩ && laidKept (boot_heap w.params) (Hi w.params)) = true := by kernel_rfl
theorem look2 (w : World) (os : OsState) : openSeen qv lsv (importedModules prg.main.body) (fun s => xlAt qv [] s && recOk [] s) true ⟨Hi w.params, Array.mk [], {}, 694, os⟩ = openGood qv lsv := by
  rw [PySem.W.Fast.te4187177175401517315]; kernel_rfl
theorem look3 (w : World) (os : OsState) : hk.obs ⟨Hi w.params, Array.mk [], {}, 694, os⟩ = hk.val w := by kernel_rfl
end
section
set_option maxRecDepth 100000
set_option maxHeartbeats 0
abbrev rowR : OpenRow := PySem.Challenge.rw_wy0036_01.row
theorem left : LeftO rowR.prog qv lsv (fun s => xlAt qv [] s && recOk rowR.records s) hk.obs hk.val 6000 :=
  LeftO.of_pieces (g0 := true) (H₀ := boot_heap) (H₁ := Hi) (gs₀ := Array.mk []) (gs₁ := Array.mk []) (d₀ := boot_drawn) (d₁ := {}) (k₀ := boot_toks) (k₁ := 694) (m₀ := 11) (ann := annV) popen psize prun (by decide)
    (fun w => funext fun os => by
      refine Prod.ext ?_ (Prod.ext ?_ ?_)
      · exact look1 w os
      · exact look2 w os
      · exact look3 w os)
end
section
set_option maxRecDepth 100000
noncomputable abbrev PG : Program := PySem.Challenge.rw_wy0036_01.prog
noncomputable abbrev NoE : Value → Shared → Prop := fun _ _ => False
theorem reg : (∀ P, KK P = KK P) ∧ PySem.Challenge.rw_wy0036_01.prog = PySem.Challenge.rw_wy0036_01.prog := by
  k_fill
  exact ⟨fun _ => rfl, rfl⟩

noncomputable def mp (l : List (Str × Option Value)) : Str → Option Value := fun y => (l.lookup y).join
theorem mp_nil (y : Str) : mp [] y = none := rfl
theorem mp_cons (x : Str) (v : Option Value) (l : List (Str × Option Value)) (y : Str) : mp ((x, v) :: l) y = if y = x then v else mp l y := by
  unfold mp
  rw [List.lookup_cons]
  by_cases e : y = x
  · subst e; simp
  · have : (y == x) = false := by simpa using e
    simp [this, e]
theorem mp_set (x : Str) (v : Value) (l : List (Str × Option Value)) (y : Str) : (if y = x then some v else mp l y) = mp ((x, some v) :: l) y := (mp_cons x (some v) l y).symm
noncomputable def AllEq (a b : List (Str × Option Value)) : List Str → Prop
  | [] => True
  | y :: r => mp a y = mp b y ∧ AllEq a b r
theorem AllEq.mem {a b : List (Str × Option Value)} : ∀ {l : List Str}, AllEq a b l → ∀ y ∈ l, mp a y = mp b y
  | [], _, _, h => nomatch h
  | _ :: _, x, y, h => by
    rcases List.mem_cons.mp h with rfl | h
    · exact x.1
    · exact AllEq.mem x.2 y h
theorem mp_none {l : List (Str × Option Value)} {y : Str} (h : y ∉ l.map (·.1)) : mp l y = none := by
  induction l with
  | nil => rfl
  | cons p r ih =>
    obtain ⟨x, v⟩ := p
    rw [mp_cons]
    simp only [List.map_cons, List.mem_cons, not_or] at h
    rw [if_neg h.1, ih h.2]
theorem mp_eq {a b : List (Str × Option Value)} (h : AllEq a b (b.map (·.1) ++ a.map (·.1))) : mp a = mp b := by
  funext y
  by_cases hb : y ∈ b.map (·.1) ++ a.map (·.1)
  · exact h.mem y hb
  · simp only [List.mem_append, not_or] at hb
    rw [mp_none hb.1, mp_none hb.2]
theorem Fr.is {h₀ h : Heap} {L : Addr} {m : Str → Option Value} {l : List (Str × Option Value)} (F : Fr h₀ L h m) (e : m = mp l) : Fr h₀ L h (mp l) := e ▸ F
theorem canon_eq {l : List (Str × Option Value)} {ks : List Str} (h : l.all (fun p => ks.contains p.1) = true) : mp l = mp (ks.map fun k => (k, mp l k)) := by
  funext y
  by_cases hy : y ∈ ks
  · clear h
    induction ks with
    | nil => cases hy
    | cons k r ih =>
      rw [List.map_cons, mp_cons]
      by_cases e : y = k
      · rw [if_pos e, e]
      · rw [if_neg e]
        exact ih ((List.mem_cons.mp hy).resolve_left e)
  · rw [mp_none, mp_none]
    · simpa [Function.comp_def] using hy
    · intro hm
      obtain ⟨p, hp, rfl⟩ := List.mem_map.mp hm
      exact hy (by simpa using List.all_eq_true.mp h p hp)
theorem canon {h₀ h : Heap} {L : Addr} {l : List (Str × Option Value)} (ks : List Str) (F : Fr h₀ L h (mp l)) (hk : l.all (fun p => ks.contains p.1) = true) : Fr h₀ L h (mp (ks.map fun k => (k, mp l k))) := canon_eq hk ▸ F
theorem lk_mp : ∀ (l : List (Str × Value)) (y : Str), l.lookup y = mp (l.map fun p => (p.1, some p.2)) y
  | [], _ => rfl
  | (x, v) :: r, y => by
    rw [List.map_cons, mp_cons, ← lk_mp r y, List.lookup_cons]
    by_cases e : y = x
    · subst e; simp
    · have : (y == x) = false := by simpa using e
      simp [this, e]

section
variable {prog : Program} {w : World} {A : Around} {s : Shared} {h₀ : Heap} {L : Addr} {m mg mb : Str → Option Value} {news : List (Addr × Obj)} {K : Frag} {p : Program} {loose : List Str} {mean : ExcName → Option Value}
  {R : Result → Shared → Prop} {name qual : Str} {params : Arguments} {body : List Stmt} {scope : Scope} {dV kV doc pm cdv ct oc : Value} {an od : Option Addr} {osl : Array (Option Value)} {f : Addr} {args : Args}

theorem ground0 (F : Fr h₀ L s.heap m) (N : News h₀ L s.heap news) :
    Fr h₀ L (hideAll s.heap (news.map (·.1))) m ∧ h₀.StaysIn (hideAll s.heap (news.map (·.1))) ∧
      ∀ v s', LeaveK h₀ L m (hideAll s.heap (news.map (·.1))) R v s' → R (.ok (.ret v)) s' := by
  have nm : ∀ b o, h₀.get? b = some o → b ∉ news.map (·.1) := fun b o e q => by
    obtain ⟨p, hp, rfl⟩ := List.mem_map.mp q
    rw [(N p hp).2.2] at e; cases e
  have st : h₀.StaysIn (hideAll s.heap (news.map (·.1))) := fun b o e => hideAll_get _ (F.keep b o e) (nm b o e)
  obtain ⟨oL, es, ep, hL, hLd, hLk, hLf⟩ := F.ns
  have nL : L ∉ news.map (·.1) := fun q => by
    obtain ⟨p, hp, e⟩ := List.mem_map.mp q
    exact (N p hp).2.1 e
  have hLg := hideAll_get (news.map (·.1)) hL nL
  refine ⟨⟨⟨oL, es, ep, hLg, hLd, hLk, hLf⟩, st, F.above⟩, st, fun v s' hl => ?_⟩
  obtain ⟨L', m', news', F', N', k⟩ := hl
  refine k ⟨⟨oL, es, ep, F'.keep L oL hLg, hLd, hLk, hLf⟩, fun b o e => F'.keep b o (st b o e), F.above⟩ fun p hp => ⟨(N' p hp).1, fun q => ?_, ?_⟩
  · have := (N' p hp).2.2; rw [q, hLg] at this; cases this
  · cases q : h₀.get? p.1 with
    | none => rfl
    | some o => have := (N' p hp).2.2; rw [st _ _ q] at this; cases this

theorem sub_refl {α : Type} {l : List α} : ∀ p ∈ l, p ∈ l := fun _ h => h
theorem sub_c {α : Type} {a : α} {l m : List α} (h : a ∈ m) (k : ∀ p ∈ l, p ∈ m) : ∀ p ∈ a :: l, p ∈ m := List.forall_mem_cons.mpr ⟨h, k⟩
theorem sub_keep {α : Type} {a : α} {l m : List α} (h : ∀ p ∈ l, p ∈ m) : ∀ p ∈ a :: l, p ∈ a :: m := fun _ hp => (List.mem_cons.mp hp).elim (fun e => e ▸ List.mem_cons_self) fun hp => List.mem_cons_of_mem _ (h _ hp)
theorem sub_skip {α : Type} {a : α} {l m : List α} (h : ∀ p ∈ l, p ∈ m) : ∀ p ∈ l, p ∈ a :: m := fun _ hp => List.mem_cons_of_mem _ (h _ hp)
theorem sub_app {α : Type} {a l m : List α} (h : ∀ p ∈ l, p ∈ m) : ∀ p ∈ a ++ l, p ∈ a ++ m := fun _ hp => (List.mem_append.mp hp).elim (List.mem_append_left _) fun hp => List.mem_append_right _ (h _ hp)
theorem sub_skipa {α : Type} {a l m : List α} (h : ∀ p ∈ l, p ∈ m) : ∀ p ∈ l, p ∈ a ++ m := fun _ hp => List.mem_append_right _ (h _ hp)
theorem sub_l {α : Type} {a l m : List α} (h : ∀ p ∈ a, p ∈ m) (k : ∀ p ∈ l, p ∈ m) : ∀ p ∈ a ++ l, p ∈ m := List.forall_mem_append.mpr ⟨h, k⟩
theorem lt63 {n : Nat} (h : n ≤ 1000) : (n : Int) < 2 ^ 63 := by omega
noncomputable def Stop (P : Prop) : Prop := P
theorem stop_of {P : Prop} (h : Stop P) : P := h
theorem of_stop {P : Prop} (h : P) : Stop P := h
noncomputable def fnB (a : Addr) : Bool := [30, 39, 48, 57, 64, 88, 106, 123, 130, 144, 168, 179, 184, 191, 198, 203, 208, 213, 220].contains a
theorem stop_fn {M : Model} {A : Around} {a : Addr} {u : List Value} {v : List (Str × Value)} {Q : Value → Shared → Prop} {E : Value → Shared → Prop} {s : Shared} (_ : fnB a = true) (h : Stop (wpAny M A (call (.ref a) u v) Q E s)) : wpAny M A (call (.ref a) u v) Q E s := h
noncomputable def KeyAt (_ : Addr) : Prop := True
noncomputable def SubAt : Prop := True
theorem stop_sub {P : Prop} (_ : SubAt) (h : Stop P) : P := h
theorem stop_key {M : Model} {A : Around} {a : Addr} {pos : Pos} {u : List Value} {v : List (Bool × Sem Value)} {x : List (Option Str × Sem Value)} {Q : Value → Shared → Prop} {E : Value → Shared → Prop} {s : Shared} (_ : KeyAt a) (h : Stop (wpAny M A (callWith pos (.ref a) u v x) Q E s)) : wpAny M A (callWith pos (.ref a) u v x) Q E s := h
theorem looks_fn {M : Model} {a : Addr} {fo : Obj} {fd : FuncData} (hf : fo.data = .func fd) (h : Heap) (X : h.get? a = some fo) : ∃ k, (k = Keeper.frame ∨ k = Keeper.machine ∨ k = Keeper.boundFrame) ∧ Looks M h (keeperOf (.ref a)) k := by
  obtain ⟨oc, od, dt, sl⟩ := fo
  simp only at hf
  subst hf
  exact ⟨.frame, .inl rfl, (Looks.ld (part := none) X).andThen .now⟩
theorem callWith_led {M : Model} {E : Value → Shared → Prop} {env : Env} {pos : Pos} {kf : Addr} {fo : Obj} {fd : FuncData} {Q : Value → Shared → Prop} {e : Expr} {rest : List Expr} (hf : fo.data = .func fd)
    (h : wpAny M A (spliced (backTo pos (starEach (e :: rest) env))) (fun vs s₁ => Stop (s₁.heap.get? kf = some fo ∧ wpAny M A (call (.ref kf) vs) Q E s₁)) E s)
    (he : starEach (e :: rest) env = (false, eval e env) :: starEach rest env := by rfl) (hplain : (backTo pos (starEach rest env)).any (·.1) = false := by rfl) :
    wpAny M A (callWith pos (.ref kf) [] (backTo pos (starEach (e :: rest) env)) []) Q E s := by
  rw [he] at h ⊢
  exact callWith_of (by show ((false || (backTo pos (starEach rest env)).any (·.1)) || false) = false; rw [hplain]; rfl) (looks_fn hf) (evalArgs_plain h)

noncomputable abbrev lst (vs : List Value) (n : Nat) : Obj := { cls := .type "list", data := .seq vs.toArray n }
theorem len_lst {E : Value → Shared → Prop} {l : Addr} {vs : List Value} {n : Nat} {Q : Value → Shared → Prop} (N : News h₀ L s.heap news) (hm : (l, lst vs n) ∈ news) (hs : vs.length < 100000)
    (h : ∀ t tk, Q (.int vs.length t) { s with toks := tk }) : wpAny (model prog w) A (call (.builtin "len") [.ref l]) Q E s := by
  refine len_list (N.isList hm) ?_ ?_
  · rw [List.size_toArray]; omega
  · rw [List.size_toArray]; exact h _ _

theorem execs_cons_t {M : Model} {E : Value → Shared → Prop} {env : Env} {st : Stmt} {rest : List Stmt} {Q : Flow → Shared → Prop} {s : Shared} {tk' : Nat} (hX : 0 < tk') 
    (h : ∀ tk, 0 < tk → wpAny M A (exec st env) (fun f s' => match f with | .next => wpAny M A (execs rest env) Q E s' | f => Q f s') E { s with toks := tk }) : wpAny M A (execs (st :: rest) env) Q E { s with toks := tk' } := wpAny_execs_cons (h tk' hX)

theorem enterN (binds : List (Str × Value)) (F : Fr h₀ L s.heap m) (X : K.In h₀) (N : News h₀ L s.heap news) (T : Top p loose mean mg mb h₀)
    (ho : K.lookup f = some ⟨oc, od, .func (fnX name qual params body scope [] dV kV doc pm an cdv ct), osl⟩) (hcd : codeIn K cdv qual = true) (hroom : A.depth < recursionLimit)
    (hbind : BindsTo s (fnX name qual params body scope [] dV kV doc pm an cdv ct) args binds)
    (hloc : ∀ y ∈ binds, scope.names.lookup y.1 = some .local) (hcell : ∀ x ∈ scope.names, x.2 ≠ .cell)
    (hco : scope.isCoroutine = false) (hgen : scope.isGenerator = false) (hk : scope.kind = .function)
    (h : ∀ g L' h₁, Fr h₀ L g m → Fr g L' h₁ (mp (binds.reverse.map fun p => (p.1, some p.2))) → News g L' h₁ news → K.In g → Top p loose mean mg mb g → (∀ q ∈ news, q.1 < L') →
      wpAny (model prog w) (A.deeper (envX qual scope L' f cdv [])) (execs body (envX qual scope L' f cdv []))
        (fun fl s' => LeaveK h₀ L m g R (match fl with | .ret v => v | _ => .none) s') NoE
        { s with heap := h₁, toks := s.toks + binds.length }) : codeAny (model prog w) A (.call (.ref f) args) R s := by
  obtain ⟨FG, st, lv⟩ := ground0 (R := R) F N
  have hs := F.keep _ _ (X _ _ ho)
  refine codeAny_call_def (fd := fnX name qual params body scope [] dV kV doc pm an cdv ct) (body := body) (binds := binds) hroom hs rfl (T.nolimit.keeps F.keep) ((codeRec_of X hcd).keeps F.keep) rfl hbind hcell hloc (fun h₁ hns hk₁ => ?_) hco hgen hk
  exact wpAny_mono (h _ s.heap.objs.size h₁ FG ⟨(funext fun y => lk_mp binds.reverse y : (fun y => binds.reverse.lookup y) = _) ▸ hns, fun b o e => hk₁ b o (of_hideAll _ e), Nat.le_of_eq (hideAll_size _ _)⟩
    (fun p hp => ⟨hk₁ _ _ (N p hp).1, Nat.ne_of_lt (Heap.lt_size (N p hp).1), hideAll_none _ (List.mem_map_of_mem hp)⟩) (X.keeps st) (T.keeps st) (fun p hp => Heap.lt_size (N p hp).1)) (fun fl s' hl => lv _ _ hl) fun _ _ y => y.elim
end
end
section
set_option maxRecDepth 100000
noncomputable def setE (o : Obj) : List (Int × Value) := match o.data with | .set es _ _ => es.toList | _ => []
noncomputable def setN (o : Obj) : List Int := (setE o).map (·.1)
noncomputable def setOk (o : Obj) : Bool := (setE o).all (fun e => match e.2 with | .int k _ => e.1 == k && hashInt k == k | _ => false) &&
  (match o.data with | .set es _ t => t.fits es.size && decide (es.size < scanBound) | _ => false) && o.cls == .type "set" && o.dict == none && o.slots == #[]

theorem setOf_ok {w : World} {h : Heap} {a : Addr} {o : Obj} (ho : h.get? a = some o) (hk : setOk o = true) : h.SetOf (intKind PG w) a (fun k => (setN o).contains k) (setE o).length := by
  obtain ⟨c, d, dt, sl⟩ := o
  unfold setOk at hk
  simp only [Bool.and_eq_true, beq_iff_eq] at hk
  obtain ⟨⟨⟨⟨h1, h2⟩, rfl⟩, rfl⟩, rfl⟩ := hk
  cases dt with
  | set es ep t =>
    simp only [Bool.and_eq_true, decide_eq_true_eq] at h2
    have h1 := List.all_eq_true.mp h1
    simp only [setE] at h1
    refine ⟨_, es, ep, t, ho, ⟨rfl, rfl, rfl⟩, rfl, fun e he => ?_, fun k => ?_, h2.2, h2.1, by simp [setE]⟩
    · have := h1 e he
      revert this
      obtain ⟨i, v⟩ := e
      cases v <;> simp
      rename_i j t
      rintro rfl hj
      exact ⟨⟨i, by simp [intKind, Value.isInt], by simp [intKind, hj]⟩, rfl⟩
    · simp only [setN, setE, List.contains_iff_mem, List.mem_map]
      constructor
      · rintro ⟨e, he, rfl⟩
        refine ⟨e, he, ?_⟩
        have := h1 e he
        revert this
        obtain ⟨i, v⟩ := e
        cases v <;> simp
        rename_i j t
        rintro rfl _
        simp [intKind, Value.isInt]
      · rintro ⟨e, he, hk⟩
        refine ⟨e, he, ?_⟩
        have := h1 e he
        revert this hk
        obtain ⟨i, v⟩ := e
        cases v <;> simp [intKind, Value.isInt]
        rintro rfl rfl _
        rfl
  | _ => simp at h2

theorem set_in {w : World} {A : Around} {E : Value → Shared → Prop} {s : Shared} {h₀ : Heap} {L a : Addr} {m : Str → Option Value} {K : Frag} {o : Obj} {c : Int} {t : Tok} {Q : Value → Shared → Prop} (F : Fr h₀ L s.heap m) (X : K.In h₀) (ho : K.lookup a = some o) (hk : setOk o = true)
    (h : Q (.bool ((setN o).contains c)) { s with toks := s.toks + 1 }) : wpAny (model PG w) A (compareOp .In (.int c t) (.ref a)) Q E s :=
  wpAny_inSet_of (k := c) (by simp [intKind, Value.isInt]) rfl (setOf_ok (F.keep _ _ (X _ _ ho)) hk) h

theorem ok8 (b : Bool) (P : Params) : setOk (o78d b P) = true := by cases b <;> kernel_rfl
theorem ok9 (b : Bool) (P : Params) : setOk (o96f b P) = true := by cases b <;> kernel_rfl
end
section
set_option maxRecDepth 100000
noncomputable def Tag (_ : Prop) : Prop := True
noncomputable abbrev dom {P : Prop} (_ : Tag P) : Prop := P
theorem neP {α β : Type} (a : Nonempty α) (b : Nonempty β) : Nonempty (α × β) := a.elim fun x => b.elim fun y => ⟨(x, y)⟩
noncomputable def Sld : Type := Unit
noncomputable def SldP : Prop := True
theorem mk_sld {G : Prop} (h : Sld → G) : G := h ()
theorem mk_sldP {G : Prop} (h : SldP → G) : G := h trivial
theorem pad {P : Prop} (h : ∀ zz9 : Unit, P) : P := h ()
theorem ne3 {α : Type} (h : Nonempty GenState → Nonempty World → Nonempty Shared → Nonempty Around → Nonempty α) : Nonempty α := h ⟨.running⟩ ⟨⟨fun _ _ => 0, { strHash := fun _ => 0, shareClass := fun _ => 0, mergeTok := id, idOf := fun _ => 0, idOfShared := fun _ _ => 0, followText := fun _ => true, idOfImm := fun _ => 0 }⟩⟩ ⟨{}⟩ ⟨{}⟩
noncomputable abbrev Dsl1 {a : Type} (p : a → Prop) : Prop := ∀ x, p x
noncomputable def T24 {a0 a1 a2 a3 a4 a5 a6 a7 a8 a9 a10 a11 a12 a13 a14 a15 a16 a17 a18 a19 a20 a21 a22 a23 : Type} (ne : Nonempty (((a0 × a1 × a2 × a3 × a4 × a5 × a6 × a7) × (a8 × a9 × a10 × a11 × a12 × a13 × a14 × a15) × (a16 × a17 × a18 × a19 × a20 × a21 × a22 × a23)))) (p : a0 → a1 → a2 → a3 → a4 → a5 → a6 → a7 → a8 → a9 → a10 → a11 → a12 → a13 → a14 → a15 → a16 → a17 → a18 → a19 → a20 → a21 → a22 → a23 → Prop) : ((a0 × a1 × a2 × a3 × a4 × a5 × a6 × a7) × (a8 × a9 × a10 × a11 × a12 × a13 × a14 × a15) × (a16 × a17 × a18 × a19 × a20 × a21 × a22 × a23)) := @Classical.epsilon (((a0 × a1 × a2 × a3 × a4 × a5 × a6 × a7) × (a8 × a9 × a10 × a11 × a12 × a13 × a14 × a15) × (a16 × a17 × a18 × a19 × a20 × a21 × a22 × a23))) ne fun t => ¬ p (t.1.1) (t.1.2.1) (t.1.2.2.1) (t.1.2.2.2.1) (t.1.2.2.2.2.1) (t.1.2.2.2.2.2.1) (t.1.2.2.2.2.2.2.1) (t.1.2.2.2.2.2.2.2) (t.2.1.1) (t.2.1.2.1) (t.2.1.2.2.1) (t.2.1.2.2.2.1) (t.2.1.2.2.2.2.1) (t.2.1.2.2.2.2.2.1) (t.2.1.2.2.2.2.2.2.1) (t.2.1.2.2.2.2.2.2.2) (t.2.2.1) (t.2.2.2.1) (t.2.2.2.2.1) (t.2.2.2.2.2.1) (t.2.2.2.2.2.2.1) (t.2.2.2.2.2.2.2.1) (t.2.2.2.2.2.2.2.2.1) (t.2.2.2.2.2.2.2.2.2)
noncomputable def At24 {a0 a1 a2 a3 a4 a5 a6 a7 a8 a9 a10 a11 a12 a13 a14 a15 a16 a17 a18 a19 a20 a21 a22 a23 : Type} (p : a0 → a1 → a2 → a3 → a4 → a5 → a6 → a7 → a8 → a9 → a10 → a11 → a12 → a13 → a14 → a15 → a16 → a17 → a18 → a19 → a20 → a21 → a22 → a23 → Prop) (x0 : a0) (x1 : a1) (x2 : a2) (x3 : a3) (x4 : a4) (x5 : a5) (x6 : a6) (x7 : a7) (x8 : a8) (x9 : a9) (x10 : a10) (x11 : a11) (x12 : a12) (x13 : a13) (x14 : a14) (x15 : a15) (x16 : a16) (x17 : a17) (x18 : a18) (x19 : a19) (x20 : a20) (x21 : a21) (x22 : a22) (x23 : a23) : Prop := p x0 x1 x2 x3 x4 x5 x6 x7 x8 x9 x10 x11 x12 x13 x14 x15 x16 x17 x18 x19 x20 x21 x22 x23
noncomputable abbrev All24 {a0 a1 a2 a3 a4 a5 a6 a7 a8 a9 a10 a11 a12 a13 a14 a15 a16 a17 a18 a19 a20 a21 a22 a23 : Type} (p : a0 → a1 → a2 → a3 → a4 → a5 → a6 → a7 → a8 → a9 → a10 → a11 → a12 → a13 → a14 → a15 → a16 → a17 → a18 → a19 → a20 → a21 → a22 → a23 → Prop) : Prop := ∀ x0 x1 x2 x3 x4 x5 x6 x7 x8 x9 x10 x11 x12 x13 x14 x15 x16 x17 x18 x19 x20 x21 x22 x23, At24 p x0 x1 x2 x3 x4 x5 x6 x7 x8 x9 x10 x11 x12 x13 x14 x15 x16 x17 x18 x19 x20 x21 x22 x23
noncomputable abbrev Dsl24 {a0 a1 a2 a3 a4 a5 a6 a7 a8 a9 a10 a11 a12 a13 a14 a15 a16 a17 a18 a19 a20 a21 a22 a23 : Type} (p : a0 → a1 → a2 → a3 → a4 → a5 → a6 → a7 → a8 → a9 → a10 → a11 → a12 → a13 → a14 → a15 → a16 → a17 → a18 → a19 → a20 → a21 → a22 → a23 → Prop) : Prop := ∀ x0 x1 x2 x3 x4 x5 x6 x7 x8 x9 x10 x11 x12 x13 x14 x15 x16 x17 x18 x19 x20 x21 x22 x23, p x0 x1 x2 x3 x4 x5 x6 x7 x8 x9 x10 x11 x12 x13 x14 x15 x16 x17 x18 x19 x20 x21 x22 x23
noncomputable def AtT24 {a0 a1 a2 a3 a4 a5 a6 a7 a8 a9 a10 a11 a12 a13 a14 a15 a16 a17 a18 a19 a20 a21 a22 a23 : Type} (p : a0 → a1 → a2 → a3 → a4 → a5 → a6 → a7 → a8 → a9 → a10 → a11 → a12 → a13 → a14 → a15 → a16 → a17 → a18 → a19 → a20 → a21 → a22 → a23 → Prop) (t : ((a0 × a1 × a2 × a3 × a4 × a5 × a6 × a7) × (a8 × a9 × a10 × a11 × a12 × a13 × a14 × a15) × (a16 × a17 × a18 × a19 × a20 × a21 × a22 × a23))) : Prop := At24 p (t.1.1) (t.1.2.1) (t.1.2.2.1) (t.1.2.2.2.1) (t.1.2.2.2.2.1) (t.1.2.2.2.2.2.1) (t.1.2.2.2.2.2.2.1) (t.1.2.2.2.2.2.2.2) (t.2.1.1) (t.2.1.2.1) (t.2.1.2.2.1) (t.2.1.2.2.2.1) (t.2.1.2.2.2.2.1) (t.2.1.2.2.2.2.2.1) (t.2.1.2.2.2.2.2.2.1) (t.2.1.2.2.2.2.2.2.2) (t.2.2.1) (t.2.2.2.1) (t.2.2.2.2.1) (t.2.2.2.2.2.1) (t.2.2.2.2.2.2.1) (t.2.2.2.2.2.2.2.1) (t.2.2.2.2.2.2.2.2.1) (t.2.2.2.2.2.2.2.2.2)
noncomputable abbrev AllT24 {a0 a1 a2 a3 a4 a5 a6 a7 a8 a9 a10 a11 a12 a13 a14 a15 a16 a17 a18 a19 a20 a21 a22 a23 : Type} (p : a0 → a1 → a2 → a3 → a4 → a5 → a6 → a7 → a8 → a9 → a10 → a11 → a12 → a13 → a14 → a15 → a16 → a17 → a18 → a19 → a20 → a21 → a22 → a23 → Prop) : Prop := ∀ t, AtT24 p t
theorem seal24 {P : Prop} {a0 a1 a2 a3 a4 a5 a6 a7 a8 a9 a10 a11 a12 a13 a14 a15 a16 a17 a18 a19 a20 a21 a22 a23 : Type} {p : a0 → a1 → a2 → a3 → a4 → a5 → a6 → a7 → a8 → a9 → a10 → a11 → a12 → a13 → a14 → a15 → a16 → a17 → a18 → a19 → a20 → a21 → a22 → a23 → Prop} (q : (∀ x0 x1 x2 x3 x4 x5 x6 x7 x8 x9 x10 x11 x12 x13 x14 x15 x16 x17 x18 x19 x20 x21 x22 x23, p x0 x1 x2 x3 x4 x5 x6 x7 x8 x9 x10 x11 x12 x13 x14 x15 x16 x17 x18 x19 x20 x21 x22 x23) → P) (ne : Nonempty (((a0 × a1 × a2 × a3 × a4 × a5 × a6 × a7) × (a8 × a9 × a10 × a11 × a12 × a13 × a14 × a15) × (a16 × a17 × a18 × a19 × a20 × a21 × a22 × a23)))) (h : Tag P → AtT24 p (T24 ne p)) : P := q fun x0 x1 x2 x3 x4 x5 x6 x7 x8 x9 x10 x11 x12 x13 x14 x15 x16 x17 x18 x19 x20 x21 x22 x23 => Classical.byContradiction fun hx => absurd (h trivial) (Classical.epsilon_spec (p := fun t : ((a0 × a1 × a2 × a3 × a4 × a5 × a6 × a7) × (a8 × a9 × a10 × a11 × a12 × a13 × a14 × a15) × (a16 × a17 × a18 × a19 × a20 × a21 × a22 × a23)) => ¬ p (t.1.1) (t.1.2.1) (t.1.2.2.1) (t.1.2.2.2.1) (t.1.2.2.2.2.1) (t.1.2.2.2.2.2.1) (t.1.2.2.2.2.2.2.1) (t.1.2.2.2.2.2.2.2) (t.2.1.1) (t.2.1.2.1) (t.2.1.2.2.1) (t.2.1.2.2.2.1) (t.2.1.2.2.2.2.1) (t.2.1.2.2.2.2.2.1) (t.2.1.2.2.2.2.2.2.1) (t.2.1.2.2.2.2.2.2.2) (t.2.2.1) (t.2.2.2.1) (t.2.2.2.2.1) (t.2.2.2.2.2.1) (t.2.2.2.2.2.2.1) (t.2.2.2.2.2.2.2.1) (t.2.2.2.2.2.2.2.2.1) (t.2.2.2.2.2.2.2.2.2)) ⟨((x0, x1, x2, x3, x4, x5, x6, x7), (x8, x9, x10, x11, x12, x13, x14, x15), (x16, x17, x18, x19, x20, x21, x22, x23)), hx⟩)
noncomputable abbrev Dsl25 {a0 a1 a2 a3 a4 a5 a6 a7 a8 a9 a10 a11 a12 a13 a14 a15 a16 a17 a18 a19 a20 a21 a22 a23 a24 : Type} (p : a0 → a1 → a2 → a3 → a4 → a5 → a6 → a7 → a8 → a9 → a10 → a11 → a12 → a13 → a14 → a15 → a16 → a17 → a18 → a19 → a20 → a21 → a22 → a23 → a24 → Prop) : Prop := ∀ x0 x1 x2 x3 x4 x5 x6 x7 x8 x9 x10 x11 x12 x13 x14 x15 x16 x17 x18 x19 x20 x21 x22 x23 x24, p x0 x1 x2 x3 x4 x5 x6 x7 x8 x9 x10 x11 x12 x13 x14 x15 x16 x17 x18 x19 x20 x21 x22 x23 x24
noncomputable def T52 {a0 a1 a2 a3 a4 a5 a6 a7 a8 a9 a10 a11 a12 a13 a14 a15 a16 a17 a18 a19 a20 a21 a22 a23 a24 a25 a26 a27 a28 a29 a30 a31 a32 a33 a34 a35 a36 a37 a38 a39 a40 a41 a42 a43 a44 a45 a46 a47 a48 a49 a50 a51 : Type} (ne : Nonempty (((a0 × a1 × a2 × a3 × a4 × a5 × a6 × a7) × (a8 × a9 × a10 × a11 × a12 × a13 × a14 × a15) × (a16 × a17 × a18 × a19 × a20 × a21 × a22 × a23) × (a24 × a25 × a26 × a27 × a28 × a29 × a30) × (a31 × a32 × a33 × a34 × a35 × a36 × a37) × (a38 × a39 × a40 × a41 × a42 × a43 × a44) × (a45 × a46 × a47 × a48 × a49 × a50 × a51)))) (p : a0 → a1 → a2 → a3 → a4 → a5 → a6 → a7 → a8 → a9 → a10 → a11 → a12 → a13 → a14 → a15 → a16 → a17 → a18 → a19 → a20 → a21 → a22 → a23 → a24 → a25 → a26 → a27 → a28 → a29 → a30 → a31 → a32 → a33 → a34 → a35 → a36 → a37 → a38 → a39 → a40 → a41 → a42 → a43 → a44 → a45 → a46 → a47 → a48 → a49 → a50 → a51 → Prop) : ((a0 × a1 × a2 × a3 × a4 × a5 × a6 × a7) × (a8 × a9 × a10 × a11 × a12 × a13 × a14 × a15) × (a16 × a17 × a18 × a19 × a20 × a21 × a22 × a23) × (a24 × a25 × a26 × a27 × a28 × a29 × a30) × (a31 × a32 × a33 × a34 × a35 × a36 × a37) × (a38 × a39 × a40 × a41 × a42 × a43 × a44) × (a45 × a46 × a47 × a48 × a49 × a50 × a51)) := @Classical.epsilon (((a0 × a1 × a2 × a3 × a4 × a5 × a6 × a7) × (a8 × a9 × a10 × a11 × a12 × a13 × a14 × a15) × (a16 × a17 × a18 × a19 × a20 × a21 × a22 × a23) × (a24 × a25 × a26 × a27 × a28 × a29 × a30) × (a31 × a32 × a33 × a34 × a35 × a36 × a37) × (a38 × a39 × a40 × a41 × a42 × a43 × a44) × (a45 × a46 × a47 × a48 × a49 × a50 × a51))) ne fun t => ¬ p (t.1.1) (t.1.2.1) (t.1.2.2.1) (t.1.2.2.2.1) (t.1.2.2.2.2.1) (t.1.2.2.2.2.2.1) (t.1.2.2.2.2.2.2.1) (t.1.2.2.2.2.2.2.2) (t.2.1.1) (t.2.1.2.1) (t.2.1.2.2.1) (t.2.1.2.2.2.1) (t.2.1.2.2.2.2.1) (t.2.1.2.2.2.2.2.1) (t.2.1.2.2.2.2.2.2.1) (t.2.1.2.2.2.2.2.2.2) (t.2.2.1.1) (t.2.2.1.2.1) (t.2.2.1.2.2.1) (t.2.2.1.2.2.2.1) (t.2.2.1.2.2.2.2.1) (t.2.2.1.2.2.2.2.2.1) (t.2.2.1.2.2.2.2.2.2.1) (t.2.2.1.2.2.2.2.2.2.2) (t.2.2.2.1.1) (t.2.2.2.1.2.1) (t.2.2.2.1.2.2.1) (t.2.2.2.1.2.2.2.1) (t.2.2.2.1.2.2.2.2.1) (t.2.2.2.1.2.2.2.2.2.1) (t.2.2.2.1.2.2.2.2.2.2) (t.2.2.2.2.1.1) (t.2.2.2.2.1.2.1) (t.2.2.2.2.1.2.2.1) (t.2.2.2.2.1.2.2.2.1) (t.2.2.2.2.1.2.2.2.2.1) (t.2.2.2.2.1.2.2.2.2.2.1) (t.2.2.2.2.1.2.2.2.2.2.2) (t.2.2.2.2.2.1.1) (t.2.2.2.2.2.1.2.1) (t.2.2.2.2.2.1.2.2.1) (t.2.2.2.2.2.1.2.2.2.1) (t.2.2.2.2.2.1.2.2.2.2.1) (t.2.2.2.2.2.1.2.2.2.2.2.1) (t.2.2.2.2.2.1.2.2.2.2.2.2) (t.2.2.2.2.2.2.1) (t.2.2.2.2.2.2.2.1) (t.2.2.2.2.2.2.2.2.1) (t.2.2.2.2.2.2.2.2.2.1) (t.2.2.2.2.2.2.2.2.2.2.1) (t.2.2.2.2.2.2.2.2.2.2.2.1) (t.2.2.2.2.2.2.2.2.2.2.2.2)
noncomputable def At52 {a0 a1 a2 a3 a4 a5 a6 a7 a8 a9 a10 a11 a12 a13 a14 a15 a16 a17 a18 a19 a20 a21 a22 a23 a24 a25 a26 a27 a28 a29 a30 a31 a32 a33 a34 a35 a36 a37 a38 a39 a40 a41 a42 a43 a44 a45 a46 a47 a48 a49 a50 a51 : Type} (p : a0 → a1 → a2 → a3 → a4 → a5 → a6 → a7 → a8 → a9 → a10 → a11 → a12 → a13 → a14 → a15 → a16 → a17 → a18 → a19 → a20 → a21 → a22 → a23 → a24 → a25 → a26 → a27 → a28 → a29 → a30 → a31 → a32 → a33 → a34 → a35 → a36 → a37 → a38 → a39 → a40 → a41 → a42 → a43 → a44 → a45 → a46 → a47 → a48 → a49 → a50 → a51 → Prop) (x0 : a0) (x1 : a1) (x2 : a2) (x3 : a3) (x4 : a4) (x5 : a5) (x6 : a6) (x7 : a7) (x8 : a8) (x9 : a9) (x10 : a10) (x11 : a11) (x12 : a12) (x13 : a13) (x14 : a14) (x15 : a15) (x16 : a16) (x17 : a17) (x18 : a18) (x19 : a19) (x20 : a20) (x21 : a21) (x22 : a22) (x23 : a23) (x24 : a24) (x25 : a25) (x26 : a26) (x27 : a27) (x28 : a28) (x29 : a29) (x30 : a30) (x31 : a31) (x32 : a32) (x33 : a33) (x34 : a34) (x35 : a35) (x36 : a36) (x37 : a37) (x38 : a38) (x39 : a39) (x40 : a40) (x41 : a41) (x42 : a42) (x43 : a43) (x44 : a44) (x45 : a45) (x46 : a46) (x47 : a47) (x48 : a48) (x49 : a49) (x50 : a50) (x51 : a51) : Prop := p x0 x1 x2 x3 x4 x5 x6 x7 x8 x9 x10 x11 x12 x13 x14 x15 x16 x17 x18 x19 x20 x21 x22 x23 x24 x25 x26 x27 x28 x29 x30 x31 x32 x33 x34 x35 x36 x37 x38 x39 x40 x41 x42 x43 x44 x45 x46 x47 x48 x49 x50 x51
noncomputable abbrev All52 {a0 a1 a2 a3 a4 a5 a6 a7 a8 a9 a10 a11 a12 a13 a14 a15 a16 a17 a18 a19 a20 a21 a22 a23 a24 a25 a26 a27 a28 a29 a30 a31 a32 a33 a34 a35 a36 a37 a38 a39 a40 a41 a42 a43 a44 a45 a46 a47 a48 a49 a50 a51 : Type} (p : a0 → a1 → a2 → a3 → a4 → a5 → a6 → a7 → a8 → a9 → a10 → a11 → a12 → a13 → a14 → a15 → a16 → a17 → a18 → a19 → a20 → a21 → a22 → a23 → a24 → a25 → a26 → a27 → a28 → a29 → a30 → a31 → a32 → a33 → a34 → a35 → a36 → a37 → a38 → a39 → a40 → a41 → a42 → a43 → a44 → a45 → a46 → a47 → a48 → a49 → a50 → a51 → Prop) : Prop := ∀ x0 x1 x2 x3 x4 x5 x6 x7 x8 x9 x10 x11 x12 x13 x14 x15 x16 x17 x18 x19 x20 x21 x22 x23 x24 x25 x26 x27 x28 x29 x30 x31 x32 x33 x34 x35 x36 x37 x38 x39 x40 x41 x42 x43 x44 x45 x46 x47 x48 x49 x50 x51, At52 p x0 x1 x2 x3 x4 x5 x6 x7 x8 x9 x10 x11 x12 x13 x14 x15 x16 x17 x18 x19 x20 x21 x22 x23 x24 x25 x26 x27 x28 x29 x30 x31 x32 x33 x34 x35 x36 x37 x38 x39 x40 x41 x42 x43 x44 x45 x46 x47 x48 x49 x50 x51
noncomputable abbrev Dsl52 {a0 a1 a2 a3 a4 a5 a6 a7 a8 a9 a10 a11 a12 a13 a14 a15 a16 a17 a18 a19 a20 a21 a22 a23 a24 a25 a26 a27 a28 a29 a30 a31 a32 a33 a34 a35 a36 a37 a38 a39 a40 a41 a42 a43 a44 a45 a46 a47 a48 a49 a50 a51 : Type} (p : a0 → a1 → a2 → a3 → a4 → a5 → a6 → a7 → a8 → a9 → a10 → a11 → a12 → a13 → a14 → a15 → a16 → a17 → a18 → a19 → a20 → a21 → a22 → a23 → a24 → a25 → a26 → a27 → a28 → a29 → a30 → a31 → a32 → a33 → a34 → a35 → a36 → a37 → a38 → a39 → a40 → a41 → a42 → a43 → a44 → a45 → a46 → a47 → a48 → a49 → a50 → a51 → Prop) : Prop := ∀ x0 x1 x2 x3 x4 x5 x6 x7 x8 x9 x10 x11 x12 x13 x14 x15 x16 x17 x18 x19 x20 x21 x22 x23 x24 x25 x26 x27 x28 x29 x30 x31 x32 x33 x34 x35 x36 x37 x38 x39 x40 x41 x42 x43 x44 x45 x46 x47 x48 x49 x50 x51, p x0 x1 x2 x3 x4 x5 x6 x7 x8 x9 x10 x11 x12 x13 x14 x15 x16 x17 x18 x19 x20 x21 x22 x23 x24 x25 x26 x27 x28 x29 x30 x31 x32 x33 x34 x35 x36 x37 x38 x39 x40 x41 x42 x43 x44 x45 x46 x47 x48 x49 x50 x51
noncomputable def AtT52 {a0 a1 a2 a3 a4 a5 a6 a7 a8 a9 a10 a11 a12 a13 a14 a15 a16 a17 a18 a19 a20 a21 a22 a23 a24 a25 a26 a27 a28 a29 a30 a31 a32 a33 a34 a35 a36 a37 a38 a39 a40 a41 a42 a43 a44 a45 a46 a47 a48 a49 a50 a51 : Type} (p : a0 → a1 → a2 → a3 → a4 → a5 → a6 → a7 → a8 → a9 → a10 → a11 → a12 → a13 → a14 → a15 → a16 → a17 → a18 → a19 → a20 → a21 → a22 → a23 → a24 → a25 → a26 → a27 → a28 → a29 → a30 → a31 → a32 → a33 → a34 → a35 → a36 → a37 → a38 → a39 → a40 → a41 → a42 → a43 → a44 → a45 → a46 → a47 → a48 → a49 → a50 → a51 → Prop) (t : ((a0 × a1 × a2 × a3 × a4 × a5 × a6 × a7) × (a8 × a9 × a10 × a11 × a12 × a13 × a14 × a15) × (a16 × a17 × a18 × a19 × a20 × a21 × a22 × a23) × (a24 × a25 × a26 × a27 × a28 × a29 × a30) × (a31 × a32 × a33 × a34 × a35 × a36 × a37) × (a38 × a39 × a40 × a41 × a42 × a43 × a44) × (a45 × a46 × a47 × a48 × a49 × a50 × a51))) : Prop := At52 p (t.1.1) (t.1.2.1) (t.1.2.2.1) (t.1.2.2.2.1) (t.1.2.2.2.2.1) (t.1.2.2.2.2.2.1) (t.1.2.2.2.2.2.2.1) (t.1.2.2.2.2.2.2.2) (t.2.1.1) (t.2.1.2.1) (t.2.1.2.2.1) (t.2.1.2.2.2.1) (t.2.1.2.2.2.2.1) (t.2.1.2.2.2.2.2.1) (t.2.1.2.2.2.2.2.2.1) (t.2.1.2.2.2.2.2.2.2) (t.2.2.1.1) (t.2.2.1.2.1) (t.2.2.1.2.2.1) (t.2.2.1.2.2.2.1) (t.2.2.1.2.2.2.2.1) (t.2.2.1.2.2.2.2.2.1) (t.2.2.1.2.2.2.2.2.2.1) (t.2.2.1.2.2.2.2.2.2.2) (t.2.2.2.1.1) (t.2.2.2.1.2.1) (t.2.2.2.1.2.2.1) (t.2.2.2.1.2.2.2.1) (t.2.2.2.1.2.2.2.2.1) (t.2.2.2.1.2.2.2.2.2.1) (t.2.2.2.1.2.2.2.2.2.2) (t.2.2.2.2.1.1) (t.2.2.2.2.1.2.1) (t.2.2.2.2.1.2.2.1) (t.2.2.2.2.1.2.2.2.1) (t.2.2.2.2.1.2.2.2.2.1) (t.2.2.2.2.1.2.2.2.2.2.1) (t.2.2.2.2.1.2.2.2.2.2.2) (t.2.2.2.2.2.1.1) (t.2.2.2.2.2.1.2.1) (t.2.2.2.2.2.1.2.2.1) (t.2.2.2.2.2.1.2.2.2.1) (t.2.2.2.2.2.1.2.2.2.2.1) (t.2.2.2.2.2.1.2.2.2.2.2.1) (t.2.2.2.2.2.1.2.2.2.2.2.2) (t.2.2.2.2.2.2.1) (t.2.2.2.2.2.2.2.1) (t.2.2.2.2.2.2.2.2.1) (t.2.2.2.2.2.2.2.2.2.1) (t.2.2.2.2.2.2.2.2.2.2.1) (t.2.2.2.2.2.2.2.2.2.2.2.1) (t.2.2.2.2.2.2.2.2.2.2.2.2)
noncomputable abbrev AllT52 {a0 a1 a2 a3 a4 a5 a6 a7 a8 a9 a10 a11 a12 a13 a14 a15 a16 a17 a18 a19 a20 a21 a22 a23 a24 a25 a26 a27 a28 a29 a30 a31 a32 a33 a34 a35 a36 a37 a38 a39 a40 a41 a42 a43 a44 a45 a46 a47 a48 a49 a50 a51 : Type} (p : a0 → a1 → a2 → a3 → a4 → a5 → a6 → a7 → a8 → a9 → a10 → a11 → a12 → a13 → a14 → a15 → a16 → a17 → a18 → a19 → a20 → a21 → a22 → a23 → a24 → a25 → a26 → a27 → a28 → a29 → a30 → a31 → a32 → a33 → a34 → a35 → a36 → a37 → a38 → a39 → a40 → a41 → a42 → a43 → a44 → a45 → a46 → a47 → a48 → a49 → a50 → a51 → Prop) : Prop := ∀ t, AtT52 p t
theorem seal52 {P : Prop} {a0 a1 a2 a3 a4 a5 a6 a7 a8 a9 a10 a11 a12 a13 a14 a15 a16 a17 a18 a19 a20 a21 a22 a23 a24 a25 a26 a27 a28 a29 a30 a31 a32 a33 a34 a35 a36 a37 a38 a39 a40 a41 a42 a43 a44 a45 a46 a47 a48 a49 a50 a51 : Type} {p : a0 → a1 → a2 → a3 → a4 → a5 → a6 → a7 → a8 → a9 → a10 → a11 → a12 → a13 → a14 → a15 → a16 → a17 → a18 → a19 → a20 → a21 → a22 → a23 → a24 → a25 → a26 → a27 → a28 → a29 → a30 → a31 → a32 → a33 → a34 → a35 → a36 → a37 → a38 → a39 → a40 → a41 → a42 → a43 → a44 → a45 → a46 → a47 → a48 → a49 → a50 → a51 → Prop} (q : (∀ x0 x1 x2 x3 x4 x5 x6 x7 x8 x9 x10 x11 x12 x13 x14 x15 x16 x17 x18 x19 x20 x21 x22 x23 x24 x25 x26 x27 x28 x29 x30 x31 x32 x33 x34 x35 x36 x37 x38 x39 x40 x41 x42 x43 x44 x45 x46 x47 x48 x49 x50 x51, p x0 x1 x2 x3 x4 x5 x6 x7 x8 x9 x10 x11 x12 x13 x14 x15 x16 x17 x18 x19 x20 x21 x22 x23 x24 x25 x26 x27 x28 x29 x30 x31 x32 x33 x34 x35 x36 x37 x38 x39 x40 x41 x42 x43 x44 x45 x46 x47 x48 x49 x50 x51) → P) (ne : Nonempty (((a0 × a1 × a2 × a3 × a4 × a5 × a6 × a7) × (a8 × a9 × a10 × a11 × a12 × a13 × a14 × a15) × (a16 × a17 × a18 × a19 × a20 × a21 × a22 × a23) × (a24 × a25 × a26 × a27 × a28 × a29 × a30) × (a31 × a32 × a33 × a34 × a35 × a36 × a37) × (a38 × a39 × a40 × a41 × a42 × a43 × a44) × (a45 × a46 × a47 × a48 × a49 × a50 × a51)))) (h : Tag P → AtT52 p (T52 ne p)) : P := q fun x0 x1 x2 x3 x4 x5 x6 x7 x8 x9 x10 x11 x12 x13 x14 x15 x16 x17 x18 x19 x20 x21 x22 x23 x24 x25 x26 x27 x28 x29 x30 x31 x32 x33 x34 x35 x36 x37 x38 x39 x40 x41 x42 x43 x44 x45 x46 x47 x48 x49 x50 x51 => Classical.byContradiction fun hx => absurd (h trivial) (Classical.epsilon_spec (p := fun t : ((a0 × a1 × a2 × a3 × a4 × a5 × a6 × a7) × (a8 × a9 × a10 × a11 × a12 × a13 × a14 × a15) × (a16 × a17 × a18 × a19 × a20 × a21 × a22 × a23) × (a24 × a25 × a26 × a27 × a28 × a29 × a30) × (a31 × a32 × a33 × a34 × a35 × a36 × a37) × (a38 × a39 × a40 × a41 × a42 × a43 × a44) × (a45 × a46 × a47 × a48 × a49 × a50 × a51)) => ¬ p (t.1.1) (t.1.2.1) (t.1.2.2.1) (t.1.2.2.2.1) (t.1.2.2.2.2.1) (t.1.2.2.2.2.2.1) (t.1.2.2.2.2.2.2.1) (t.1.2.2.2.2.2.2.2) (t.2.1.1) (t.2.1.2.1) (t.2.1.2.2.1) (t.2.1.2.2.2.1) (t.2.1.2.2.2.2.1) (t.2.1.2.2.2.2.2.1) (t.2.1.2.2.2.2.2.2.1) (t.2.1.2.2.2.2.2.2.2) (t.2.2.1.1) (t.2.2.1.2.1) (t.2.2.1.2.2.1) (t.2.2.1.2.2.2.1) (t.2.2.1.2.2.2.2.1) (t.2.2.1.2.2.2.2.2.1) (t.2.2.1.2.2.2.2.2.2.1) (t.2.2.1.2.2.2.2.2.2.2) (t.2.2.2.1.1) (t.2.2.2.1.2.1) (t.2.2.2.1.2.2.1) (t.2.2.2.1.2.2.2.1) (t.2.2.2.1.2.2.2.2.1) (t.2.2.2.1.2.2.2.2.2.1) (t.2.2.2.1.2.2.2.2.2.2) (t.2.2.2.2.1.1) (t.2.2.2.2.1.2.1) (t.2.2.2.2.1.2.2.1) (t.2.2.2.2.1.2.2.2.1) (t.2.2.2.2.1.2.2.2.2.1) (t.2.2.2.2.1.2.2.2.2.2.1) (t.2.2.2.2.1.2.2.2.2.2.2) (t.2.2.2.2.2.1.1) (t.2.2.2.2.2.1.2.1) (t.2.2.2.2.2.1.2.2.1) (t.2.2.2.2.2.1.2.2.2.1) (t.2.2.2.2.2.1.2.2.2.2.1) (t.2.2.2.2.2.1.2.2.2.2.2.1) (t.2.2.2.2.2.1.2.2.2.2.2.2) (t.2.2.2.2.2.2.1) (t.2.2.2.2.2.2.2.1) (t.2.2.2.2.2.2.2.2.1) (t.2.2.2.2.2.2.2.2.2.1) (t.2.2.2.2.2.2.2.2.2.2.1) (t.2.2.2.2.2.2.2.2.2.2.2.1) (t.2.2.2.2.2.2.2.2.2.2.2.2)) ⟨((x0, x1, x2, x3, x4, x5, x6, x7), (x8, x9, x10, x11, x12, x13, x14, x15), (x16, x17, x18, x19, x20, x21, x22, x23), (x24, x25, x26, x27, x28, x29, x30), (x31, x32, x33, x34, x35, x36, x37), (x38, x39, x40, x41, x42, x43, x44), (x45, x46, x47, x48, x49, x50, x51)), hx⟩)
noncomputable abbrev Dsl53 {a0 a1 a2 a3 a4 a5 a6 a7 a8 a9 a10 a11 a12 a13 a14 a15 a16 a17 a18 a19 a20 a21 a22 a23 a24 a25 a26 a27 a28 a29 a30 a31 a32 a33 a34 a35 a36 a37 a38 a39 a40 a41 a42 a43 a44 a45 a46 a47 a48 a49 a50 a51 a52 : Type} (p : a0 → a1 → a2 → a3 → a4 → a5 → a6 → a7 → a8 → a9 → a10 → a11 → a12 → a13 → a14 → a15 → a16 → a17 → a18 → a19 → a20 → a21 → a22 → a23 → a24 → a25 → a26 → a27 → a28 → a29 → a30 → a31 → a32 → a33 → a34 → a35 → a36 → a37 → a38 → a39 → a40 → a41 → a42 → a43 → a44 → a45 → a46 → a47 → a48 → a49 → a50 → a51 → a52 → Prop) : Prop := ∀ x0 x1 x2 x3 x4 x5 x6 x7 x8 x9 x10 x11 x12 x13 x14 x15 x16 x17 x18 x19 x20 x21 x22 x23 x24 x25 x26 x27 x28 x29 x30 x31 x32 x33 x34 x35 x36 x37 x38 x39 x40 x41 x42 x43 x44 x45 x46 x47 x48 x49 x50 x51 x52, p x0 x1 x2 x3 x4 x5 x6 x7 x8 x9 x10 x11 x12 x13 x14 x15 x16 x17 x18 x19 x20 x21 x22 x23 x24 x25 x26 x27 x28 x29 x30 x31 x32 x33 x34 x35 x36 x37 x38 x39 x40 x41 x42 x43 x44 x45 x46 x47 x48 x49 x50 x51 x52
end
section
set_option hygiene false
local macro_rules | `(tactic| walk_at "sln") => `(tactic| (refine ne3 fun _ _ _ _ => ?_; repeat' (first | with_reducible apply neP | infer_instance)))
local macro_rules | `(tactic| walk_at "slt") => `(tactic| (refine @((@(?_) : dom zq9)); set_option tactic.hygienic false in (intro; intros); clear zq9 tt9))
local macro_rules | `(tactic| walk_at "sl24") => `(tactic| ((fail_if_success (fail_if_success (with_reducible show Dsl24 _))); (fail_if_success (with_reducible show Dsl25 _)); (with_reducible refine @(seal24 (fun h => @h) ?_ (fun zq9 => ?_))); (· walk_at "sln"); refine @((?_ : AllT24 _) _); intro tt9; refine @((?_ : All24 _) _ _ _ _ _ _ _ _ _ _ _ _ _ _ _ _ _ _ _ _ _ _ _ _); walk_at "slt"))
local macro_rules | `(tactic| walk_at "sl52") => `(tactic| ((fail_if_success (fail_if_success (with_reducible show Dsl52 _))); (fail_if_success (with_reducible show Dsl53 _)); (with_reducible refine @(seal52 (fun h => @h) ?_ (fun zq9 => ?_))); (· walk_at "sln"); refine @((?_ : AllT52 _) _); intro tt9; refine @((?_ : All52 _) _ _ _ _ _ _ _ _ _ _ _ _ _ _ _ _ _ _ _ _ _ _ _ _ _ _ _ _ _ _ _ _ _ _ _ _ _ _ _ _ _ _ _ _ _ _ _ _ _ _ _ _); walk_at "slt"))
local macro_rules | `(tactic| walk_at "seal24") => `(tactic| ((repeat (revert ‹(_ : Prop)›; fail_if_success (with_reducible show SldP → _))); (repeat (revert ‹(_ : Type)›; (fail_if_success (with_reducible show Sld → _)); try (intro zz; clear zz))); (repeat ((fail_if_success (fail_if_success (with_reducible show Dsl1 _))); first | walk_at "sl24" | walk_at "sl52" | refine @pad _ ?_)); refine @mk_sld _ ?_; intro mkd; refine @mk_sldP _ ?_; intro mkp))
set_option hygiene true
section
set_option hygiene false
local macro_rules | `(tactic| omega) => `(tactic| first | with_reducible assumption | exact Ne.symm (by with_reducible assumption) | (law_clear; lia) | omega (splitDisjunctions := true))
local macro_rules | `(tactic| k_room) => `(tactic| ((try simp only [depth_under_make, depth_under_kw, depth_in1, depth_deeper, depth_caller, recursionLimit] at *); omega))
local macro_rules | `(tactic| walk_at "compareOp In int ref") => `(tactic| (k_here; k_dflt (refine set_in (by k_asm) (by k_asm) (by exact rfl) (by first | exact ok8 _ _ | exact ok9 _ _) ?_)))
local macro_rules | `(tactic| walk_at "exec While") => `(tactic| (k_here; refine stop_of ?_))
local macro_rules | `(tactic| walk_at "exec While Compare") => `(tactic| (k_here; refine stop_of ?_))
local macro_rules | `(tactic| walk_at "exec For") => `(tactic| (k_here; refine stop_of ?_))
local macro_rules | `(tactic| walk_at "my mem") => `(tactic| first | with_reducible assumption | (with_reducible (repeat (first | apply List.mem_cons_self | assumption | apply List.mem_append_left _ (by assumption) | apply List.mem_cons_of_mem | apply List.mem_append_right)); done) | (repeat (first | assumption | exact List.mem_cons_self | exact List.mem_append_left _ (by assumption) | apply List.mem_cons_of_mem | apply List.mem_append_right)))
set_option hygiene true
local macro_rules | `(tactic| walk_at "call builtin:len") => `(tactic| (k_here; refine len_lst (by k_asm) (by walk_at "my mem") (by omega) ?_; intro t' tk'))
set_option hygiene false
local macro_rules | `(tactic| walk_at "call ref") => `(tactic| (k_here; with_reducible refine stop_fn (by k_dflt (exact rfl)) ?_))
local macro_rules | `(tactic| walk_at "strs") => `(tactic| (repeat (first | exact StrsAre.nil | refine StrsAre.cons _ _ ?_)))
local macro_rules | `(tactic| walk_at "subscriptTail") => `(tactic| (k_here; (first | (with_reducible show wpAny _ _ (subscriptTail (Expr.Name _ _) _ (Value.ref _) (Value.int _ _)) _ _ _) | (with_reducible show wpAny _ _ (subscriptTail (Expr.Call _ _ _ _) _ (Value.ref _) (Value.int _ _)) _ _ _)); refine stop_of ?_))
local macro_rules | `(tactic| walk_at "alleq") => `(tactic| (repeat (first | exact trivial | refine ⟨rfl, ?_⟩)))
set_option hygiene true
local macro_rules | `(tactic| walk_at "sub") => `(tactic| first | (with_reducible (repeat (first | apply sub_refl | apply List.forall_mem_nil | apply sub_keep | apply sub_app | apply sub_skip | apply sub_skipa)); done) | ((repeat (first | (with_reducible apply List.forall_mem_nil) | ((with_reducible apply sub_c); (· walk_at "my mem")) | refine sub_c (by (walk_at "my mem")) ?_ | refine sub_l (fun q hq => by (walk_at "my mem")) ?_ | exact List.forall_mem_nil _ | exact fun q hq => by (walk_at "my mem")))))
set_option hygiene false
local macro_rules | `(tactic| walk_at "compareOp In str ref") => `(tactic| (k_here; refine stop_of ?_))
local macro_rules | `(tactic| walk_at "compareOp NotIn str ref") => `(tactic| (k_here; refine stop_of ?_))
local macro_rules | `(tactic| k_in) => `(tactic| with_reducible first | assumption | exact Frag.In.keeps (by assumption) (Fr.keep (by assumption)))
local macro_rules | `(tactic| walk_at "subscriptTail Name Name ref int") => `(tactic| (k_here; with_reducible refine stop_sub (by assumption) ?_))
local macro_rules | `(tactic| walk_at "subscriptTail Name UnaryOp ref int") => `(tactic| (k_here; with_reducible refine stop_sub (by assumption) ?_))
local macro_rules | `(tactic| walk_at "subscriptTail Name Constant ref int") => `(tactic| (k_here; with_reducible refine stop_sub (by assumption) ?_))
local macro_rules | `(tactic| walk_at "callWith ref") => `(tactic| (k_here; with_reducible refine stop_key (by assumption) ?_))
local macro_rules | `(tactic| walk_at "Eq") => `(tactic| with_reducible (first | assumption | rfl))
set_option hygiene true
section
set_option maxRecDepth 100000
noncomputable def list8 : List Int := [832, 833, 8206, 8207, 8234, 8235, 8236, 8237, 8238, 8298, 8299, 8300, 8301, 8302, 8303]
noncomputable def list9 : List Int := 917505 :: (List.range 96).map fun (i : Nat) => ((917536 + i : Nat) : Int)
noncomputable def in8 (c : Int) : Bool := list8.contains c
noncomputable def in9 (c : Int) : Bool := list9.contains c
theorem has_eq {a b : List Int} (h1 : a.all (b.contains ·) = true) (h2 : b.all (a.contains ·) = true) (c : Int) : a.contains c = b.contains c := by
  rw [Bool.eq_iff_iff, List.contains_iff_mem, List.contains_iff_mem]
  exact ⟨fun q => by simpa using List.all_eq_true.mp h1 c q, fun q => by simpa using List.all_eq_true.mp h2 c q⟩
theorem in8_eq (b : Bool) (P : Params) (c : Int) : (setN (o78d b P)).contains c = in8 c := by
  cases b <;> exact has_eq (by kernel_rfl) (by kernel_rfl) c
theorem in9_eq (b : Bool) (P : Params) (c : Int) : (setN (o96f b P)).contains c = in9 c := by
  cases b <;> exact has_eq (by kernel_rfl) (by kernel_rfl) c


set_option maxHeartbeats 4000000 in
theorem c8 {w : World} {p : Program} {loose : List Str} {mean : ExcName → Option Value} {mg mb : Str → Option Value} {A : Around} {h₀ : Heap} {L : Addr} {m : Str → Option Value} {news : List (Addr × Obj)} {s : Shared} {Q : Value → Shared → Prop}
    (F : Fr h₀ L s.heap m) (X : (KK w.params).In h₀) (N : News h₀ L s.heap news) (T : Top p loose mean mg mb h₀) {c : Nat} {t : Tok} (hd : A.depth + 10 < recursionLimit)
    (ret : ∀ h' tk, Fr h₀ L h' m → News h₀ L h' news → Q (.bool (in8 c)) { s with heap := h', toks := tk }) : wpAny (model PG w) A (call (.ref 88) [.str ⟨#[c]⟩ t]) Q NoE s := by
  refine wpAny_call (enterN [(Str.ofString "code", .str ⟨#[c]⟩ t)] F X N T rfl ?cd ?ro (BindsTo.of_eq rfl) ?lo ?ce rfl rfl rfl ?_)
  case cd => k_is
  case ro => k_room
  case lo => exact locs rfl
  case ce => decide
  intro g' L' h' FG' F' N' X' T' l1
  k_steps
  rw [in8_eq]
  exact ret _ _ (by assumption) (by assumption)

set_option maxHeartbeats 4000000 in
theorem c9 {w : World} {p : Program} {loose : List Str} {mean : ExcName → Option Value} {mg mb : Str → Option Value} {A : Around} {h₀ : Heap} {L : Addr} {m : Str → Option Value} {news : List (Addr × Obj)} {s : Shared} {Q : Value → Shared → Prop}
    (F : Fr h₀ L s.heap m) (X : (KK w.params).In h₀) (N : News h₀ L s.heap news) (T : Top p loose mean mg mb h₀) {c : Nat} {t : Tok} (hd : A.depth + 10 < recursionLimit)
    (ret : ∀ h' tk, Fr h₀ L h' m → News h₀ L h' news → Q (.bool (in9 c)) { s with heap := h', toks := tk }) : wpAny (model PG w) A (call (.ref 106) [.str ⟨#[c]⟩ t]) Q NoE s := by
  refine wpAny_call (enterN [(Str.ofString "code", .str ⟨#[c]⟩ t)] F X N T rfl ?cd ?ro (BindsTo.of_eq rfl) ?lo ?ce rfl rfl rfl ?_)
  case cd => k_is
  case ro => k_room
  case lo => exact locs rfl
  case ce => decide
  intro g' L' h' FG' F' N' X' T' l1
  k_steps
  rw [in9_eq]
  exact ret _ _ (by assumption) (by assumption)
end
section
set_option maxRecDepth 100000
noncomputable def LtIs (w : World) (u v : Value) (b : Bool) : Prop := ∀ (A : Around) (s : Shared) (Q : Value → Shared → Prop), (∀ tk, Q (.bool b) { s with toks := tk }) → wpAny (model PG w) A (compareOp .Lt u v) Q NoE s
noncomputable def KeyIs (w : World) (p : Program) (loose : List Str) (mean : ExcName → Option Value) (mg mb : Str → Option Value) (news : List (Addr × Obj)) (kv it : Value) (Ok : Value → Prop) : Prop :=
  ∀ (A : Around) (h₀ : Heap) (L : Addr) (m : Str → Option Value) (s : Shared) (Q : Value → Shared → Prop), Fr h₀ L s.heap m → (KK w.params).In h₀ → News h₀ L s.heap news → Top p loose mean mg mb h₀ → A.depth + 10 < recursionLimit →
    (∀ v h' tk, Ok v → Fr h₀ L h' m → News h₀ L h' news → Q v { s with heap := h', toks := tk }) → wpAny (model PG w) A (call kv [it]) Q NoE s

noncomputable def bis (b : Nat → Bool) : Nat → Nat → Nat → Nat
  | 0, lo, _ => lo
  | n + 1, lo, hi => if lo < hi then (if b ((lo + hi) / 2) then bis b n ((lo + hi) / 2 + 1) hi else bis b n lo ((lo + hi) / 2)) else lo

theorem bis_stop (b : Nat → Bool) : ∀ k lo hi, ¬ lo < hi → bis b k lo hi = lo
  | 0, _, _, _ => rfl
  | _ + 1, _, _, h => by rw [bis, if_neg h]
theorem mid_lt {lo hi : Nat} (h : lo < hi) : lo ≤ (lo + hi) / 2 ∧ (lo + hi) / 2 < hi := by omega
theorem mid1 {lo hi m k : Nat} (a : m < hi) (h : hi - lo ≤ k + 1) : m - lo ≤ k := Nat.sub_le_iff_le_add.mpr (Nat.le_of_lt_succ (Nat.lt_of_lt_of_le a (by have := Nat.sub_le_iff_le_add.mp h; omega)))
theorem mid2 {lo hi m k : Nat} (a : lo ≤ m) (h : hi - lo ≤ k + 1) : hi - (m + 1) ≤ k := Nat.sub_le_iff_le_add.mpr (by have := Nat.sub_le_iff_le_add.mp h; clear h; omega)
theorem mid_cast (a b : Nat) : (((a : Int) + (b : Int)).fdiv 2) = (((a + b) / 2 : Nat) : Int) := by rw [fdiv_eq _ (by decide)]; omega
noncomputable def TkOut (h' : Heap) (s : Shared) (f : Flow) (s' : Shared) : Prop := f = .next ∧ ∃ tk, s' = { s with heap := h', toks := tk }
noncomputable def HiOut (g' : Heap) (L' kf l : Addr) (kx : Value) (lo hi : Nat) (news : List (Addr × Obj)) (s : Shared) (f : Flow) (s' : Shared) : Prop := f = .next ∧ ∃ h9 tk9 v0 v1 v2, s' = { s with heap := h9, toks := tk9 } ∧
  Fr g' L' h9 (mp [(Str.ofString "mid", v0), (Str.ofString "lo", v1), (Str.ofString "hi", v2), (Str.ofString "key", some (.ref kf)), (Str.ofString "x", some kx), (Str.ofString "a", some (.ref l))]) ∧ News g' L' h9 news ∧ (∃ t, v1 = some (.int lo t)) ∧ (∃ t, v2 = some (.int hi t))
inductive BisJ (b : Nat → Bool) (R z : Nat) (kf l : Addr) (kx : Value) (news : List (Addr × Obj)) (k : Nat) (m' : Str → Option Value) (nw : List (Addr × Obj)) : Prop
  | mk (lo' hi' : Nat) (v1 v2 mo : Option Value) (_ : m' = mp [(Str.ofString "mid", mo), (Str.ofString "lo", v1), (Str.ofString "hi", v2), (Str.ofString "key", some (.ref kf)), (Str.ofString "x", some kx), (Str.ofString "a", some (.ref l))]) (_ : nw = news)
    (_ : ∃ t, v1 = some (.int lo' t)) (_ : ∃ t, v2 = some (.int hi' t)) (_ : lo' ≤ hi') (_ : hi' ≤ z) (_ : hi' - lo' ≤ k) (_ : bis b k lo' hi' = R) : BisJ b R z kf l kx news k m' nw
set_option maxHeartbeats 4000000 in
theorem bisL {w : World} {p : Program} {loose : List Str} {mean : ExcName → Option Value} {mg mb : Str → Option Value} {A : Around} {h₀ : Heap} {L : Addr} {m : Str → Option Value} {news : List (Addr × Obj)} {s : Shared} {Q : Value → Shared → Prop}
    (F : Fr h₀ L s.heap m) (X : (KK w.params).In h₀) (N : News h₀ L s.heap news) (T : Top p loose mean mg mb h₀) {l kf : Addr} {vs : List Value} {n lo hi : Nat} {kx : Value} {tl : Tok} {hv : Value} (b : Nat → Bool) (hd : A.depth + 30 < recursionLimit)
    (hl : (l, lst vs n) ∈ news) {fo : Obj} {fd : FuncData} (hkf : (kf, fo) ∈ news) (hfd : fo.data = .func fd) (hlh : lo ≤ hi) (hhl : hi ≤ vs.length) (hhv : (∃ th, hv = .int hi th) ∨ (hv = .none ∧ hi = vs.length)) (hsz : vs.length < 1000)
    (hk : ∀ i v, vs[i]? = some v → KeyIs w p loose mean mg mb news (.ref kf) v (fun u => LtIs w u kx (b i)))
    (ret : ∀ h' tk t, Fr h₀ L h' m → News h₀ L h' news → Q (.int (bis b vs.length lo hi) t) { s with heap := h', toks := tk }) :
    wpAny (model PG w) A (call (.ref 57) [.ref l, kx, .int lo tl, hv] [(Str.ofString "key", .ref kf)]) Q NoE s := by
  refine wpAny_call (enterN [(Str.ofString "a", .ref l), (Str.ofString "x", kx), (Str.ofString "lo", .int lo tl), (Str.ofString "hi", hv), (Str.ofString "key", .ref kf)] F X N T rfl ?cd ?ro ?bd ?lo ?ce rfl rfl rfl ?_)
  case cd => k_is
  case ro => k_room
  case bd => first | exact BindsTo.of_eq rfl | exact binds_K (by k_in) rfl (by k_is) rfl rfl rfl
  case lo => exact locs rfl
  case ce => decide
  intro g' L' h' FG' F' N' X' T' l1
  have sS : SubAt := trivial
  walk_at "seal24"
  have kh : KeyAt kf := trivial
  generalize hR : bis b vs.length lo hi = R at ret
  show wpAny _ _ (execs (_ :: _ :: _) _) _ _ _
  refine wpAny_execs_cons (wpAny_mono (Q := TkOut h' s) (by k_steps; exact ⟨rfl, _, rfl⟩) ?_ fun _ _ q => q)
  rintro f s' ⟨rfl, tk0, rfl⟩
  dsimp only
  refine wpAny_execs_cons (wpAny_mono (Q := HiOut g' L' kf l kx lo hi news s) ?_ ?_ fun _ _ q => q)
  · rcases hhv with ⟨th, rfl⟩ | ⟨rfl, rfl⟩
    all_goals (
      k_steps
      rename Fr g' L' _ _ => F9
      (try simp only [mp_set] at F9)
      exact ⟨rfl, _, _, _, _, _, rfl, canon [Str.ofString "mid", Str.ofString "lo", Str.ofString "hi", Str.ofString "key", Str.ofString "x", Str.ofString "a"] F9 rfl, by assumption, ⟨_, rfl⟩, ⟨_, rfl⟩⟩)
  · rintro f s' ⟨rfl, h9, tk9, v0, _, _, rfl, F9, N9, ⟨tl0, rfl⟩, ⟨th0, rfl⟩⟩
    k_steps
    refine of_stop (While_inv (BisJ b R vs.length kf l kx news) (n₀ := vs.length) F9 N9
      ⟨lo, _, _, _, _, rfl, rfl, ⟨_, rfl⟩, ⟨_, rfl⟩, hlh, hhl, Nat.le_trans (Nat.sub_le _ _) hhl, hR⟩ ?_)
    rintro k m₁ nw h₁ tk₁ F1 N1 ⟨lo', hi', _, _, mo, rfl, rfl, ⟨t1, rfl⟩, ⟨t2, rfl⟩, hle, hhi, hk', hb⟩
    walk_at "seal24"
    k_steps
    · refine callWith_led hfd ?_
      k_steps
      have hmid := mid_cast lo' hi'
      rw [hmid]
      have hlt : lo' < hi' := by omega
      obtain ⟨m1, m2⟩ := mid_lt hlt
      have m3 := Nat.lt_of_lt_of_le m2 hhi
      have m5 := lt63 (Nat.le_of_lt (Nat.lt_trans m3 hsz))
      obtain ⟨v, hv⟩ : ∃ v, vs[(lo' + hi') / 2]? = some v := ⟨_, List.getElem?_eq_getElem m3⟩
      refine item_listL (l := vs) (x := v) ((by assumption : News g' L' _ _).isList hl) (Int.natCast_nonneg _) m5 (by rw [Int.toNat_natCast]; exact hv) ?_
      k_steps
      refine of_stop ⟨((by assumption : News g' L' _ _) _ hkf).1, ?_⟩
      refine hk _ _ hv _ g' L' _ _ _ (by assumption) (by assumption) (by assumption) (by assumption) (by k_room) ?_
      intro u h2 tk2 hu F2 N2
      k_steps
      refine hu _ _ _ fun tk3 => ?_
      obtain ⟨k0, rfl⟩ : ∃ k0, k = k0 + 1 := ⟨k - 1, (Nat.sub_add_cancel (Nat.lt_of_lt_of_le (Nat.sub_pos_of_lt hlt) hk')).symm⟩
      rw [bis, if_pos hlt] at hb
      cases hbm : b ((lo' + hi') / 2) <;> rw [hbm] at hb
      · k_steps
        rename Fr g' L' _ _ => F9
        simp only [mp_set, hmid] at F9
        exact WhileStep.intro (n' := k0) (canon [Str.ofString "mid", Str.ofString "lo", Str.ofString "hi", Str.ofString "key", Str.ofString "x", Str.ofString "a"] F9 rfl) (by assumption) (by omega) ⟨lo', (lo' + hi') / 2, _, _, _, rfl, rfl, ⟨_, rfl⟩, ⟨_, rfl⟩, m1, Nat.le_of_lt m3, mid1 m2 hk', by simpa using hb⟩
      · k_steps
        rename Fr g' L' _ _ => F9
        simp only [mp_set, hmid] at F9
        exact WhileStep.intro (n' := k0) (canon [Str.ofString "mid", Str.ofString "lo", Str.ofString "hi", Str.ofString "key", Str.ofString "x", Str.ofString "a"] F9 rfl) (by assumption) (by omega) ⟨(lo' + hi') / 2 + 1, hi', _, _, _, rfl, rfl, ⟨_, rfl⟩, ⟨_, rfl⟩, m2, hhi, mid2 m1 hk', by simpa using hb⟩
    · rw [bis_stop _ _ _ _ (by omega)] at hb
      rw [hb]
      exact ret _ _ _ (by assumption) (by assumption)
set_option maxHeartbeats 4000000 in
theorem bisR {w : World} {p : Program} {loose : List Str} {mean : ExcName → Option Value} {mg mb : Str → Option Value} {A : Around} {h₀ : Heap} {L : Addr} {m : Str → Option Value} {news : List (Addr × Obj)} {s : Shared} {Q : Value → Shared → Prop}
    (F : Fr h₀ L s.heap m) (X : (KK w.params).In h₀) (N : News h₀ L s.heap news) (T : Top p loose mean mg mb h₀) {l kf : Addr} {vs : List Value} {n lo hi : Nat} {kx : Value} {tl : Tok} {hv : Value} (b : Nat → Bool) (hd : A.depth + 30 < recursionLimit)
    (hl : (l, lst vs n) ∈ news) {fo : Obj} {fd : FuncData} (hkf : (kf, fo) ∈ news) (hfd : fo.data = .func fd) (hlh : lo ≤ hi) (hhl : hi ≤ vs.length) (hhv : (∃ th, hv = .int hi th) ∨ (hv = .none ∧ hi = vs.length)) (hsz : vs.length < 1000)
    (hk : ∀ i v, vs[i]? = some v → KeyIs w p loose mean mg mb news (.ref kf) v (fun u => LtIs w kx u (!(b i))))
    (ret : ∀ h' tk t, Fr h₀ L h' m → News h₀ L h' news → Q (.int (bis b vs.length lo hi) t) { s with heap := h', toks := tk }) :
    wpAny (model PG w) A (call (.ref 39) [.ref l, kx, .int lo tl, hv] [(Str.ofString "key", .ref kf)]) Q NoE s := by
  refine wpAny_call (enterN [(Str.ofString "a", .ref l), (Str.ofString "x", kx), (Str.ofString "lo", .int lo tl), (Str.ofString "hi", hv), (Str.ofString "key", .ref kf)] F X N T rfl ?cd ?ro ?bd ?lo ?ce rfl rfl rfl ?_)
  case cd => k_is
  case ro => k_room
  case bd => first | exact BindsTo.of_eq rfl | exact binds_K (by k_in) rfl (by k_is) rfl rfl rfl
  case lo => exact locs rfl
  case ce => decide
  intro g' L' h' FG' F' N' X' T' l1
  have sS : SubAt := trivial
  walk_at "seal24"
  have kh : KeyAt kf := trivial
  generalize hR : bis b vs.length lo hi = R at ret
  show wpAny _ _ (execs (_ :: _ :: _) _) _ _ _
  refine wpAny_execs_cons (wpAny_mono (Q := TkOut h' s) (by k_steps; exact ⟨rfl, _, rfl⟩) ?_ fun _ _ q => q)
  rintro f s' ⟨rfl, tk0, rfl⟩
  dsimp only
  refine wpAny_execs_cons (wpAny_mono (Q := HiOut g' L' kf l kx lo hi news s) ?_ ?_ fun _ _ q => q)
  · rcases hhv with ⟨th, rfl⟩ | ⟨rfl, rfl⟩
    all_goals (
      k_steps
      rename Fr g' L' _ _ => F9
      (try simp only [mp_set] at F9)
      exact ⟨rfl, _, _, _, _, _, rfl, canon [Str.ofString "mid", Str.ofString "lo", Str.ofString "hi", Str.ofString "key", Str.ofString "x", Str.ofString "a"] F9 rfl, by assumption, ⟨_, rfl⟩, ⟨_, rfl⟩⟩)
  · rintro f s' ⟨rfl, h9, tk9, v0, _, _, rfl, F9, N9, ⟨tl0, rfl⟩, ⟨th0, rfl⟩⟩
    k_steps
    refine of_stop (While_inv (BisJ b R vs.length kf l kx news) (n₀ := vs.length) F9 N9
      ⟨lo, _, _, _, _, rfl, rfl, ⟨_, rfl⟩, ⟨_, rfl⟩, hlh, hhl, Nat.le_trans (Nat.sub_le _ _) hhl, hR⟩ ?_)
    rintro k m₁ nw h₁ tk₁ F1 N1 ⟨lo', hi', _, _, mo, rfl, rfl, ⟨t1, rfl⟩, ⟨t2, rfl⟩, hle, hhi, hk', hb⟩
    walk_at "seal24"
    k_steps
    · refine callWith_led hfd ?_
      k_steps
      have hmid := mid_cast lo' hi'
      rw [hmid]
      have hlt : lo' < hi' := by omega
      obtain ⟨m1, m2⟩ := mid_lt hlt
      have m3 := Nat.lt_of_lt_of_le m2 hhi
      have m5 := lt63 (Nat.le_of_lt (Nat.lt_trans m3 hsz))
      obtain ⟨v, hv⟩ : ∃ v, vs[(lo' + hi') / 2]? = some v := ⟨_, List.getElem?_eq_getElem m3⟩
      refine item_listL (l := vs) (x := v) ((by assumption : News g' L' _ _).isList hl) (Int.natCast_nonneg _) m5 (by rw [Int.toNat_natCast]; exact hv) ?_
      k_steps
      refine of_stop ⟨((by assumption : News g' L' _ _) _ hkf).1, ?_⟩
      refine hk _ _ hv _ g' L' _ _ _ (by assumption) (by assumption) (by assumption) (by assumption) (by k_room) ?_
      intro u h2 tk2 hu F2 N2
      k_steps
      refine hu _ _ _ fun tk3 => ?_
      obtain ⟨k0, rfl⟩ : ∃ k0, k = k0 + 1 := ⟨k - 1, (Nat.sub_add_cancel (Nat.lt_of_lt_of_le (Nat.sub_pos_of_lt hlt) hk')).symm⟩
      rw [bis, if_pos hlt] at hb
      cases hbm : b ((lo' + hi') / 2) <;> rw [hbm] at hb
      · k_steps
        rename Fr g' L' _ _ => F9
        simp only [mp_set, hmid] at F9
        exact WhileStep.intro (n' := k0) (canon [Str.ofString "mid", Str.ofString "lo", Str.ofString "hi", Str.ofString "key", Str.ofString "x", Str.ofString "a"] F9 rfl) (by assumption) (by omega) ⟨lo', (lo' + hi') / 2, _, _, _, rfl, rfl, ⟨_, rfl⟩, ⟨_, rfl⟩, m1, Nat.le_of_lt m3, mid1 m2 hk', by simpa using hb⟩
      · k_steps
        rename Fr g' L' _ _ => F9
        simp only [mp_set, hmid] at F9
        exact WhileStep.intro (n' := k0) (canon [Str.ofString "mid", Str.ofString "lo", Str.ofString "hi", Str.ofString "key", Str.ofString "x", Str.ofString "a"] F9 rfl) (by assumption) (by omega) ⟨(lo' + hi') / 2 + 1, hi', _, _, _, rfl, rfl, ⟨_, rfl⟩, ⟨_, rfl⟩, m2, hhi, mid2 m1 hk', by simpa using hb⟩
    · rw [bis_stop _ _ _ _ (by omega)] at hb
      rw [hb]
      exact ret _ _ _ (by assumption) (by assumption)
end
section
set_option maxRecDepth 100000
noncomputable def insAt (vs : List Value) (p : Nat) (x : Value) : List Value := vs.take p ++ x :: vs.drop p
theorem bis_le (b : Nat → Bool) : ∀ k lo hi, lo ≤ hi → lo ≤ bis b k lo hi ∧ bis b k lo hi ≤ hi
  | 0, lo, hi, h => ⟨Nat.le_refl _, h⟩
  | k + 1, lo, hi, h => by
    rw [bis]
    split
    · split
      · have := bis_le b k ((lo + hi) / 2 + 1) hi (by omega); omega
      · have := bis_le b k lo ((lo + hi) / 2) (by omega); omega
    · omega
theorem kl_at (vs : List Value) (p : Nat) (x : Value) (h : p ≤ vs.length) : kl_ins vs (p : Int) x = insAt vs p x := by
  unfold kl_ins insAt
  rw [if_neg (by omega), Int.toNat_natCast, Nat.min_eq_left h]

set_option maxHeartbeats 4000000 in
theorem insL {w : World} {p : Program} {loose : List Str} {mean : ExcName → Option Value} {mg mb : Str → Option Value} {A : Around} {h₀ : Heap} {L : Addr} {m : Str → Option Value} {rest : List (Addr × Obj)} {s : Shared} {Q : Value → Shared → Prop} {l kf : Addr} {vs : List Value} {n lo hi : Nat} {x : Value} {tl : Tok} {hv : Value} {args : Args}
    (F : Fr h₀ L s.heap m) (X : (KK w.params).In h₀) (N : News h₀ L s.heap ((l, lst vs n) :: rest)) (T : Top p loose mean mg mb h₀) (b : Nat → Bool) (hd : A.depth + 40 < recursionLimit)
    (off : ∀ q ∈ rest, q.1 ≠ l) {fo : Obj} {fd : FuncData} (hkf : (kf, fo) ∈ rest) (hfd : fo.data = .func fd) (hlh : lo ≤ hi) (hhl : hi ≤ vs.length) (hhv : (∃ th, hv = .int hi th) ∨ (hv = .none ∧ hi = vs.length)) (hsz : vs.length < 1000)
    (harg : (args = ⟨[.ref l, x], [(Str.ofString "key", .ref kf)]⟩ ∧ lo = 0 ∧ hv = .none) ∨ args = ⟨[.ref l, x, .int lo tl, hv], [(Str.ofString "key", .ref kf)]⟩)
    (hk : KeyIs w p loose mean mg mb ((l, lst vs n) :: rest) (.ref kf) x (fun kx => ∀ i v, vs[i]? = some v → KeyIs w p loose mean mg mb ((l, lst vs n) :: rest) (.ref kf) v (fun u => LtIs w u kx (b i))))
    (ret : ∀ h' tk, Fr h₀ L h' m → News h₀ L h' ((l, lst (insAt vs (bis b vs.length lo hi) x) (n + 1)) :: rest) → Q .none { s with heap := h', toks := tk }) :
    wpAny (model PG w) A (call (.ref 48) args.pos args.kw) Q NoE s := by
  obtain ⟨tl, harg⟩ : ∃ t, (args = ⟨[.ref l, x], [(Str.ofString "key", .ref kf)]⟩ ∧ lo = 0 ∧ hv = .none ∧ t = 223) ∨ args = ⟨[.ref l, x, .int lo t, hv], [(Str.ofString "key", .ref kf)]⟩ :=
    harg.elim (fun h => ⟨223, .inl ⟨h.1, h.2.1, h.2.2, rfl⟩⟩) fun h => ⟨tl, .inr h⟩
  refine wpAny_call (enterN [(Str.ofString "a", .ref l), (Str.ofString "x", x), (Str.ofString "lo", .int lo tl), (Str.ofString "hi", hv), (Str.ofString "key", .ref kf)] F X N T rfl ?cd ?ro ?bd ?lo ?ce rfl rfl rfl ?_)
  case cd => k_is
  case ro => k_room
  case bd =>
    rcases harg with ⟨rfl, rfl, rfl, rfl⟩ | rfl
    all_goals first | exact BindsTo.of_eq rfl | exact binds_K (by k_in) rfl (by k_is) rfl rfl rfl
  case lo => exact locs rfl
  case ce => decide
  intro g' L' h' FG' F' N' X' T' l1
  have kh : KeyAt kf := trivial
  k_steps
  refine callWith_led hfd ?_
  k_steps
  refine of_stop ⟨((by assumption : News g' L' _ _) _ (List.mem_cons_of_mem _ hkf)).1, ?_⟩
  refine hk _ g' L' _ _ _ (by assumption) (by assumption) (by assumption) (by assumption) (by k_room) ?_
  intro kx h2 tk2 hkx F2 N2
  k_steps
  refine of_stop (bisL (by assumption) (by assumption) (by assumption) (by assumption) (vs := vs) (n := n) (lo := lo) (hi := hi) (hv := hv) b (by k_room) (List.mem_cons_self ..) (List.mem_cons_of_mem _ hkf) hfd hlh hhl hhv hsz hkx ?_)
  intro h3 tk3 t3 F3 N3
  have hb := bis_le b vs.length lo hi (by omega)
  k_steps
  refine kl_insert (by assumption) (by assumption) (by simp [Builtin.List.listFitsIndex]; omega) (kl_at vs _ x (by omega)) (Upd.head off) (by simp [sizeLine]; omega) ?_
  intro h4 F4 N4
  k_steps
  exact ret _ _ (by assumption) (by assumption)
set_option maxHeartbeats 4000000 in
theorem insR {w : World} {p : Program} {loose : List Str} {mean : ExcName → Option Value} {mg mb : Str → Option Value} {A : Around} {h₀ : Heap} {L : Addr} {m : Str → Option Value} {rest : List (Addr × Obj)} {s : Shared} {Q : Value → Shared → Prop} {l kf : Addr} {vs : List Value} {n lo hi : Nat} {x : Value} {tl : Tok} {hv : Value}
    (F : Fr h₀ L s.heap m) (X : (KK w.params).In h₀) (N : News h₀ L s.heap ((l, lst vs n) :: rest)) (T : Top p loose mean mg mb h₀) (b : Nat → Bool) (hd : A.depth + 40 < recursionLimit)
    (off : ∀ q ∈ rest, q.1 ≠ l) {fo : Obj} {fd : FuncData} (hkf : (kf, fo) ∈ rest) (hfd : fo.data = .func fd) (hlh : lo ≤ hi) (hhl : hi ≤ vs.length) (hhv : (∃ th, hv = .int hi th) ∨ (hv = .none ∧ hi = vs.length)) (hsz : vs.length < 1000)
    (hk : KeyIs w p loose mean mg mb ((l, lst vs n) :: rest) (.ref kf) x (fun kx => ∀ i v, vs[i]? = some v → KeyIs w p loose mean mg mb ((l, lst vs n) :: rest) (.ref kf) v (fun u => LtIs w kx u (!(b i)))))
    (ret : ∀ h' tk, Fr h₀ L h' m → News h₀ L h' ((l, lst (insAt vs (bis b vs.length lo hi) x) (n + 1)) :: rest) → Q .none { s with heap := h', toks := tk }) :
    wpAny (model PG w) A (call (.ref 30) [.ref l, x, .int lo tl, hv] [(Str.ofString "key", .ref kf)]) Q NoE s := by
  refine wpAny_call (enterN [(Str.ofString "a", .ref l), (Str.ofString "x", x), (Str.ofString "lo", .int lo tl), (Str.ofString "hi", hv), (Str.ofString "key", .ref kf)] F X N T rfl ?cd ?ro ?bd ?lo ?ce rfl rfl rfl ?_)
  case cd => k_is
  case ro => k_room
  case bd => first | exact BindsTo.of_eq rfl | exact binds_K (by k_in) rfl (by k_is) rfl rfl rfl
  case lo => exact locs rfl
  case ce => decide
  intro g' L' h' FG' F' N' X' T' l1
  have kh : KeyAt kf := trivial
  k_steps
  refine callWith_led hfd ?_
  k_steps
  refine of_stop ⟨((by assumption : News g' L' _ _) _ (List.mem_cons_of_mem _ hkf)).1, ?_⟩
  refine hk _ g' L' _ _ _ (by assumption) (by assumption) (by assumption) (by assumption) (by k_room) ?_
  intro kx h2 tk2 hkx F2 N2
  k_steps
  refine of_stop (bisR (by assumption) (by assumption) (by assumption) (by assumption) (vs := vs) (n := n) (lo := lo) (hi := hi) (hv := hv) b (by k_room) (List.mem_cons_self ..) (List.mem_cons_of_mem _ hkf) hfd hlh hhl hhv hsz hkx ?_)
  intro h3 tk3 t3 F3 N3
  have hb := bis_le b vs.length lo hi (by omega)
  k_steps
  refine kl_insert (by assumption) (by assumption) (by simp [Builtin.List.listFitsIndex]; omega) (kl_at vs _ x (by omega)) (Upd.head off) (by simp [sizeLine]; omega) ?_
  intro h4 F4 N4
  k_steps
  exact ret _ _ (by assumption) (by assumption)
end
section
set_option maxRecDepth 100000
section
variable {prog : Program} {w : World} {A : Around} {s : Shared} {h₀ : Heap} {E : Value → Shared → Prop}

structure Wk (prog : Program) (w : World) (A : Around) (I : Addr) (fp : List Addr) (n T0 : Nat) (P : Nat → Value → Nat → Prop) (St : Nat → Heap → Prop) : Prop where
  sub : I ∈ fp
  frame : ∀ i h h', St i h → (∀ b ∈ fp, ∀ o, h.get? b = some o → h'.get? b = some o) → St i h'
  item : ∀ i (s : Shared) (Q : Option Value → Shared → Prop) (E : Value → Shared → Prop), i < n → T0 ≤ s.toks → St i s.heap →
    (∀ v h' tk, T0 ≤ tk → P i v tk → St (i + 1) h' → (∀ b o, b ∉ [I] → s.heap.get? b = some o → h'.get? b = some o) → Q (some v) { s with heap := h', toks := tk }) → wpAny (model prog w) A (pyNext (.ref I)) Q E s
  done : ∀ (s : Shared) (Q : Option Value → Shared → Prop) (E : Value → Shared → Prop), T0 ≤ s.toks → St n s.heap →
    (∀ h' tk, T0 ≤ tk → (∀ b o, b ∉ [I] → s.heap.get? b = some o → h'.get? b = some o) → Q none { s with heap := h', toks := tk }) → wpAny (model prog w) A (pyNext (.ref I)) Q E s
  self : ∀ i (s : Shared) (Q : Value → Shared → Prop) (E : Value → Shared → Prop), St i s.heap → Q (.ref I) s → wpAny (model prog w) A (pyIter (.ref I)) Q E s

theorem Wk.of {I : Addr} {fp : List Addr} {n : Nat} {P : Nat → Value → Prop} {St : Nat → Heap → Prop} (W : Walks prog w A I fp [I] n P St) (T0 : Nat) : Wk prog w A I fp n T0 (fun i v _ => P i v) St where
  sub := W.sub I (List.mem_singleton.mpr rfl)
  frame := W.frame
  item := fun i s _ _ hi ht st hQ => wpAny_with_toks ht (W.item i s _ _ hi st fun v h' tk hP st' hk htk => hQ v h' tk htk hP st' hk)
  done := fun s _ _ ht st hQ => wpAny_with_toks ht (W.done s _ _ st fun h' tk hk htk => hQ h' tk htk hk)
  self := W.self

noncomputable def SignT (x : Str) (T0 : Nat) (i : Nat) (v : Value) (tk : Nat) : Prop := ∃ c u, x.cps[i]? = some c ∧ v = .str ⟨#[c]⟩ u ∧ T0 ≤ u ∧ u < tk
theorem Wk.ascii (hh : A.handled = none) (I : Addr) (x : Str) (t : Tok) (T0 : Nat) : Wk prog w A I [I] x.cps.size T0 (SignT x T0) (fun i h => h.IsStrIter I "str_ascii_iterator" x t i) where
  sub := List.mem_singleton.mpr rfl
  frame := fun _ _ _ st hk => let ⟨o, ho, r⟩ := st; ⟨o, hk I (List.mem_singleton.mpr rfl) o ho, r⟩
  item := fun i s Q E hi ht st hQ => by
    refine wpAny_pyNext_ascii_item st (c := x.cps[i]) (by simp [hi]) fun h' hit' hs' => ?_
    exact hQ _ h' (s.toks + 1) (Nat.le_succ_of_le ht) ⟨_, _, by simp [hi], rfl, ht, Nat.lt_succ_self _⟩ hit' fun b o hb e => hs'.extBut b o (fun h => hb (by simp [h])) e
  done := fun s Q E ht st hQ => wpAny_pyNext_ascii_end hh st (by simp) fun h' he' => hQ h' s.toks ht fun b o hb e => he' b o (fun h => hb (by simp [h])) e
  self := fun _ _ _ _ st hQ => wpAny_pyIter_striter_ascii st hQ
theorem Wk.wide (hh : A.handled = none) (I : Addr) (x : Str) (t : Tok) (T0 : Nat) : Wk prog w A I [I] x.cps.size T0 (SignT x T0) (fun i h => h.IsStrIter I "str_iterator" x t i) where
  sub := List.mem_singleton.mpr rfl
  frame := fun _ _ _ st hk => let ⟨o, ho, r⟩ := st; ⟨o, hk I (List.mem_singleton.mpr rfl) o ho, r⟩
  item := fun i s Q E hi ht st hQ => by
    refine wpAny_pyNext_wide_item st (c := x.cps[i]) (by simp [hi]) fun h' hit' hs' => ?_
    exact hQ _ h' (s.toks + 1) (Nat.le_succ_of_le ht) ⟨_, _, by simp [hi], rfl, ht, Nat.lt_succ_self _⟩ hit' fun b o hb e => hs'.extBut b o (fun h => hb (by simp [h])) e
  done := fun s Q E ht st hQ => wpAny_pyNext_wide_end hh st (by simp) fun h' he' => hQ h' s.toks ht fun b o hb e => he' b o (fun h => hb (by simp [h])) e
  self := fun _ _ _ _ st hQ => wpAny_pyIter_striter_wide st hQ

noncomputable def PlainIt (o : Obj) : Prop := ∃ n vs, o.cls = .type n ∧ o.data = .fields vs ∧ (["enumerate", "zip", "dict_itemiterator", "dict_reverseitemiterator", "odict_iterator", "itertools.zip_longest", "itertools.pairwise"].contains n) = false
theorem letOwned_plain {tg : Expr} {I : Addr} {o : Obj} {v : Value} {Q : Unit → Shared → Prop} (ho : s.heap.get? I = some o) (hp : PlainIt o) (h : Q () s) : wpAny (model prog w) A (letOwnedTupleGo tg (.ref I) v) Q E s := by
  obtain ⟨n, vs, hc, hd, hn⟩ := hp
  have key : wpAny (model prog w) A (do
      let (.ref r, .ref a) := (Value.ref I, v) | return
      let o ← load r
      match o.cls, o.data with
      | .type n, .fields vs =>
        if ["enumerate", "zip", "dict_itemiterator", "dict_reverseitemiterator", "odict_iterator", "itertools.zip_longest", "itertools.pairwise"].contains n && vs[0]? == some (rawInt a) then
          rule "for.unpacks-the-owned-tuple"
          updateField r 0 .none
      | _, _ => pure ()) Q E s := by
    cases v with
    | ref a =>
      refine wpAny_bind (wpAny_load ho ?_)
      rw [hc, hd]
      simp only [hn, Bool.false_and, Bool.false_eq_true, if_false]
      exact wpAny_pure h
    | _ => exact wpAny_pure h
  cases tg with
  | Tuple => exact key
  | List => exact key
  | _ => exact wpAny_pure h

structure It (prog : Program) (w : World) (A : Around) (h₀ : Heap) (L I : Addr) (base : List (Addr × Obj)) (n T0 : Nat) (P : Nat → Value → Nat → Prop) (St : Nat → Heap → Prop) : Prop where
  W : ∃ fp, Wk prog w A I fp n T0 P St ∧ (∀ b ∈ fp, b = I ∨ (∃ o, h₀.get? b = some o) ∨ ∃ o, (b, o) ∈ base) ∧ L ∉ fp
  io : ∀ i h, St i h → ∃ o, h.get? I = some o ∧ PlainIt o
theorem It.st {L I : Addr} {base : List (Addr × Obj)} {n T0 : Nat} {P : Nat → Value → Nat → Prop} {St : Nat → Heap → Prop} (T : It prog w A h₀ L I base n T0 P St) {i : Nat} {h h' : Heap} {o : Obj} (x : St i h) (e : h.get? I = some o) (e' : h'.get? I = some o)
    (k : ∀ b o, h₀.get? b = some o → h.get? b = some o) (k' : ∀ b o, h₀.get? b = some o → h'.get? b = some o) (q : ∀ p ∈ base, h.get? p.1 = some p.2) (q' : ∀ p ∈ base, h'.get? p.1 = some p.2) : St i h' := by
  obtain ⟨fp, W, hfp, _⟩ := T.W
  refine W.frame _ _ _ x fun b hb o₂ e₂ => ?_
  rcases hfp b hb with rfl | ⟨o₁, e₁⟩ | ⟨o₁, m⟩
  · rw [e] at e₂; cases e₂; exact e'
  · have := k _ _ e₁; rw [e₂] at this; cases this; exact k' _ _ e₁
  · have := q _ m; rw [e₂] at this; cases this; exact q' _ m
theorem It.ne {L I : Addr} {base : List (Addr × Obj)} {n T0 : Nat} {P : Nat → Value → Nat → Prop} {St : Nat → Heap → Prop} (T : It prog w A h₀ L I base n T0 P St) : L ≠ I := by
  obtain ⟨fp, W, _, hL⟩ := T.W
  exact fun q => hL (q ▸ W.sub)

noncomputable def Src (prog : Program) (w : World) (A : Around) (h₀ : Heap) (L : Addr) (base : List (Addr × Obj)) (xv : Value) (s : Shared) (n : Nat) (P : Nat → Value → Nat → Prop) : Prop :=
  ∀ (Q : Value → Shared → Prop) (E : Value → Shared → Prop), (∀ oI St, It prog w A h₀ L s.heap.objs.size base n s.toks P St → St 0 (s.heap.push oI) → Q (.ref s.heap.objs.size) { s with heap := s.heap.push oI }) → wpAny (model prog w) A (pyIter xv) Q E s

section
variable {L : Addr} {m : Str → Option Value} {news : List (Addr × Obj)}
theorem src_list {ax : Addr} {vs : List Value} {k : Nat} (hh : A.handled = none) (F : Fr h₀ L s.heap m) (N : News h₀ L s.heap news) (hm : (ax, lst vs k) ∈ news) :
    Src prog w A h₀ L [(ax, lst vs k)] (.ref ax) s vs.length (fun i v _ => vs[i]? = some v) := fun Q E hQ => by
  refine wpAny_pyIter_list (N.isList hm) (hQ _ (fun i h => h.IsListIter s.heap.objs.size ax i ∧ h.IsList ax vs.toArray) ⟨⟨_, Wk.of (by simpa using Walks.list (prog := prog) (w := w) hh s.heap.objs.size ax (Nat.ne_of_lt (Heap.lt_size (N _ hm).1)) vs.toArray) _, fun b hb => ?_, fun q => ?_⟩, fun i h x => let ⟨o, e, hc, hd⟩ := x.1; ⟨o, e, _, _, hc, hd, by decide⟩⟩ ?_)
  · rcases List.mem_cons.mp hb with rfl | hb
    · exact .inl rfl
    · rw [List.mem_singleton.mp hb]; exact .inr (.inr ⟨_, List.mem_singleton.mpr rfl⟩)
  · rcases List.mem_cons.mp q with e | q
    · exact Nat.lt_irrefl _ (e ▸ F.ns.lt : s.heap.objs.size < s.heap.objs.size)
    · exact (N _ hm).2.1 (List.mem_singleton.mp q).symm
  · exact ⟨⟨_, Heap.get?_push_size _ rfl, rfl, rfl⟩, (N.isList hm).push _⟩
theorem src_tuple {ax : Addr} {vs : Array Value} {o : Obj} (hh : A.handled = none) (F : Fr h₀ L s.heap m) (N : News h₀ L s.heap news) (hm : (ax, o) ∈ news) (ht : s.heap.IsTuple ax vs) :
    Src prog w A h₀ L [(ax, o)] (.ref ax) s vs.size (fun i v _ => vs[i]? = some v) := fun Q E hQ => by
  have hlt := Heap.lt_size (N _ hm).1
  refine wpAny_pyIter_tuple ht (hQ _ (fun i h => h.IsTupleIter s.heap.objs.size ax i ∧ h.IsTuple ax vs) ⟨⟨_, Wk.of (Walks.tuple hh s.heap.objs.size ax (Nat.ne_of_lt hlt) vs) _, fun b hb => ?_, fun q => ?_⟩, fun i h x => let ⟨o, e, hc, hd⟩ := x.1; ⟨o, e, _, _, hc, hd, by decide⟩⟩ ?_)
  · rcases List.mem_cons.mp hb with rfl | hb
    · exact .inl rfl
    · rw [List.mem_singleton.mp hb]; exact .inr (.inr ⟨_, List.mem_singleton.mpr rfl⟩)
  · rcases List.mem_cons.mp q with e | q
    · exact Nat.lt_irrefl _ (e ▸ F.ns.lt : s.heap.objs.size < s.heap.objs.size)
    · exact (N _ hm).2.1 (List.mem_singleton.mp q).symm
  · exact ⟨⟨_, Heap.get?_push_size _ rfl, rfl, rfl⟩, let ⟨o, e, r⟩ := ht; ⟨o, Heap.get?_push_of_some _ e, r⟩⟩
theorem src_str {y : Str} {t : Tok} (hh : A.handled = none) (F : Fr h₀ L s.heap m) : Src prog w A h₀ L [] (.str y t) s y.cps.size (SignT y s.toks) := fun Q E hQ => by
  have hL : L ∉ [s.heap.objs.size] := fun q => Nat.lt_irrefl _ (List.mem_singleton.mp q ▸ F.ns.lt : s.heap.objs.size < s.heap.objs.size)
  cases ha : y.cps.all (· < 128)
  · refine wpAny_pyIter_wide ha (hQ _ _ ⟨⟨_, Wk.wide hh s.heap.objs.size y t _, fun b hb => .inl (List.mem_singleton.mp hb), hL⟩, fun i h x => let ⟨o, e, hc, hd⟩ := x; ⟨o, e, _, _, hc, hd, by decide⟩⟩ ⟨_, Heap.get?_push_size _ rfl, rfl, rfl⟩)
  · refine wpAny_pyIter_ascii ha (hQ _ _ ⟨⟨_, Wk.ascii hh s.heap.objs.size y t _, fun b hb => .inl (List.mem_singleton.mp hb), hL⟩, fun i h x => let ⟨o, e, hc, hd⟩ := x; ⟨o, e, _, _, hc, hd, by decide⟩⟩ ⟨_, Heap.get?_push_size _ rfl, rfl, rfl⟩)
theorem src_range {r : Addr} {a b : Int} {t u v : Tok} {n : Nat} (hh : A.handled = none) (F : Fr h₀ L s.heap m) (hr : IsRange s.heap r a b 1 t u v) (hsm : Builtin.Range.small a b 1 = true) (hn : Builtin.Range.rangeSize a b 1 = ((n : Nat) : Int)) :
    Src prog w A h₀ L [] (.ref r) s n (fun i v _ => ∃ t, v = .int (a + (i : Int)) t) := fun Q E hQ => by
  have hL : L ∉ [s.heap.objs.size] := fun q => Nat.lt_irrefl _ (List.mem_singleton.mp q ▸ F.ns.lt : s.heap.objs.size < s.heap.objs.size)
  refine wpAny_pyIter_range hr hsm (hQ _ _ ⟨⟨_, Wk.of (LCg.range_walks hh a n) _, fun b hb => .inl (List.mem_singleton.mp hb), hL⟩, fun i h x => ⟨_, x, _, _, rfl, rfl, by decide⟩⟩ ?_)
  show IsRangeIter _ _ _ _ _
  rw [hn]
  simpa using Heap.get?_push_size _ rfl
end
end
end
section
set_option maxRecDepth 100000
section
variable {prog : Program} {w : World} {A : Around} {s : Shared} {env : Env} {h₀ : Heap} {tg : Expr} {body : List Stmt} {iter : Expr} {pos : Pos}

noncomputable abbrev FInv := Nat → (Str → Option Value) → List (Addr × Obj) → Array GenState → Prop
noncomputable def StepIt (h₀ : Heap) (L I : Addr) (oI : Obj) (base : List (Addr × Obj)) (Jn : (Str → Option Value) → List (Addr × Obj) → Array GenState → Prop) (s₁ : Shared) (Qr : Value → Shared → Prop) (Qb : Shared → Prop) : Flow → Shared → Prop
  | .ret v, s₂ => Qr v s₂
  | .brk, s₂ => Qb s₂
  | _, s₂ => ∃ h' tk gs m' news', s₂ = { s₁ with heap := h', toks := tk, gens := gs } ∧ Fr h₀ L h' m' ∧ News h₀ L h' ((I, oI) :: news') ∧ (∀ p ∈ news', p.1 ≠ I) ∧ (∀ p ∈ base, p ∈ news') ∧ Jn m' news' gs
theorem StepIt.next {L I : Addr} {oI : Obj} {base : List (Addr × Obj)} {Jn : (Str → Option Value) → List (Addr × Obj) → Array GenState → Prop} {s₁ : Shared} {Qr : Value → Shared → Prop} {Qb : Shared → Prop} {h' : Heap} {tk : Nat} {gs : Array GenState} {m' : Str → Option Value} {all : List (Addr × Obj)}
    (news' : List (Addr × Obj)) (F : Fr h₀ L h' m') (N : News h₀ L h' all) (sub : ∀ p ∈ (I, oI) :: news', p ∈ all) (off : ∀ p ∈ news', p.1 ≠ I) (hb : ∀ p ∈ base, p ∈ news') (hJ : Jn m' news' gs) : StepIt h₀ L I oI base Jn s₁ Qr Qb .next { s₁ with heap := h', toks := tk, gens := gs } :=
  ⟨h', tk, gs, m', news', rfl, F, fun p hp => N p (sub p hp), off, hb, hJ⟩

noncomputable def Turn (prog : Program) (w : World) (A : Around) (h₀ : Heap) (env : Env) (tg : Expr) (body : List Stmt) (Q : Flow → Shared → Prop) (s : Shared) (base : List (Addr × Obj)) (J : FInv) (n T0 : Nat) (P : Nat → Value → Nat → Prop) : Prop :=
  ∀ i v m₁ news₁ h tk gs I oI, i < n → T0 ≤ tk → P i v tk → J i m₁ news₁ gs → Fr h₀ env.locals h m₁ → News h₀ env.locals h ((I, oI) :: news₁) → (∀ p ∈ news₁, p.1 ≠ I) → (∀ p ∈ base, p ∈ news₁) →
    wpAny (model prog w) A (assign tg env v) (fun _ s₂ => wpAny (model prog w) A (execs body env) (StepIt h₀ env.locals I oI base (J (i + 1)) { s with heap := h, toks := tk, gens := gs } (fun v s' => Q (.ret v) s') fun s' => Q .next s') NoE s₂) NoE { s with heap := h, toks := tk, gens := gs }
noncomputable def Done (h₀ : Heap) (L : Addr) (Q : Flow → Shared → Prop) (s : Shared) (J : FInv) (n : Nat) : Prop :=
  ∀ h tk gs m' news', s.toks ≤ tk → Fr h₀ L h m' → News h₀ L h news' → J n m' news' gs → Q .next { s with heap := h, toks := tk, gens := gs }

inductive FiJ (h₀ : Heap) (L I : Addr) (base : List (Addr × Obj)) (n : Nat) (St : Nat → Heap → Prop) (J : FInv) (s : Shared) (k : Nat) (s' : Shared) : Prop
  | mk (h' : Heap) (tk : Nat) (gs : Array GenState) (m' : Str → Option Value) (news' : List (Addr × Obj)) (i : Nat) (_ : s' = { s with heap := h', toks := tk, gens := gs }) (_ : s.toks ≤ tk) (_ : St i h') (_ : Fr h₀ L h' m') (_ : News h₀ L h' news') (_ : ∀ p ∈ news', p.1 ≠ I)
    (_ : ∀ p ∈ base, p ∈ news') (_ : J i m' news' gs) (_ : i ≤ n) (_ : k = n + 1 - i) : FiJ h₀ L I base n St J s k s'
theorem codeAny_forIt {Q : Flow → Shared → Prop} {I : Addr} {base : List (Addr × Obj)} {n : Nat} {P : Nat → Value → Nat → Prop} {St : Nat → Heap → Prop} {m : Str → Option Value} {news : List (Addr × Obj)}
    (T : It prog w A h₀ env.locals I base n s.toks P St) (hI₀ : h₀.get? I = none) (hst : St 0 s.heap) (F : Fr h₀ env.locals s.heap m) (N : News h₀ env.locals s.heap news) (off : ∀ p ∈ news, p.1 ≠ I) (hb : ∀ p ∈ base, p ∈ news)
    (J : FInv) (h0 : J 0 m news s.gens) (turn : Turn prog w A h₀ env tg body Q s base J n s.toks P) (done : Done h₀ env.locals Q s J n) {R : Result → Shared → Prop} (hR : ∀ f s', Q f s' → R (.ok f) s') :
    codeAny (model prog w) A (.forLoop tg (.ref I) body [] env) R s := by
  have hLI := T.ne
  obtain ⟨fp, W, hfp, hLf⟩ := T.W
  refine codeAny_forLoop_any
    (FiJ h₀ env.locals I base n St J s) ?_ (n + 1)
    ⟨s.heap, s.toks, s.gens, m, news, 0, rfl, Nat.le_refl _, hst, F, N, off, hb, h0, Nat.zero_le _, rfl⟩
  rintro k s' ⟨h', tk, gs, m', news', i, rfl, htk, hst', F', N', off', hb', hJ, hi, rfl⟩
  have next : ∀ h₁ : Heap, (∀ b o, b ∉ [I] → h'.get? b = some o → h₁.get? b = some o) → Fr h₀ env.locals h₁ m' ∧ News h₀ env.locals h₁ news' := fun h₁ hk₁ =>
    ⟨⟨F'.ns.at' fun o e => hk₁ _ o (by simpa using hLI) e, fun b o e => hk₁ b o (fun q => by rw [List.mem_singleton.mp q, hI₀] at e; cases e) (F'.keep b o e), F'.above⟩, fun p hp => ⟨hk₁ _ _ (by simpa using off' p hp) (N' p hp).1, (N' p hp).2⟩⟩
  by_cases hlt : i < n
  · refine W.item i _ _ _ hlt htk hst' fun v h₁ tk₁ htk₁ hP hst₁ hk₁ => ?_
    obtain ⟨F₁, N₁⟩ := next h₁ hk₁
    obtain ⟨oI, eI, pI⟩ := T.io _ _ hst₁
    refine letOwned_plain eI pI ?_
    have N₂ : News h₀ env.locals h₁ ((I, oI) :: news') := fun p hp => by
      rcases List.mem_cons.mp hp with rfl | hp
      · exact ⟨eI, Ne.symm hLI, hI₀⟩
      · exact N₁ p hp
    refine wpAny_with_toks (n := s.toks) htk₁ (wpAny_mono (turn i v m' news' h₁ tk₁ gs I oI hlt htk₁ hP hJ F₁ N₂ off' hb') (fun _ s₂ h₂ htk₂ => ?_) fun _ _ e => e.elim)
    refine wpAny_with_toks (n := s.toks) htk₂ (wpAny_mono h₂ (fun f s₃ h₃ htk₃ => ?_) fun _ _ e => e.elim)
    have fin : (∃ h' tk gs' m' news', s₃ = { ({ s with heap := h₁, toks := tk₁, gens := gs } : Shared) with heap := h', toks := tk, gens := gs' } ∧ Fr h₀ env.locals h' m' ∧ News h₀ env.locals h' ((I, oI) :: news') ∧ (∀ p ∈ news', p.1 ≠ I) ∧ (∀ p ∈ base, p ∈ news') ∧ J (i + 1) m' news' gs') →
        ∃ k', k' < n + 1 - i ∧ FiJ h₀ env.locals I base n St J s k' s₃ := by
      rintro ⟨h₃', tk₃, gs₃, m₃, news₃, rfl, F₃, N₃', off₃, hb₃, hJ₃⟩
      refine ⟨n + 1 - (i + 1), Nat.sub_succ_lt_self _ _ (Nat.lt_succ_of_lt hlt), h₃', tk₃, gs₃, m₃, news₃, i + 1, rfl, htk₃, ?_, F₃, fun p hp => N₃' p (List.mem_cons_of_mem _ hp), off₃, hb₃, hJ₃, hlt, rfl⟩
      exact T.st hst₁ eI (N₃' _ List.mem_cons_self).1 F₁.keep F₃.keep (fun p hp => (N₁ p (hb' p hp)).1) fun p hp => (N₃' p (List.mem_cons_of_mem _ (hb₃ p hp))).1
    cases f with
    | ret v => exact hR _ _ h₃
    | brk => exact hR _ _ h₃
    | cont => exact fin h₃
    | next => exact fin h₃
  · have hin : i = n := by omega
    subst hin
    refine W.done _ _ _ htk hst' fun h₁ tk₁ htk₁ hk₁ => wpAny_execs_nil ?_
    obtain ⟨F₁, N₁⟩ := next h₁ hk₁
    exact hR _ _ (done h₁ tk₁ gs m' news' htk₁ F₁ N₁ hJ)

noncomputable def ForAt (prog : Program) (w : World) (A : Around) (env : Env) (tg : Expr) (body : List Stmt) (Q : Flow → Shared → Prop) (E : Value → Shared → Prop) (xv : Value) (s₁ : Shared) : Prop :=
  wpAny (model prog w) A (pyIter xv) (fun it s₂ => codeAny (model prog w) A (.forLoop tg it body [] env) (fun r s' => match r with | .ok f => Q f s' | .error e => cameBackBy (model prog w) A env E e s') s₂) E s₁
theorem for_top {Q : Flow → Shared → Prop} {E : Value → Shared → Prop} (h : wpAny (model prog w) A (eval iter env) (fun xv s₁ => Stop (ForAt prog w A env tg body Q E xv s₁)) E s) (hs : ∀ x, foldedSetIterable iter env x = pure x := by intro _; rfl) :
    wpAny (model prog w) A (exec (.For tg iter body [] pos) env) Q E s := wpAny_For h hs

theorem for_it {Q : Flow → Shared → Prop} {E : Value → Shared → Prop} {xv : Value} {m : Str → Option Value} {news base : List (Addr × Obj)} {n : Nat} {P : Nat → Value → Nat → Prop} (S : Src prog w A h₀ env.locals base xv s n P)
    (F : Fr h₀ env.locals s.heap m) (N : News h₀ env.locals s.heap news) (J : FInv) (h0 : J 0 m news s.gens)
    (turn : Turn prog w A h₀ env tg body Q s base J n s.toks P) (done : Done h₀ env.locals Q s J n) (hb : ∀ p ∈ base, p ∈ news) :
    ForAt prog w A env tg body Q E xv s := by
  refine S _ _ fun oI St T hst => ?_
  exact codeAny_forIt (s := { s with heap := s.heap.push oI }) T (next_is_new F) hst (F.push _) (fun p hp => ⟨Heap.get?_push_of_some _ (N p hp).1, (N p hp).2⟩) (fun p hp => Nat.ne_of_lt (Heap.lt_size (N p hp).1)) hb J h0
    (fun i v m₁ news₁ h tk gs I oI hi ht hP hJ F₁ N₁ o₁ b₁ => turn i v m₁ news₁ h tk gs I oI hi ht hP hJ F₁ N₁ o₁ b₁) (fun h tk gs m' news' ht F' N' hJ => done h tk gs m' news' ht F' N' hJ) fun _ _ q => q
end
end
section
set_option maxRecDepth 100000
section
variable {prog : Program} {w : World} {A : Around} {R : Result → Shared → Prop} {s : Shared}
theorem compTurn_last {elt : Expr} {gens : List Comprehension} {scope : Scope} {pos : Pos} {it acc : Value} {env : Env} {d : Nat} {g : Comprehension} (hg : gens[d]? = some g) (ha : g.is_async = 0) (hn : gens[d + 1]? = none) :
    compTurn (.ListComp elt gens scope pos) d it acc env = (do
      standAt g.iter.pos
      match ← pyNext it with
      | none => pure (.done .next)
      | some v =>
        letOwnedTupleGo g.target it v
        assign g.target env v
        let mut ok := true
        for c in g.ifs do
          if ok then ok ← isTrue c env (eval c env)
        if ok then
          (do let _ ← call (.builtin "list.append") [acc, ← eval elt env])
        again (.compLoop (.ListComp elt gens scope pos) d it acc env)) := by
  obtain ⟨tg, it', ifs, a⟩ := g
  obtain rfl : a = 0 := ha
  unfold compTurn
  simp only [hg, hn]
  rfl
theorem compTurn_more {elt : Expr} {gens : List Comprehension} {scope : Scope} {pos : Pos} {it acc : Value} {env : Env} {d : Nat} {g g' : Comprehension} (hg : gens[d]? = some g) (ha : g.is_async = 0) (hn : gens[d + 1]? = some g') (ha' : g'.is_async = 0) :
    compTurn (.ListComp elt gens scope pos) d it acc env = (do
      standAt g.iter.pos
      match ← pyNext it with
      | none => pure (.done .next)
      | some v =>
        letOwnedTupleGo g.target it v
        assign g.target env v
        let mut ok := true
        for c in g.ifs do
          if ok then ok ← isTrue c env (eval c env)
        if ok then
            let x ← eval g'.iter env
            standAt g'.iter.pos
            let x ← foldedSetIterable g'.iter env x
            let _ ← runOwn (.compStart (.ListComp elt gens scope pos) (d + 1) (← holding [x] (pyIter x)) acc env) env
            again (.compLoop (.ListComp elt gens scope pos) d it acc env)
        else again (.compLoop (.ListComp elt gens scope pos) d it acc env)) := by
  obtain ⟨tg, it', ifs, a⟩ := g
  obtain rfl : a = 0 := ha
  obtain ⟨tg', it'', ifs', a'⟩ := g'
  obtain rfl : a' = 0 := ha'
  unfold compTurn
  simp only [hg, hn]
  rfl

noncomputable abbrev tests (ifs : List Expr) (env : Env) : Sem Bool := forIn ifs true fun c r => if r = true then do let ok ← isTrue c env (eval c env); pure (ForInStep.yield ok) else pure (ForInStep.yield r)
noncomputable def CAct (prog : Program) (w : World) (A : Around) (elt : Expr) (gens : List Comprehension) (scope : Scope) (pos : Pos) (d : Nat) (acc : Value) (env : Env) (Q : Shared → Prop) (s : Shared) : Prop :=
  match gens[d + 1]? with
  | none => wpAny (model prog w) A (eval elt env) (fun x s₄ => wpAny (model prog w) A (call (.builtin "list.append") [acc, x]) (fun _ s₅ => Q s₅) NoE s₄) NoE s
  | some g' => wpAny (model prog w) A (eval g'.iter env) (fun x s₄ => wpAny (model prog w) A (pyIter x) (fun it s₅ => codeAny (model prog w) A (.compStart (.ListComp elt gens scope pos) (d + 1) it acc env) (fun r s₆ => match r with | .ok _ => Q s₆ | .error _ => False) s₅) NoE s₄) NoE s

theorem codeAny_compLoop_at {elt : Expr} {gens : List Comprehension} {scope : Scope} {pos : Pos} {it acc : Value} {env : Env} {d : Nat} {g : Comprehension} (hg : gens[d]? = some g) (ha : g.is_async = 0)
    (ha' : ∀ g', gens[d + 1]? = some g' → g'.is_async = 0 ∧ ∀ x, foldedSetIterable g'.iter env x = pure x) (I : Nat → Shared → Prop)
    (turn : ∀ n s, I n s → wpAny (model prog w) A (pyNext it) (fun r s₁ => match r with
      | none => R (.ok .next) s₁
      | some v => wpAny (model prog w) A (letOwnedTupleGo g.target it v) (fun _ s₂ => wpAny (model prog w) A (assign g.target env v) (fun _ s₂ =>
          wpAny (model prog w) A (tests g.ifs env) (fun ok s₃ =>
            if ok = true then CAct prog w A elt gens scope pos d acc env (fun s₅ => ∃ m, m < n ∧ I m s₅) s₃
            else ∃ m, m < n ∧ I m s₃) NoE s₂) NoE s₂) NoE s₁) NoE s)
    (n : Nat) (h : I n s) : codeAny (model prog w) A (.compLoop (.ListComp elt gens scope pos) d it acc env) R s := by
  refine codeAny_loop rfl I (fun n s hI => ?_) n h
  show wpAny _ A ((compTurn (.ListComp elt gens scope pos) d it acc env).onRaise (fun x => do noteFrame x env; theTreesLotGoes x)) _ _ s
  refine wpAny_noted ?_
  cases hn : gens[d + 1]? with
  | none =>
    rw [compTurn_last hg ha hn]
    refine wpAny_bind (wpAny_standAt (wpAny_bind (wpAny_mono (turn n s hI) (fun r s₁ h₁ => ?_) fun _ _ e => e.elim)))
    cases r with
    | none => exact wpAny_pure h₁
    | some v =>
      refine wpAny_bind (wpAny_mono h₁ (fun _ s₂ h₂ => wpAny_bind (wpAny_mono h₂ (fun _ s₃ h₃ => wpAny_bind (wpAny_mono h₃ (fun ok s₄ h₄ => ?_) fun _ _ e => e.elim)) fun _ _ e => e.elim)) fun _ _ e => e.elim)
      cases ok with
      | false => exact wpAny_pure ⟨rfl, by simpa using h₄⟩
      | true =>
        simp only [if_true, CAct, hn] at h₄
        exact wpAny_bind (wpAny_bind (wpAny_mono h₄ (fun x s₄ h₄ => wpAny_bind (wpAny_mono h₄ (fun _ s₅ h₅ => wpAny_pure (wpAny_pure ⟨rfl, h₅⟩)) fun _ _ e => e.elim)) fun _ _ e => e.elim))
  | some g' =>
    obtain ⟨ga, gs⟩ := ha' g' hn
    rw [compTurn_more hg ha hn ga]
    refine wpAny_bind (wpAny_standAt (wpAny_bind (wpAny_mono (turn n s hI) (fun r s₁ h₁ => ?_) fun _ _ e => e.elim)))
    cases r with
    | none => exact wpAny_pure h₁
    | some v =>
      refine wpAny_bind (wpAny_mono h₁ (fun _ s₂ h₂ => wpAny_bind (wpAny_mono h₂ (fun _ s₃ h₃ => wpAny_bind (wpAny_mono h₃ (fun ok s₄ h₄ => ?_) fun _ _ e => e.elim)) fun _ _ e => e.elim)) fun _ _ e => e.elim)
      cases ok with
      | false => exact wpAny_pure ⟨rfl, by simpa using h₄⟩
      | true =>
        simp only [if_true, CAct, hn] at h₄
        refine wpAny_bind (wpAny_mono h₄ (fun x s₅ h₅ => wpAny_bind (wpAny_standAt (wpAny_bind (wpAny_of_eq (gs x) ?_)))) fun _ _ e => e.elim)
        refine wpAny_bind (wpAny_holding (wpAny_mono h₅ (fun it' s₆ h₆ => ?_) fun _ _ e => e.elim))
        refine wpAny_bind (wpAny_runOwn (codeAny_mono h₆ fun r s₇ h₇ => ?_))
        cases r with
        | ok f => exact wpAny_pure ⟨rfl, h₇⟩
        | error e => exact h₇.elim

theorem codeAny_compStart_at {elt : Expr} {gens : List Comprehension} {scope : Scope} {pos : Pos} {it acc : Value} {env : Env} {d : Nat} {g : Comprehension} (hg : gens[d]? = some g) (ha : g.is_async = 0)
    (h0 : codeAny (model prog w) A (.compLoop (.ListComp elt gens scope pos) d it acc env) R s)
    (h : wpAny (model prog w) A (pyIter it) (fun it' s' => codeAny (model prog w) A (.compLoop (.ListComp elt gens scope pos) d it' acc env) R s') NoE s) :
    codeAny (model prog w) A (.compStart (.ListComp elt gens scope pos) d it acc env) R s := by
  obtain ⟨tg, it', ifs, a⟩ := g
  obtain rfl : a = 0 := ha
  refine codeAny_of_tree ?_
  show wpAny _ _ ((compStart (.ListComp elt gens scope pos) d it acc env).onRaise (fun x => do noteFrame x env; standAt theWindowsPlace)) _ _ s
  refine wpAny_notedAt ?_
  have e : compStart (.ListComp elt gens scope pos) d it acc env = (do
      if (← ask).params.followText "comprehension-iter-twice" then return ← again (.compLoop (.ListComp elt gens scope pos) d it acc env)
      rule "comprehension.iter-twice"
      standAt it'.pos
      again (.compLoop (.ListComp elt gens scope pos) d (← pyIter it) acc env)) := by
    unfold compStart
    simp only [clausesOf, hg]
    rfl
  rw [e]
  show wpAny _ _ (ask >>= _) _ _ s
  refine wpAny_bind (wpAny_askSetting (wpAny_ite ?_))
  split
  · first
      | exact wpAny_bind (wpAny_pure (wpAny_pure (And.intro rfl h0)))
      | exact wpAny_pure (And.intro rfl h0)
  · first
      | exact wpAny_bind (wpAny_rule (wpAny_bind (wpAny_standAt (wpAny_bind (wpAny_mono h (fun it' s' h' => wpAny_pure (And.intro rfl h')) fun _ _ x => x.elim)))))
      | (refine wpAny_bind (wpAny_rule ?_); show wpAny _ _ (standAt _ >>= _) _ _ s; exact wpAny_bind (wpAny_standAt (wpAny_bind (wpAny_mono h (fun it' s' h' => wpAny_pure (And.intro rfl h')) fun _ _ x => x.elim))))
end
end
section
set_option maxRecDepth 100000
section
open LCg
variable {prog : Program} {w : World} {A : Around} {E : Value → Shared → Prop} {s : Shared} {env : Env} {h₀ : Heap} {L : Addr} {m : Str → Option Value} {elt iter : Expr} {gens : List Comprehension} {scope : Scope} {pos : Pos} {cl : List (Str × Addr)}

noncomputable abbrev CInv := Nat → List Value → (Str → Option Value) → List (Addr × Obj) → Array GenState → Prop
noncomputable def Off3' (I C D : Addr) (news : List (Addr × Obj)) : Prop := ∀ p ∈ news, p.1 ≠ I ∧ p.1 ≠ C ∧ p.1 ≠ D
noncomputable def CEnd (h₀ : Heap) (L : Addr) (m : Str → Option Value) (s₁ : Shared) (I C D : Addr) (oI : Obj) (base : List (Addr × Obj)) (K : List Value → (Str → Option Value) → List (Addr × Obj) → Array GenState → Prop) (s₂ : Shared) : Prop :=
  ∃ h' tk gs ys oC m₂ news', s₂ = { s₁ with heap := h', toks := tk, gens := gs } ∧ Fr h₀ L h' m ∧ NsObj oC m₂ ∧ News h₀ L h' ((I, oI) :: (C, oC) :: (D, lst ys ys.length) :: news') ∧ Off3' I C D news' ∧ (∀ p ∈ base, p ∈ news') ∧ K ys m₂ news' gs
theorem CEnd.intro {s₁ : Shared} {I C D : Addr} {oI oC : Obj} {base : List (Addr × Obj)} {K : List Value → (Str → Option Value) → List (Addr × Obj) → Array GenState → Prop} {h' : Heap} {tk : Nat} {gs : Array GenState} {m₂ : Str → Option Value} {all : List (Addr × Obj)} (ys : List Value) (news' : List (Addr × Obj))
    (F : Fr h₀ L h' m) (hoC : NsObj oC m₂) (N : News h₀ L h' all) (sub : ∀ p ∈ (I, oI) :: (C, oC) :: (D, lst ys ys.length) :: news', p ∈ all) (off : Off3' I C D news') (hb : ∀ p ∈ base, p ∈ news') (hK : K ys m₂ news' gs) :
    CEnd h₀ L m s₁ I C D oI base K { s₁ with heap := h', toks := tk, gens := gs } := ⟨h', tk, gs, ys, oC, m₂, news', rfl, F, hoC, fun p hp => N p (sub p hp), off, hb, hK⟩
noncomputable def CElt (h₀ : Heap) (L : Addr) (m : Str → Option Value) (s₁ : Shared) (I C D : Addr) (oI : Obj) (base : List (Addr × Obj)) (K : List Value → (Str → Option Value) → List (Addr × Obj) → Array GenState → Prop) (y : Value) (s₂ : Shared) : Prop :=
  ∃ h' tk gs ys oC m₂ news', s₂ = { s₁ with heap := h', toks := tk, gens := gs } ∧ Fr h₀ L h' m ∧ NsObj oC m₂ ∧ News h₀ L h' ((I, oI) :: (C, oC) :: (D, lst ys ys.length) :: news') ∧ Off3' I C D news' ∧ (∀ p ∈ base, p ∈ news') ∧ ys.length < 100000 ∧ (I ≠ C ∧ I ≠ D ∧ C ≠ D) ∧ K (ys ++ [y]) m₂ news' gs
theorem CElt.intro {s₁ : Shared} {I C D : Addr} {oI oC : Obj} {base : List (Addr × Obj)} {K : List Value → (Str → Option Value) → List (Addr × Obj) → Array GenState → Prop} {h' : Heap} {tk : Nat} {gs : Array GenState} {m₂ : Str → Option Value} {all : List (Addr × Obj)} {y : Value} (ys : List Value) (news' : List (Addr × Obj))
    (F : Fr h₀ L h' m) (hoC : NsObj oC m₂) (N : News h₀ L h' all) (sub : ∀ p ∈ (I, oI) :: (C, oC) :: (D, lst ys ys.length) :: news', p ∈ all) (off : Off3' I C D news') (hb : ∀ p ∈ base, p ∈ news') (hz : ys.length < 100000) (hne : I ≠ C ∧ I ≠ D ∧ C ≠ D) (hK : K (ys ++ [y]) m₂ news' gs) :
    CElt h₀ L m s₁ I C D oI base K y { s₁ with heap := h', toks := tk, gens := gs } := ⟨h', tk, gs, ys, oC, m₂, news', rfl, F, hoC, fun p hp => N p (sub p hp), off, hb, hz, hne, hK⟩

theorem cact_last {d : Nat} {s₁ : Shared} {I C D : Addr} {oI : Obj} {base : List (Addr × Obj)} {K : List Value → (Str → Option Value) → List (Addr × Obj) → Array GenState → Prop} {cenv : Env} (hn : gens[d + 1]? = none)
    (h : wpAny (model prog w) A (eval elt cenv) (CElt h₀ L m s₁ I C D oI base K) NoE s) : CAct prog w A elt gens scope pos d (.ref D) cenv (CEnd h₀ L m s₁ I C D oI base K) s := by
  unfold CAct
  rw [hn]
  refine wpAny_mono h (fun y s₄ h₄ => ?_) fun _ _ e => e
  obtain ⟨h₄, tk₄, gs₄, ys, oC, m₂, news₄, rfl, F₄, hoC, N₄, off₄, b₄, hz, ⟨hIC, hID, hCD⟩, J₄⟩ := h₄
  have zC := N₄ (C, oC) (List.mem_cons_of_mem _ List.mem_cons_self)
  have zI := N₄ (I, oI) List.mem_cons_self
  have zD := N₄ (D, lst ys ys.length) (List.mem_cons_of_mem _ (List.mem_cons_of_mem _ List.mem_cons_self))
  refine append_at (hsz := by rw [List.size_toArray]; simp [sizeLine]; omega) zD.1 fun h₅ hs₅ hD₅ => ?_
  refine ⟨h₅, tk₄, gs₄, ys ++ [y], oC, m₂, news₄, rfl, F₄.change hs₅ zD.2.1 zD.2.2, hoC, fun p hp => ?_, off₄, b₄, J₄⟩
  rcases List.mem_cons.mp hp with rfl | hp
  · exact ⟨hs₅.extBut _ _ hID zI.1, zI.2⟩
  · rcases List.mem_cons.mp hp with rfl | hp
    · exact ⟨hs₅.extBut _ _ hCD zC.1, zC.2⟩
    · rcases List.mem_cons.mp hp with rfl | hp
      · exact ⟨hD₅.trans (congrArg some (lst_snoc ys y)), zD.2⟩
      · have z := N₄ p (List.mem_cons_of_mem _ (List.mem_cons_of_mem _ (List.mem_cons_of_mem _ hp)))
        exact ⟨hs₅.extBut _ _ (off₄ p hp).2.2 z.1, z.2⟩

noncomputable def CTurn (prog : Program) (w : World) (A : Around) (h₀ : Heap) (L : Addr) (m : Str → Option Value) (env : Env) (elt : Expr) (gens : List Comprehension) (scope : Scope) (pos : Pos) (d : Nat) (g : Comprehension) (cl : List (Str × Addr)) (s : Shared) (C D : Addr) (base : List (Addr × Obj)) (J : CInv) (n T0 : Nat) (P : Nat → Value → Nat → Prop) : Prop :=
  ∀ i v ys m₂ news I oI oC h tk gs, i < n → T0 ≤ tk → P i v tk → J i ys m₂ news gs → NsObj oC m₂ → Fr h₀ L h m → News h₀ L h ((I, oI) :: (C, oC) :: (D, lst ys ys.length) :: news) → Off3' I C D news → (I ≠ C ∧ I ≠ D ∧ C ≠ D) → (∀ p ∈ base, p ∈ news) →
    wpAny (model prog w) A (assign g.target (compEnvC scope cl C env) v) (fun _ s₂ => wpAny (model prog w) A (tests g.ifs (compEnvC scope cl C env)) (fun ok s₃ =>
      if ok = true then CAct prog w A elt gens scope pos d (.ref D) (compEnvC scope cl C env) (CEnd h₀ L m { s with heap := h, toks := tk, gens := gs } I C D oI base (J (i + 1))) s₃
      else CEnd h₀ L m { s with heap := h, toks := tk, gens := gs } I C D oI base (J (i + 1)) s₃) NoE s₂) NoE { s with heap := h, toks := tk, gens := gs }

inductive CoJ (h₀ : Heap) (L I C D : Addr) (m : Str → Option Value) (base : List (Addr × Obj)) (n : Nat) (St : Nat → Heap → Prop) (J : CInv) (s : Shared) (k : Nat) (s' : Shared) : Prop
  | mk (h' : Heap) (tk : Nat) (gs : Array GenState) (ys : List Value) (oC : Obj) (m₂ : Str → Option Value) (news' : List (Addr × Obj)) (i : Nat) (_ : s' = { s with heap := h', toks := tk, gens := gs }) (_ : s.toks ≤ tk) (_ : St i h') (_ : Fr h₀ L h' m) (_ : NsObj oC m₂)
    (_ : News h₀ L h' ((C, oC) :: (D, lst ys ys.length) :: news')) (_ : Off3' I C D news') (_ : ∀ p ∈ base, p ∈ news') (_ : J i ys m₂ news' gs) (_ : i ≤ n) (_ : k = n + 1 - i) : CoJ h₀ L I C D m base n St J s k s'
theorem codeAny_compIt {d : Nat} {g : Comprehension} (hg : gens[d]? = some g) (ha : g.is_async = 0) {C D : Addr} {oC : Obj}
    (ha' : ∀ g', gens[d + 1]? = some g' → g'.is_async = 0 ∧ ∀ x, foldedSetIterable g'.iter (compEnvC scope cl C env) x = pure x) {R : Result → Shared → Prop}
    {I : Addr} {base news : List (Addr × Obj)} {n : Nat} {P : Nat → Value → Nat → Prop} {St : Nat → Heap → Prop} {ys₀ : List Value} {m₂ : Str → Option Value}
    (T : It prog w A h₀ L I base n s.toks P St) (hI₀ : h₀.get? I = none) (hst : St 0 s.heap) (F : Fr h₀ L s.heap m) (hoC : NsObj oC m₂) (N : News h₀ L s.heap ((C, oC) :: (D, lst ys₀ ys₀.length) :: news))
    (off : Off3' I C D news) (hne : I ≠ C ∧ I ≠ D ∧ C ≠ D) (hb : ∀ p ∈ base, p ∈ news) (J : CInv) (h0 : J 0 ys₀ m₂ news s.gens)
    (turn : CTurn prog w A h₀ L m env elt gens scope pos d g cl s C D base J n s.toks P)
    (done : ∀ h tk gs ys oC m₂ news', s.toks ≤ tk → Fr h₀ L h m → NsObj oC m₂ → News h₀ L h ((C, oC) :: (D, lst ys ys.length) :: news') → Off3' I C D news' → J n ys m₂ news' gs → R (.ok .next) { s with heap := h, toks := tk, gens := gs }) :
    codeAny (model prog w) A (.compLoop (.ListComp elt gens scope pos) d (.ref I) (.ref D) (compEnvC scope cl C env)) R s := by
  have hLI := T.ne
  obtain ⟨fp, W, hfp, hLf⟩ := T.W
  obtain ⟨hIC, hID, hCD⟩ := hne
  refine codeAny_compLoop_at hg ha ha'
    (CoJ h₀ L I C D m base n St J s) ?_ (n + 1)
    ⟨s.heap, s.toks, s.gens, ys₀, oC, m₂, news, 0, rfl, Nat.le_refl _, hst, F, hoC, N, off, hb, h0, Nat.zero_le _, rfl⟩
  rintro k s' ⟨h', tk, gs, ys, oC', m₂', news', i, rfl, htk, hst', F', hoC', N', off', hb', hJ, hi, rfl⟩
  walk_at "seal24"
  have next : ∀ h₁ : Heap, (∀ b o, b ∉ [I] → h'.get? b = some o → h₁.get? b = some o) → Fr h₀ L h₁ m ∧ News h₀ L h₁ ((C, oC') :: (D, lst ys ys.length) :: news') := fun h₁ hk₁ =>
    ⟨⟨F'.ns.at' fun o e => hk₁ _ o (by simpa using hLI) e, fun b o e => hk₁ b o (fun q => by rw [List.mem_singleton.mp q, hI₀] at e; cases e) (F'.keep b o e), F'.above⟩, fun p hp => ⟨hk₁ _ _ (by
      rcases List.mem_cons.mp hp with rfl | hp
      · simpa using Ne.symm hIC
      · rcases List.mem_cons.mp hp with rfl | hp
        · simpa using Ne.symm hID
        · simpa using (off' p hp).1) (N' p hp).1, (N' p hp).2⟩⟩
  by_cases hlt : i < n
  · refine W.item i _ _ _ hlt htk hst' fun v h₁ tk₁ htk₁ hP hst₁ hk₁ => ?_
    obtain ⟨F₁, N₁⟩ := next h₁ hk₁
    obtain ⟨oI, eI, pI⟩ := T.io _ _ hst₁
    refine letOwned_plain eI pI ?_
    have N₂ : News h₀ L h₁ ((I, oI) :: (C, oC') :: (D, lst ys ys.length) :: news') := fun p hp => by
      rcases List.mem_cons.mp hp with rfl | hp
      · exact ⟨eI, Ne.symm hLI, hI₀⟩
      · exact N₁ p hp
    have fin : ∀ s₃ : Shared, s.toks ≤ s₃.toks → CEnd h₀ L m { s with heap := h₁, toks := tk₁, gens := gs } I C D oI base (J (i + 1)) s₃ →
        ∃ k', k' < n + 1 - i ∧ CoJ h₀ L I C D m base n St J s k' s₃ := by
      rintro _ htk₃ ⟨h₃', tk₃, gs₃, ys₃, oC₃, m₃, news₃, rfl, F₃, hoC₃, N₃', off₃, hb₃, hJ₃⟩
      refine ⟨n + 1 - (i + 1), Nat.sub_succ_lt_self _ _ (Nat.lt_succ_of_lt hlt), h₃', tk₃, gs₃, ys₃, oC₃, m₃, news₃, i + 1, rfl, htk₃, ?_, F₃, hoC₃, fun p hp => N₃' p (List.mem_cons_of_mem _ hp), off₃, hb₃, hJ₃, hlt, rfl⟩
      exact T.st hst₁ eI (N₃' _ List.mem_cons_self).1 F₁.keep F₃.keep (fun p hp => (N₁ p (List.mem_cons_of_mem _ (List.mem_cons_of_mem _ (hb' p hp)))).1) fun p hp => (N₃' p (List.mem_cons_of_mem _ (List.mem_cons_of_mem _ (List.mem_cons_of_mem _ (hb₃ p hp))))).1
    refine wpAny_with_toks (n := s.toks) htk₁ (wpAny_mono (turn i v ys m₂' news' I oI oC' h₁ tk₁ gs hlt htk₁ hP hJ hoC' F₁ N₂ off' ⟨hIC, hID, hCD⟩ hb') (fun _ s₂ h₂ htk₂ => ?_) fun _ _ e => e.elim)
    refine wpAny_with_toks (n := s.toks) htk₂ (wpAny_mono h₂ (fun ok s₃ h₃ htk₃ => ?_) fun _ _ e => e.elim)
    cases ok with
    | false => simpa using fin _ htk₃ (by simpa using h₃)
    | true =>
      simp only [if_true] at h₃ ⊢
      unfold CAct at h₃ ⊢
      revert h₃
      cases gens[d + 1]? with
      | none =>
        intro h₃
        refine wpAny_with_toks (n := s.toks) htk₃ (wpAny_mono h₃ (fun x s₄ h₄ htk₄ => ?_) fun _ _ e => e.elim)
        refine wpAny_with_toks (n := s.toks) htk₄ (wpAny_mono h₄ (fun x s₅ h₅ htk₅ => fin _ htk₅ h₅) fun _ _ e => e.elim)
      | some g' =>
        intro h₃
        refine wpAny_with_toks (n := s.toks) htk₃ (wpAny_mono h₃ (fun x s₄ h₄ htk₄ => ?_) fun _ _ e => e.elim)
        refine wpAny_with_toks (n := s.toks) htk₄ (wpAny_mono h₄ (fun it s₅ h₅ htk₅ => ?_) fun _ _ e => e.elim)
        refine codeAny_with_toks (n := s.toks) htk₅ (codeAny_mono h₅ fun r s₆ h₆ htk₆ => ?_)
        cases r with
        | ok f => exact fin _ htk₆ h₆
        | error e => exact h₆
  · have hin : i = n := by omega
    subst hin
    refine W.done _ _ _ htk hst' fun h₁ tk₁ htk₁ hk₁ => ?_
    obtain ⟨F₁, N₁⟩ := next h₁ hk₁
    exact done h₁ tk₁ gs ys oC' m₂' news' htk₁ F₁ hoC' N₁ off' hJ

theorem store_C {C : Addr} {oC : Obj} {m₂ : Str → Option Value} {x : Str} {v : Value} {pre post : List (Addr × Obj)} {Q : Unit → Shared → Prop} (F : Fr h₀ L s.heap m) (N : News h₀ L s.heap (pre ++ (C, oC) :: post)) (hoC : NsObj oC m₂)
    (o1 : ∀ p ∈ pre, p.1 ≠ C) (o2 : ∀ p ∈ post, p.1 ≠ C) (hkind : scope.kind = .function) (hx : scope.names.lookup x = some .local)
    (h : ∀ h' oC', Fr h₀ L h' m → NsObj oC' (fun y => if y = x then some v else m₂ y) → News h₀ L h' (pre ++ (C, oC') :: post) → Q () { s with heap := h', toks := s.toks + 1 }) :
    wpAny (model prog w) A (storeName (compEnvC scope cl C env) x v) Q E s := by
  have z := N (C, oC) (List.mem_append_right _ List.mem_cons_self)
  refine wpAny_storeName_local (lookup_relabel_local hx) (hoC.ns z.1) (fun h₃ hn₃ hs₃ => ?_) (by simp [compEnvC, relabel, hkind])
  obtain ⟨oC', heC, hoC'⟩ := ns_obj hn₃
  exact h h₃ oC' (F.change hs₃ z.2.1 z.2.2) hoC' (N.setAt o1 o2 hs₃ heC)

noncomputable def CompAt (prog : Program) (w : World) (A : Around) (env : Env) (elt : Expr) (gens : List Comprehension) (scope : Scope) (cl : List (Str × Addr)) (pos : Pos) (E : Value → Shared → Prop) (RR : Value → Addr → Result → Shared → Prop) (xv : Value) (s₁ : Shared) : Prop :=
  wpAny (model prog w) A (pyIter xv) (fun it s₂ => wpAny (model prog w) A (newList []) (fun acc s₃ => wpAny (model prog w) A (newFunctionEnv scope env.globals cl [] env.qual none .none (some env)) (fun cenv s₄ =>
      codeAny (model prog w) A (.compStart (.ListComp elt gens scope pos) 0 it acc { cenv with scope := relabel scope env }) (RR acc cenv.locals) s₄) E s₃) E s₂) E s₁
noncomputable abbrev RRe (prog : Program) (w : World) (A : Around) (E : Value → Shared → Prop) (Q : Value → Shared → Prop) := compPost (model prog w) A E none Q
noncomputable abbrev RRa (prog : Program) (w : World) (A : Around) (env : Env) (y : Str) (py : Pos) (E : Value → Shared → Prop) (Q : Flow → Shared → Prop) := compPost (model prog w) A E (some (assign (.Name y py) env)) (fun _ s' => Q .next s')

theorem comp_top {tg : Expr} {ifs : List Expr} {rest : List Comprehension} {Q : Value → Shared → Prop} (hclos : closureFor scope env = pure cl) (hkind : scope.kind = .function) (hnames : ∀ y ∈ scope.names, y.2 = .local → scope.names.lookup y.1 = some .local)
    (h : wpAny (model prog w) A (eval iter env) (fun xv s₁ => Stop (CompAt prog w A env elt (⟨tg, iter, ifs, 0⟩ :: rest) scope cl pos E (RRe prog w A E Q) xv s₁)) E s) (hs : ∀ x, foldedSetIterable iter env x = pure x := by intro _; rfl) :
    wpAny (model prog w) A (eval (.ListComp elt (⟨tg, iter, ifs, 0⟩ :: rest) scope pos) env) Q E s := by
  rw [eval_ListComp]
  exact wpAny_comprehension_free (use := none) rfl hs hclos hkind hnames h

theorem comp_topA {tg : Expr} {ifs : List Expr} {rest : List Comprehension} {y : Str} {py spos : Pos} {Q : Flow → Shared → Prop} (hsw : swapsWith (.ListComp elt (⟨tg, iter, ifs, 0⟩ :: rest) scope pos) (some (.Name y py)) spos.line env = pure true)
    (hclos : closureFor scope env = pure cl) (hkind : scope.kind = .function) (hnames : ∀ y ∈ scope.names, y.2 = .local → scope.names.lookup y.1 = some .local)
    (h : wpAny (model prog w) A (eval iter env) (fun xv s₁ => Stop (CompAt prog w A env elt (⟨tg, iter, ifs, 0⟩ :: rest) scope cl pos E (RRa prog w A env y py E Q) xv s₁)) E s) (hs : ∀ x, foldedSetIterable iter env x = pure x := by intro _; rfl) :
    wpAny (model prog w) A (exec (.Assign [.Name y py] (.ListComp elt (⟨tg, iter, ifs, 0⟩ :: rest) scope pos) spos) env) Q E s := by
  rw [exec_Assign_Name_used _ _ _ _ hsw]
  refine wpAny_bind (wpAny_standAt (wpAny_bind ?_))
  show wpAny _ A (do let _ ← comprehension (.ListComp elt (⟨tg, iter, ifs, 0⟩ :: rest) scope pos) scope env _ (newList []) false (eval iter env) (some (assign (.Name y py) env))) _ _ s
  exact wpAny_bind (wpAny_mono (wpAny_comprehension_free (use := some (assign (.Name y py) env)) (Q := fun _ s' => Q .next s') rfl hs hclos hkind hnames h) (fun _ s' hq => wpAny_pure (wpAny_pure hq)) fun _ _ e => e)

noncomputable def RROk (h₀ : Heap) (L : Addr) (m : Str → Option Value) (RR : Value → Addr → Result → Shared → Prop) (s : Shared) (J : CInv) (n : Nat) : Prop :=
  ∀ D C oC h tk gs ys news' m', s.toks ≤ tk → Fr h₀ L h m → NsObj oC m' → News h₀ L h ((C, oC) :: (D, lst ys ys.length) :: news') → (∀ p ∈ news', p.1 ≠ D) → (∀ p ∈ news', p.1 ≠ C) → D ≠ C → J n ys m' news' gs → RR (.ref D) C (.ok .next) { s with heap := h, toks := tk, gens := gs }
noncomputable def CDone (h₀ : Heap) (L : Addr) (m : Str → Option Value) (Q : Value → Shared → Prop) (s : Shared) (J : CInv) (n : Nat) : Prop :=
  ∀ D h tk gs ys m' news', s.toks ≤ tk → Fr h₀ L h m → News h₀ L h ((D, lst ys ys.length) :: news') → (∀ p ∈ news', p.1 ≠ D) → J n ys m' news' gs → Q (.ref D) { s with heap := h, toks := tk, gens := gs }
theorem rr_e {Q : Value → Shared → Prop} {J : CInv} {n : Nat} (done : CDone h₀ L m Q s J n) : RROk h₀ L m (RRe prog w A E Q) s J n := fun D C oC h tk gs ys news' m' ht F hoC N oD oC' hDC hJ =>
  have zC := N (C, oC) List.mem_cons_self
  ⟨m', hoC.ns zC.1, fun h₃ hs₃ => done D h₃ tk gs ys m' news' ht (F.change hs₃ zC.2.1 zC.2.2) (fun p hp => ⟨hs₃.extBut _ _ (by
    rcases List.mem_cons.mp hp with rfl | hp
    · exact hDC
    · exact oC' p hp) (N p (List.mem_cons_of_mem _ hp)).1, (N p (List.mem_cons_of_mem _ hp)).2⟩) oD hJ⟩
theorem rr_a {y : Str} {py : Pos} {Q : Flow → Shared → Prop} {J : CInv} {n : Nat}
    (done : ∀ D C oC h tk gs ys m' news', s.toks ≤ tk → Fr h₀ L h m → NsObj oC m' → News h₀ L h ((D, lst ys ys.length) :: news') → (∀ p ∈ news', p.1 ≠ D) → (∀ p ∈ news', p.1 ≠ C) → D ≠ C → C ≠ L → h₀.get? C = none → h.get? C = some oC → J n ys m' news' gs →
      wpAny (model prog w) A (assign (.Name y py) env (.ref D)) (fun _ s₂ => s₂.heap.get? C = some oC ∧ ∀ h', Heap.SameBut C s₂.heap h' → Q .next { s₂ with heap := h' }) E { s with heap := h, toks := tk, gens := gs }) : RROk h₀ L m (RRa prog w A env y py E Q) s J n := fun D C oC h tk gs ys news' m' ht F hoC N oD oC' hDC hJ => by
  have zC := N (C, oC) List.mem_cons_self
  show wpAny _ A (assign (.Name y py) env (.ref D)) _ _ _
  refine wpAny_mono (done D C oC h tk gs ys m' news' ht F hoC (fun p hp => N p (List.mem_cons_of_mem _ hp)) oD oC' hDC zC.2.1 zC.2.2 zC.1 hJ) (fun _ s₂ h₂ => ⟨m', hoC.ns h₂.1, fun h₃ hs₃ => h₂.2 h₃ hs₃⟩) fun _ _ e => e
theorem rr_al {y : Str} {py : Pos} {Q : Flow → Shared → Prop} {J : CInv} {n : Nat} (hy : env.kindOf y = some .local) (hp : (env.scope.kind == .class || (env.scope.kind == .module && env.locals != env.globals)) = false)
    (done : ∀ D h tk gs ys m' news', s.toks ≤ tk → Fr h₀ env.locals h (fun z => if z = y then some (.ref D) else m z) → News h₀ env.locals h ((D, lst ys ys.length) :: news') → (∀ p ∈ news', p.1 ≠ D) → J n ys m' news' gs → Q .next { s with heap := h, toks := tk, gens := gs }) :
    RROk h₀ env.locals m (RRa prog w A env y py E Q) s J n := rr_a fun D C oC h tk gs ys m' news' ht F hoC N oD oC' hDC hCL hC₀ hgC hJ => by
  refine wpAny_assign_Name (wpAny_storeName_local hy F.ns (fun h₂ hn₂ hs₂ => ?_) hp)
  have F₂ : Fr h₀ env.locals h₂ (fun z => if z = y then some (.ref D) else m z) := F.set hn₂ hs₂
  have N₂ : News h₀ env.locals h₂ ((D, lst ys ys.length) :: news') := N.set hs₂
  refine ⟨hs₂.extBut _ _ hCL hgC, fun h₃ hs₃ => done D h₃ _ gs ys m' news' (Nat.le_succ_of_le ht) (F₂.change hs₃ hCL hC₀) (fun p hp => ⟨hs₃.extBut _ _ ?_ (N₂ p hp).1, (N₂ p hp).2⟩) oD hJ⟩
  rcases List.mem_cons.mp hp with rfl | hp
  · exact hDC
  · exact oC' p hp
theorem rr_ac {y : Str} {py : Pos} {Q : Flow → Shared → Prop} {J : CInv} {n : Nat} {c : Addr} (hk : env.scope.kind = .function) (hy : env.kindOf y = some .cell) (hc : env.cells.lookup y = some c)
    (hJc : ∀ ys m' news' gs, J n ys m' news' gs → ∃ o pre post v₀, news' = pre ++ (c, o) :: post ∧ o.data = .cell v₀ ∧ (∀ p ∈ pre, p.1 ≠ c) ∧ (∀ p ∈ post, p.1 ≠ c))
    (done : ∀ D h tk gs ys m' pre o post o', s.toks ≤ tk → Fr h₀ L h m → News h₀ L h ((D, lst ys ys.length) :: (pre ++ (c, o') :: post)) → (∀ p ∈ pre ++ (c, o') :: post, p.1 ≠ D) → o'.data = .cell (some (.ref D)) → (∀ p ∈ pre, p.1 ≠ c) → (∀ p ∈ post, p.1 ≠ c) → J n ys m' (pre ++ (c, o) :: post) gs → Q .next { s with heap := h, toks := tk, gens := gs }) :
    RROk h₀ L m (RRa prog w A env y py E Q) s J n := rr_a fun D C oC h tk gs ys m' news' ht F hoC N oD oC' hDC hCL hC₀ hgC hJ => by
  obtain ⟨o, pre, post, v₀, rfl, hd, o1, o2⟩ := hJc _ _ _ _ hJ
  have hmem := N (c, o) (List.mem_cons_of_mem _ (List.mem_append_right _ List.mem_cons_self))
  have hcC : c ≠ C := oC' (c, o) (List.mem_append_right _ List.mem_cons_self)
  have hcD : c ≠ D := oD (c, o) (List.mem_append_right _ List.mem_cons_self)
  refine wpAny_assign_Name (wpAny_storeName_cell hk hy hc ⟨o, hmem.1, hd⟩ fun h₂ hv hs => ?_)
  obtain ⟨o', ho', hd'⟩ := hv
  have F₂ : Fr h₀ L h₂ m := F.change hs hmem.2.1 hmem.2.2
  have N₂ : News h₀ L h₂ ((D, lst ys ys.length) :: (pre ++ (c, o') :: post)) := by
    refine News.setAt (own := (D, lst ys ys.length) :: pre) N (fun p hp => ?_) o2 hs ho'
    rcases List.mem_cons.mp hp with rfl | hp
    · exact Ne.symm hcD
    · exact o1 p hp
  have off : ∀ X : Addr, (∀ p ∈ pre ++ (c, o) :: post, p.1 ≠ X) → ∀ p ∈ pre ++ (c, o') :: post, p.1 ≠ X := fun X q p hp => by
    rcases List.mem_append.mp hp with hp | hp
    · exact q p (List.mem_append_left _ hp)
    · rcases List.mem_cons.mp hp with rfl | hp
      · exact q (c, o) (List.mem_append_right _ List.mem_cons_self)
      · exact q p (List.mem_append_right _ (List.mem_cons_of_mem _ hp))
  refine ⟨hs.extBut _ _ (Ne.symm hcC) hgC, fun h₃ hs₃ => done D h₃ _ gs ys m' pre o post o' ht (F₂.change hs₃ hCL hC₀) (fun p hp => ⟨hs₃.extBut _ _ ?_ (N₂ p hp).1, (N₂ p hp).2⟩) (off D oD) hd' o1 o2 hJ⟩
  rcases List.mem_cons.mp hp with rfl | hp
  · exact hDC
  · exact off C oC' p hp

theorem comp_it {g : Comprehension} {rest : List Comprehension} (ha : g.is_async = 0) {RR : Value → Addr → Result → Shared → Prop} {xv : Value} {base news : List (Addr × Obj)} {n : Nat} {P : Nat → Value → Nat → Prop}
    (S : Src prog w A h₀ L base xv s n P) (F : Fr h₀ L s.heap m) (N : News h₀ L s.heap news) (J : CInv) (h0 : ∀ m₂, J 0 [] m₂ news s.gens)
    (turn : ∀ g₁ s₁ C D, s₁ = { s with heap := g₁ } → CTurn prog w A h₀ L m env elt (g :: rest) scope pos 0 g cl s₁ C D base J n s.toks P) (done : RROk h₀ L m RR s J n)
    (hb : ∀ p ∈ base, p ∈ news) (hcell : ∀ y ∈ scope.names, y.2 ≠ .cell := by decide) (hkind : scope.kind = .function := by rfl)
    (ha' : ∀ C g', rest[0]? = some g' → g'.is_async = 0 ∧ ∀ x, foldedSetIterable g'.iter (compEnvC scope cl C env) x = pure x := by intro _ _ h; cases h) :
    CompAt prog w A env elt (g :: rest) scope cl pos E RR xv s := by
  refine S _ _ fun oI St T hst => ?_
  refine wpAny_newObj_type (wpAny_newFunctionEnv hcell (by intro y hy; simp at hy) (fun h₁ hns₁ hsb₁ => ?_) hkind)
  dsimp only at hns₁ hsb₁ ⊢
  generalize hH1 : s.heap.push oI = H1 at hns₁ hsb₁ hst ⊢
  generalize hH2 : H1.push { cls := .type "list", dict := none, data := .seq ([] : List Value).toArray } = H2 at hns₁ hsb₁ ⊢
  have hI : H1.objs.size = s.heap.objs.size + 1 := by rw [← hH1, Heap.size_push]
  have hC : H2.objs.size = s.heap.objs.size + 2 := by rw [← hH2, Heap.size_push, hI]
  have fresh₀ : ∀ a, s.heap.objs.size ≤ a → h₀.get? a = none := fun a ha => by
    cases e : h₀.get? a with
    | none => rfl
    | some o' => exact absurd (Heap.lt_size (F.keep a o' e)) (Nat.not_lt.mpr ha)
  have hLlt : @LT.lt Nat _ L s.heap.objs.size := F.ns.lt
  have up1 : ∀ b o, s.heap.get? b = some o → H1.get? b = some o := fun b o e => by rw [← hH1]; exact Heap.get?_push_of_some _ e
  have old : ∀ b o, H1.get? b = some o → h₁.get? b = some o := fun b o e => hsb₁.extBut b o (by have q : @LT.lt Nat _ b H1.objs.size := Heap.lt_size e; show @Ne Nat _ _; omega) (Heap.get?_push_of_some _ (hH2 ▸ Heap.get?_push_of_some _ e))
  have hacc : h₁.get? H1.objs.size = some (lst [] 0) := hsb₁.extBut _ _ (by show @Ne Nat _ _; omega) (Heap.get?_push_of_some _ (hH2 ▸ Heap.get?_push_size _ rfl))
  obtain ⟨oC, eC, hoC⟩ := ns_obj hns₁
  have F₁ : Fr h₀ L h₁ m := F.keeps fun b o e => old b o (up1 b o e)
  have N₁ : News h₀ L h₁ ((H2.objs.size, oC) :: (H1.objs.size, lst [] ([] : List Value).length) :: news) := fun p hp => by
    rcases List.mem_cons.mp hp with rfl | hp
    · exact ⟨eC, (by show @Ne Nat _ _; omega), fresh₀ _ (by show @LE.le Nat _ _ _; omega)⟩
    · rcases List.mem_cons.mp hp with rfl | hp
      · exact ⟨hacc, (by show @Ne Nat _ _; omega), fresh₀ _ (by show @LE.le Nat _ _ _; omega)⟩
      · exact ⟨old _ _ (up1 _ _ (N p hp).1), (N p hp).2⟩
  have hst₁ : St 0 h₁ := by
    obtain ⟨oI₀, eI₀, _⟩ := T.io _ _ hst
    exact T.st hst eI₀ (old _ _ eI₀) (fun b o e => up1 b o (F.keep b o e)) F₁.keep (fun p hp => up1 _ _ (N p (hb p hp)).1) fun p hp => (N₁ p (List.mem_cons_of_mem _ (List.mem_cons_of_mem _ (hb p hp)))).1
  have loop : ∀ s₃ : Shared, s₃ = { s with heap := h₁, toks := s.toks + ([] : List (Str × Value)).length } →
      codeAny (model prog w) A (.compLoop (.ListComp elt (g :: rest) scope pos) 0 (.ref s.heap.objs.size) (.ref H1.objs.size) (compEnvC scope cl H2.objs.size env)) (RR (.ref H1.objs.size) H2.objs.size) s₃ := by
    rintro s₃ rfl
    refine codeAny_compIt (s := { s with heap := h₁ }) (g := g) (by rfl) ha (fun g' hg' => ha' _ g' hg') T (fresh₀ _ (Nat.le_refl _)) hst₁ F₁ hoC N₁ (fun p hp => ?_) ⟨?_, ?_, ?_⟩ hb J (h0 _) (turn h₁ _ _ _ rfl) (fun h tk gs ys oC' m₂ news' ht F' hoC' N' off' hJ => ?_)
    · have q : @LT.lt Nat _ p.1 s.heap.objs.size := Heap.lt_size (N p hp).1
      refine ⟨?_, ?_, ?_⟩ <;> (show @Ne Nat _ _; omega)
    · show @Ne Nat _ _; omega
    · show @Ne Nat _ _; omega
    · show @Ne Nat _ _; omega
    · exact done _ _ oC' h tk gs ys news' m₂ ht F' hoC' N' (fun p hp => (off' p hp).2.2) (fun p hp => (off' p hp).2.1) (by show @Ne Nat _ _; omega) hJ
  obtain ⟨fp, W, _⟩ := T.W
  exact codeAny_compStart_at (g := g) (by rfl) ha (loop _ rfl) (W.self 0 _ _ _ hst₁ (loop _ rfl))
end
end
section
set_option maxRecDepth 100000
noncomputable def one (c : Nat) : Str := ⟨#[c]⟩
noncomputable def beats (wins : List Str) (a b : Nat) : Bool := wins.any (· == ⟨#[a, b]⟩)
noncomputable def gamesT : List Str := [Str.ofString "ab", Str.ofString "ac", Str.ofString "ad", Str.ofString "ae", Str.ofString "bc", Str.ofString "bd", Str.ofString "be", Str.ofString "cd", Str.ofString "ce", Str.ofString "de"]
set_option maxHeartbeats 4000000 in
theorem games {w : World} {p : Program} {loose : List Str} {mean : ExcName → Option Value} {mg mb : Str → Option Value} {A : Around} {h₀ : Heap} {L : Addr} {m : Str → Option Value} {news : List (Addr × Obj)} {s : Shared} {Q : Value → Shared → Prop}
    (F : Fr h₀ L s.heap m) (X : (KK w.params).In h₀) (N : News h₀ L s.heap news) (T : Top p loose mean mg mb h₀) (hd : A.depth + 10 < recursionLimit)
    (ret : ∀ h' tk D vs n, StrsAre vs gamesT → (∀ q ∈ news, q.1 < D) → Fr h₀ L h' m → News h₀ L h' ((D, lst vs n) :: news) → Q (.ref D) { s with heap := h', toks := tk }) : wpAny (model PG w) A (call (.ref 179) []) Q NoE s := by
  refine wpAny_call (enterN [] F X N T rfl ?cd ?ro ?bd ?lo ?ce rfl rfl rfl ?_)
  case cd => k_is
  case ro => k_room
  case bd => first | exact BindsTo.of_eq rfl | exact binds_K (by k_in) rfl (by k_is) rfl rfl rfl
  case lo => exact locs rfl
  case ce => decide
  intro g' L' h' FG' F' N' X' T' l1
  k_steps
  refine ret _ _ _ _ 0 ?hstrs (by assumption) (by assumption) (by assumption)
  case hstrs => walk_at "strs"
end
section
set_option maxRecDepth 100000
noncomputable def revT (g : Str) : Str := ⟨g.cps.reverse⟩
theorem News.sub {h₀ h : Heap} {L : Addr} {a b : List (Addr × Obj)} (N : News h₀ L h a) (q : ∀ p ∈ b, p ∈ a) : News h₀ L h b := fun p hp => N p (q p hp)
theorem off_set {I D : Addr} {o o' : Obj} {r : List (Addr × Obj)} (h : ∀ p ∈ (D, o) :: r, p.1 ≠ I) : ∀ p ∈ (D, o') :: r, p.1 ≠ I := fun p hp => by
  rcases List.mem_cons.mp hp with rfl | hp
  · exact h (D, o) List.mem_cons_self
  · exact h p (List.mem_cons_of_mem _ hp)
theorem two_of {g : Str} (h : g.cps.size = 2) : ∃ a b, g = ⟨#[a, b]⟩ := by
  obtain ⟨⟨l⟩⟩ := g
  match l, h with
  | [a, b], _ => exact ⟨a, b, rfl⟩
theorem gamesT_two (j : Nat) (hj : j < 10) : ∃ a b, gamesT.getD j default = ⟨#[a, b]⟩ := by
  refine two_of ?_
  have : ∀ j : Fin 10, (gamesT.getD j.val default).cps.size = 2 := by decide +kernel
  exact this ⟨j, hj⟩
theorem item_rev (a b : Nat) : Txt.item ⟨#[a, b]⟩ 1 ++ Txt.item ⟨#[a, b]⟩ 0 = revT ⟨#[a, b]⟩ := by
  first | rfl | with_unfolding_all rfl | (simp [Txt.item, revT])
theorem app_led {w : World} {A : Around} {E : Value → Shared → Prop} {s : Shared} {h₀ : Heap} {L D : Addr} {m : Str → Option Value} {all rest : List (Addr × Obj)} {vs : List Value} {n : Nat} {y : Value} {Q : Value → Shared → Prop} (F : Fr h₀ L s.heap m) (N : News h₀ L s.heap all)
    (sub : ∀ p ∈ (D, lst vs n) :: rest, p ∈ all) (off : ∀ p ∈ rest, p.1 ≠ D) (hz : vs.length < 100000) (h : ∀ h', Fr h₀ L h' m → News h₀ L h' ((D, lst (vs ++ [y]) (n + 1)) :: rest) → Q .none { s with heap := h' }) :
    wpAny (model PG w) A (call (.builtin "list.append") [.ref D, y]) Q E s := by
  have z := N _ (sub _ List.mem_cons_self)
  refine append_at (hsz := by rw [List.size_toArray]; simp [sizeLine]; omega) z.1 fun h₅ hs₅ hD₅ => ?_
  refine h h₅ (F.change hs₅ z.2.1 z.2.2) fun p hp => ?_
  rcases List.mem_cons.mp hp with rfl | hp
  · exact ⟨hD₅.trans (by rw [List.push_toArray]), z.2.1, z.2.2⟩
  · have q := N p (sub p (List.mem_cons_of_mem _ hp))
    exact ⟨hs₅.extBut _ _ (off p hp) q.1, q.2⟩
noncomputable def readStep (acc : List Str) (c : Nat) : List Str :=
  if in8 c then acc ++ [gamesT.getD acc.length default] else if in9 c then acc ++ [revT (gamesT.getD acc.length default)] else acc
noncomputable def readP (cs : List Nat) : List Str := cs.foldl readStep []
inductive RdJ (G : Array GenState) (D : Addr) (page : Str) (tp : Tok) (news : List (Addr × Obj)) (i : Nat) (m' : Str → Option Value) (nw : List (Addr × Obj)) (gs : Array GenState) : Prop
  | mk (_ : gs = G) (v1 v2 v3 v4 : Option Value) (vs : List Value) (n : Nat) (_ : m' = mp [(Str.ofString "sign", v1), (Str.ofString "first", v2), (Str.ofString "second", v3), (Str.ofString "game", v4), (Str.ofString "wins", some (.ref D)), (Str.ofString "page", some (.str page tp))]) (_ : nw = (D, lst vs n) :: news) (_ : StrsAre vs (readP (page.cps.toList.take i))) : RdJ G D page tp news i m' nw gs
set_option maxHeartbeats 4000000 in
theorem readC {w : World} {p : Program} {loose : List Str} {mean : ExcName → Option Value} {mg mb : Str → Option Value} {A : Around} {h₀ : Heap} {L : Addr} {m : Str → Option Value} {news : List (Addr × Obj)} {s : Shared} {Q : Value → Shared → Prop} {page : Str} {tp : Tok}
    (F : Fr h₀ L s.heap m) (X : (KK w.params).In h₀) (N : News h₀ L s.heap news) (T : Top p loose mean mg mb h₀) (hd : A.depth + 30 < recursionLimit) (hh : A.handled = none)
    (hlen : ∀ i, (readP (page.cps.toList.take i)).length ≤ 10) (hex : ∀ c ∈ page.cps, ¬ (in8 c = true ∧ in9 c = true))
    (ret : ∀ h' tk D vs n, StrsAre vs (readP page.cps.toList) → (∀ q ∈ news, q.1 ≠ D) → Fr h₀ L h' m → News h₀ L h' ((D, lst vs n) :: news) → Q (.ref D) { s with heap := h', toks := tk }) : wpAny (model PG w) A (call (.ref 198) [.str page tp]) Q NoE s := by
  obtain ⟨ah, ad, af, ag, au⟩ := A
  obtain rfl : ah = none := hh
  replace hd : ad + 30 < recursionLimit := hd
  refine wpAny_call (enterN [(Str.ofString "page", .str page tp)] F X N T rfl ?cd ?ro ?bd ?lo ?ce rfl rfl rfl ?_)
  case cd => k_is
  case ro => k_room
  case bd => first | exact BindsTo.of_eq rfl | exact binds_K (by k_in) rfl (by k_is) rfl rfl rfl
  case lo => exact locs rfl
  case ce => decide
  intro g' L' h' FG' F' N' X' T' l1
  have sS : SubAt := trivial
  walk_at "seal24"
  k_steps
  refine of_stop (for_top ?_)
  k_steps
  rename Fr g' L' _ _ => F9
  rename News g' L' _ _ => N9
  (try simp only [mp_set] at F9)
  rename_i D h5 l5 t5
  refine of_stop (for_it (src_str rfl F9) F9 N9 (RdJ s.gens D page tp news) ⟨rfl, none, none, none, none, [], 0, mp_eq (by walk_at "alleq"), rfl, .nil⟩ ?_ ?_ (fun p hp => (List.not_mem_nil hp).elim))
  · rintro i v m₁ news₁ h tk gs I oI hi ht ⟨c, t, hc, rfl, ht1, ht2⟩ ⟨rfl, v1, v2, v3, v4, vs, n, rfl, rfl, hvs⟩ F1 N1 o1 b1
    walk_at "seal24"
    (revert tk_1; intro tk; set_option tactic.hygienic false in intros) --fix
    have hrp : readP (page.cps.toList.take (i + 1)) = readStep (readP (page.cps.toList.take i)) c := by
      unfold readP
      rw [List.take_add_one, show page.cps.toList[i]? = some c by simpa using hc]
      simp
    have hvl : vs.length ≤ 10 := by rw [StrsAre.length hvs]; exact hlen i
    have hvl' : vs.length = (readP (page.cps.toList.take i)).length := StrsAre.length hvs
    have hlt : (readP (page.cps.toList.take i)).length < 10 ∨ (in8 c = false ∧ in9 c = false) := by
      have := hlen (i + 1)
      rw [hrp, readStep] at this
      cases e8 : in8 c <;> cases e9 : in9 c <;> simp [e8, e9] at this ⊢ <;> omega
    have hgm : ∀ j, j < 10 → gamesT[j]? = some (gamesT.getD j default) := fun j hj => by
      have h : j < gamesT.length := hj
      simp [List.getD, List.getElem?_eq_getElem h]
    have hcm : c ∈ page.cps := Array.mem_of_getElem? hc
    k_steps
    refine of_stop (c8 (by assumption) (by assumption) (by assumption) (by assumption) (by k_room) ?_)
    intro h8 tk8 F8 N8
    k_steps
    refine of_stop (c9 (by assumption) (by assumption) (by assumption) (by assumption) (by k_room) ?_)
    intro h9 tk9 F9 N9
    have hex' := hex c hcm
    cases e8 : in8 c <;> cases e9 : in9 c
    · k_steps
      rename Fr g' L' _ _ => F10
      rename News g' L' _ _ => N10
      simp only [mp_set] at F10
      exact StepIt.next ((D, lst vs n) :: news) (canon [Str.ofString "sign", Str.ofString "first", Str.ofString "second", Str.ofString "game", Str.ofString "wins", Str.ofString "page"] F10 rfl) N10 (by walk_at "sub") o1 b1 ⟨rfl, _, _, _, _, vs, n, rfl, rfl, by rw [hrp, readStep, e8, e9]; exact hvs⟩
    · k_steps
      refine of_stop (games (by assumption) (by assumption) (by assumption) (by assumption) (by k_room) ?_)
      intro h10 tk10 D2 vs2 n2 hvs2 l10 F10 N10
      have hln : vs.length < 10 := by
        rcases hlt with h | ⟨_, h⟩
        · omega
        · rw [e9] at h; cases h
      k_steps
      obtain ⟨t9, hv9⟩ := hvs2.at (hgm _ hln)
      obtain ⟨ga, gb, hgab⟩ := gamesT_two _ hln
      rw [hgab] at hv9
      refine of_stop (kba_turn (value' := .Name (Str.ofString "wins") ⟨0, 0, 0, 0⟩) (fun _ => rfl) ?_)
      refine (item_listL (l := vs2) ((by assumption : News g' L' _ _).isList (by walk_at "my mem")) (by omega) (by omega) (by rw [Int.toNat_natCast]; exact hv9) ?_)
      k_steps
      refine app_led (rest := (I, oI) :: news) (vs := vs) (n := n) (by assumption) (by assumption) (by walk_at "sub") (List.forall_mem_cons.mpr ⟨(o1 _ List.mem_cons_self).symm, fun p hp => Nat.ne_of_lt (l5 p hp)⟩) (by omega) ?_
      intro h11 F11 N11
      k_steps
      rename Fr g' L' _ _ => F12
      rename News g' L' _ _ => N12
      simp only [mp_set] at F12
      exact StepIt.next ((D, lst (vs ++ [_]) (n + 1)) :: news) (canon [Str.ofString "sign", Str.ofString "first", Str.ofString "second", Str.ofString "game", Str.ofString "wins", Str.ofString "page"] F12 rfl) N12 (by walk_at "sub") (off_set o1) (fun p hp => (List.not_mem_nil hp).elim)
        ⟨rfl, _, _, _, _, vs ++ [_], n + 1, rfl, rfl, by rw [hrp, readStep, e8, e9, ← hvl', hgab, item_rev]; exact hvs.append' (.cons _ _ .nil)⟩
    · k_steps
      refine of_stop (games (by assumption) (by assumption) (by assumption) (by assumption) (by k_room) ?_)
      intro h10 tk10 D2 vs2 n2 hvs2 l10 F10 N10
      have hln : vs.length < 10 := by
        rcases hlt with h | ⟨h, _⟩
        · omega
        · rw [e8] at h; cases h
      k_steps
      obtain ⟨t9, hv9⟩ := hvs2.at (hgm _ hln)
      refine of_stop (kba_turn (value' := .Name (Str.ofString "wins") ⟨0, 0, 0, 0⟩) (fun _ => rfl) ?_)
      refine (item_listL (l := vs2) ((by assumption : News g' L' _ _).isList (by walk_at "my mem")) (by omega) (by omega) (by rw [Int.toNat_natCast]; exact hv9) ?_)
      k_steps
      refine app_led (rest := (I, oI) :: news) (vs := vs) (n := n) (by assumption) (by assumption) (by walk_at "sub") (List.forall_mem_cons.mpr ⟨(o1 _ List.mem_cons_self).symm, fun p hp => Nat.ne_of_lt (l5 p hp)⟩) (by omega) ?_
      intro h11 F11 N11
      k_steps
      rename Fr g' L' _ _ => F12
      rename News g' L' _ _ => N12
      simp only [mp_set] at F12
      exact StepIt.next ((D, lst (vs ++ [_]) (n + 1)) :: news) (canon [Str.ofString "sign", Str.ofString "first", Str.ofString "second", Str.ofString "game", Str.ofString "wins", Str.ofString "page"] F12 rfl) N12 (by walk_at "sub") (off_set o1) (fun p hp => (List.not_mem_nil hp).elim)
        ⟨rfl, _, _, _, _, vs ++ [_], n + 1, rfl, rfl, by rw [hrp, readStep, e8, ← hvl']; exact hvs.append' (.cons _ _ .nil)⟩
    · exact absurd ⟨e8, e9⟩ hex'
  · rintro h tk gs m' news' ht F1 N1 ⟨rfl, v1, v2, v3, v4, vs, n, rfl, rfl, hvs⟩
    walk_at "seal24"
    (revert tk_1; intro tk; set_option tactic.hygienic false in intros) --fix
    k_steps
    refine ret _ _ D vs n ?_ (fun q hq => Nat.ne_of_lt (l5 q hq)) (by assumption) (by assumption)
    rw [show page.cps.size = page.cps.toList.length by simp, List.take_length] at hvs
    exact hvs
end
section
set_option hygiene false
local macro_rules | `(tactic| walk_at "toks") => `(tactic| first | omega | (simp only [List.length_cons, List.length_nil] at *; omega))
theorem execs_cons_p {M : Model} {A : Around} {E : Value → Shared → Prop} {env : Env} {st : Stmt} {rest : List Stmt} {Q : Flow → Shared → Prop} {s : Shared} (hX : 0 < s.toks)
    (h : 0 < s.toks → wpAny M A (exec st env) (fun f s' => match f with | .next => 0 < s'.toks → wpAny M A (execs rest env) Q E s' | f => Q f s') E s) : wpAny M A (execs (st :: rest) env) Q E s := by
  refine wpAny_execs_cons (wpAny_with_toks (n := 1) hX (wpAny_mono (h hX) (fun f s' hf ht => ?_) fun _ _ e _ => e))
  cases f with
  | next => exact hf ht
  | _ => exact hf
set_option hygiene true
local macro_rules | `(tactic| walk_at "execs cons") => `(tactic| (k_here; refine' execs_cons_p ?hX ?_; (case hX => dsimp only; walk_at "toks"); intro htk; (try dsimp only at htk ⊢)))
theorem add_str_f {prog : Program} {w : World} {A : Around} {E : Value → Shared → Prop} {s : Shared} {x y : Str} {t u : Tok} {Q : Value → Shared → Prop} (h : ∀ t' k, s.toks ≤ k → Q (.str (x ++ y) t') { s with toks := k }) (hsz : x.length + y.length ≤ sizeLine) : wpAny (model prog w) A (binaryOp .Add (.str x t) (.str y u)) Q E s :=
  wpAny_with_toks (Nat.le_refl s.toks) (add_str (fun t' k hk => h t' k hk) hsz)
theorem repl_strike {prog : Program} {w : World} {A : Around} {E : Value → Shared → Prop} {s : Shared} {x z : Str} {c : Nat} {t u v : Tok} {Q : Value → Shared → Prop} (hz : z = ⟨#[]⟩) (hu : u ≠ 0) (hv : v ≠ 0) (huv : u ≠ v) (hx : x.length ≤ 1000) (hq : ∀ t' k, Q (.str ⟨(x.cps.toList.filter (· != c)).toArray⟩ t') { s with toks := k }) :
    wpAny (model prog w) A (call (.builtin "str.replace") [.str x t, .str ⟨#[c]⟩ u, .str z v]) Q E s := by
  subst hz
  refine SC.replaceW hu hv huv (by rw [beq_eq_false_iff_ne]; intro h; cases h) (by omega) (by decide) fun t' k => ?_
  have e : Txt.replace x ⟨#[c]⟩ ⟨#[]⟩ = ⟨(x.cps.toList.filter (· != c)).toArray⟩ := by
    rw [← replace_strikes x c]
  rw [e]
  exact hq t' k
local macro_rules | `(tactic| walk_at "binaryOp Add str str") => `(tactic| (k_here; refine' add_str_f ?_ ?hsz; (case hsz => walk_at "my size"); intro t' k' hk'; (try dsimp only at hk')))
set_option hygiene false
local macro_rules | `(tactic| walk_at "call builtin:str.replace") => `(tactic| (k_here; refine stop_of ?_))
local macro_rules | `(tactic| walk_at "call builtin:list.extend") => `(tactic| (k_here; refine stop_of ?_))
local macro_rules | `(tactic| walk_at "my size") => `(tactic| first | decide | (simp [sizeLine, Str.length, one]; done) | (simp [sizeLine, Str.length, one]; omega))
set_option hygiene true
section
set_option maxRecDepth 100000
theorem ofs_nil : Str.ofString "" = ⟨#[]⟩ := by decide +kernel
theorem rest_nil {rest : List Nat} (h : ((⟨rest.toArray⟩ : Str) == Str.ofString "") = true) : rest = [] := by
  have e := eq_of_beq h
  rw [ofs_nil] at e
  have := congrArg (fun x => x.cps.toList) e
  simpa using this
theorem ext_led {w : World} {A : Around} {E : Value → Shared → Prop} {s : Shared} {h₀ : Heap} {L D B : Addr} {m : Str → Option Value} {all rest : List (Addr × Obj)} {vs vs2 : List Value} {n n2 : Nat} {Q : Value → Shared → Prop} (F : Fr h₀ L s.heap m) (N : News h₀ L s.heap all)
    (sub : ∀ p ∈ (D, lst vs n) :: rest, p ∈ all) (hB : (B, lst vs2 n2) ∈ rest) (off : ∀ p ∈ rest, p.1 ≠ D) (hz : vs.length + vs2.length < 100000) (h : ∀ h' n', Fr h₀ L h' m → News h₀ L h' ((D, lst (vs ++ vs2) n') :: rest) → Q .none { s with heap := h' }) :
    wpAny (model PG w) A (call (.builtin "list.extend") [.ref D, .ref B]) Q E s := by
  have hsz : ¬(!vs.toArray.isEmpty && Builtin.List.listTooLong (vs.toArray.size + vs2.toArray.size)) = true := by
    have : Builtin.List.listTooLong (vs.toArray.size + vs2.toArray.size) = false := by
      simp [Builtin.List.listTooLong, sizeLine]; omega
    rw [this]; simp
  cases vs2 with
  | nil => exact kxn_extend F (News.sub N sub) (List.mem_cons_of_mem _ hB) rfl (Upd.head off) hsz (by simp [sizeLine]; simp at hz; omega) (by simp [sizeLine]; simp at hz; omega) fun h' F' N' => h h' n F' (by simpa using N')
  | cons y r => exact kl_extend F (News.sub N sub) (List.mem_cons_of_mem _ hB) rfl (by simp) (Upd.head off) hsz (by simp [sizeLine]; simp at hz; omega) (by simp [sizeLine]; simp at hz; omega) fun h' F' N' => h h' (n + 1) F' (by simpa using N')
theorem filter_lt {rest : List Nat} {c : Nat} (h : c ∈ rest) : (rest.filter (· != c)).length < rest.length := by
  have := List.length_filter_lt_length_iff_exists (p := fun x => x != c) (l := rest)
  exact this.mpr ⟨c, h, by simp⟩
noncomputable def endsP (wins : List Str) : Nat → Nat → List Nat → List Nat
  | 0, last, _ => [last]
  | k + 1, last, rest => if rest = [] then [last] else rest.flatMap fun c => if beats wins last c then endsP wins k c (rest.filter (· != c)) else []
noncomputable def endsB (wt : List Str) (k last : Nat) (rest : List Nat) (c : Nat) : List Nat := if beats wt last c then endsP wt k c (rest.filter (· != c)) else []
theorem endsB_t {wt : List Str} {k last : Nat} {rest : List Nat} {c : Nat} (h : beats wt last c = true) : endsB wt k last rest c = endsP wt k c (rest.filter (· != c)) := by rw [endsB, if_pos h]
theorem endsB_f {wt : List Str} {k last : Nat} {rest : List Nat} {c : Nat} (h : beats wt last c = false) : endsB wt k last rest c = [] := by rw [endsB, if_neg (by rw [h]; decide)]
theorem endsP_s {wt : List Str} {k last : Nat} {rest : List Nat} (h : rest ≠ []) : endsP wt (k + 1) last rest = rest.flatMap (endsB wt k last rest) := by rw [endsP, if_neg h]; rfl
theorem tok_ne0 {t : Nat} (h : 0 < t) : t ≠ 0 := Nat.ne_of_gt h
theorem flat_len {f : Nat → List Nat} {B : Nat} : ∀ {l : List Nat}, (∀ c ∈ l, (f c).length ≤ B) → (l.flatMap f).length ≤ l.length * B
  | [], _ => Nat.zero_le _
  | c :: r, h => by
    have h1 := h c List.mem_cons_self
    have h2 := flat_len (l := r) fun c hc => h c (List.mem_cons_of_mem _ hc)
    rw [List.flatMap_cons, List.length_append, List.length_cons, Nat.succ_mul]
    omega
theorem filter_le (rest : List Nat) (c : Nat) : (rest.filter (· != c)).length ≤ rest.length := List.length_filter_le _ _
theorem ends_len (wt : List Str) : ∀ (k last : Nat) (rest : List Nat), rest.length ≤ 4 → (endsP wt k last rest).length ≤ 4 ^ k
  | 0, _, _, _ => by simp [endsP]
  | k + 1, last, rest, h => by
    by_cases hr : rest = []
    · rw [endsP, if_pos hr]
      exact Nat.one_le_pow _ _ (by decide)
    · rw [endsP_s hr]
      refine Nat.le_trans (flat_len (B := 4 ^ k) fun c _ => ?_) ?_
      · unfold endsB
        split
        · exact ends_len wt k c _ (Nat.le_trans (filter_le rest c) h)
        · exact Nat.zero_le _
      · rw [Nat.pow_succ, Nat.mul_comm (4 ^ k)]
        exact Nat.mul_le_mul_right _ h
theorem take_len (wt : List Str) (k last : Nat) (rest : List Nat) (i : Nat) (h : rest.length ≤ 4) : ((rest.take i).flatMap (endsB wt k last rest)).length ≤ 4 * 4 ^ k := by
  refine Nat.le_trans (flat_len (B := 4 ^ k) fun c _ => ?_) (Nat.mul_le_mul_right _ ?_)
  · unfold endsB
    split
    · exact ends_len wt k c _ (Nat.le_trans (filter_le rest c) h)
    · exact Nat.zero_le _
  · rw [List.length_take]
    omega
inductive EnJ (G : Array GenState) (D W : Addr) (last : Nat) (rest : List Nat) (t1 t2 : Tok) (wt : List Str) (k' : Nat) (news : List (Addr × Obj)) (i : Nat) (m' : Str → Option Value) (nw : List (Addr × Obj)) (gs : Array GenState) : Prop
  | mk (_ : gs = G) (v1 : Option Value) (vs : List Value) (n : Nat) (_ : m' = mp [(Str.ofString "name", v1), (Str.ofString "ends", some (.ref D)), (Str.ofString "last", some (.str (one last) t1)), (Str.ofString "rest", some (.str ⟨rest.toArray⟩ t2)), (Str.ofString "wins", some (.ref W))]) (_ : nw = (D, lst vs n) :: news) (_ : StrsAre vs (((rest.take i).flatMap (endsB wt k' last rest)).map one)) : EnJ G D W last rest t1 t2 wt k' news i m' nw gs
set_option maxHeartbeats 4000000 in
theorem endsC {w : World} {p : Program} {loose : List Str} {mean : ExcName → Option Value} {mg mb : Str → Option Value} (wt : List Str) : ∀ (k : Nat) {A : Around} {h₀ : Heap} {L : Addr} {m : Str → Option Value} {news : List (Addr × Obj)} {s : Shared} {Q : Value → Shared → Prop} {last : Nat} {rest : List Nat} {t1 t2 : Tok} {W : Addr} {wv : List Value} {wn : Nat}
    (F : Fr h₀ L s.heap m) (X : (KK w.params).In h₀) (N : News h₀ L s.heap news) (T : Top p loose mean mg mb h₀) (hd : A.depth + 30 + k < recursionLimit) (hh : A.handled = none)
    (hW : (W, lst wv wn) ∈ news) (hwt : StrsAre wv wt) (hwl : wv.length < 1000) (hk : rest.length ≤ k) (hk4 : k ≤ 4)
    (ret : ∀ h' tk D vs n, StrsAre vs ((endsP wt k last rest).map one) → (∀ q ∈ news, q.1 ≠ D) → Fr h₀ L h' m → News h₀ L h' ((D, lst vs n) :: news) → Q (.ref D) { s with heap := h', toks := tk }),
    wpAny (model PG w) A (call (.ref 220) [.str (one last) t1, .str ⟨rest.toArray⟩ t2, .ref W]) Q NoE s := by
  intro k
  induction k using Nat.strongRecOn with
  | _ k ih =>
    intro A h₀ L m news s Q last rest t1 t2 W wv wn F X N T hd hh hW hwt hwl hk hk4 ret
    obtain ⟨ah, ad, af, ag, au⟩ := A
    obtain rfl : ah = none := hh
    replace hd : ad + 30 + k < recursionLimit := hd
    refine wpAny_call (enterN [(Str.ofString "last", .str (one last) t1), (Str.ofString "rest", .str ⟨rest.toArray⟩ t2), (Str.ofString "wins", .ref W)] F X N T rfl ?cd ?ro ?bd ?lo ?ce rfl rfl rfl ?_)
    case cd => k_is
    case ro => k_room
    case bd => first | exact BindsTo.of_eq rfl | exact binds_K (by k_in) rfl (by k_is) rfl rfl rfl
    case lo => exact locs rfl
    case ce => decide
    intro g' L' h' FG' F' N' X' T' l1
    walk_at "seal24"
    k_steps
    · refine ret _ _ _ _ 0 ?_ (fun q hq => Nat.ne_of_lt (by rename_i h1 _ _ _ _; exact h1 q hq)) (by assumption) (by assumption)
      have he : rest = [] := rest_nil (by assumption)
      subst he
      cases k <;> simp [endsP] <;> exact .cons _ _ .nil
    · rename (∀ p ∈ news, p.1 < _) => l5
      rename_i D h4 h5 h6 x5 htk5
      rename Fr g' L' _ _ => F9
      rename News g' L' _ _ => N9
      simp only [mp_set] at F9
      have hne : rest ≠ [] := fun e => by subst e; exact absurd (by assumption : ((⟨([] : List Nat).toArray⟩ : Str) == Str.ofString "") = false) (by decide)
      obtain ⟨k', rfl⟩ : ∃ k', k = k' + 1 := ⟨k - 1, by have := List.length_pos_iff.mpr hne; omega⟩
      refine of_stop (for_top ?_)
      k_steps
      refine of_stop (for_it (src_str rfl F9) F9 N9 (EnJ s.gens D W last rest t1 t2 wt k' news) ⟨rfl, none, [], 0, mp_eq (by walk_at "alleq"), rfl, .nil⟩ ?_ ?_ (fun p hp => (List.not_mem_nil hp).elim))
      · rintro i v m₁ news₁ h tk gs I oI hi ht ⟨c, t, hc, rfl, ht1, ht2⟩ ⟨rfl, v1, vs, n, rfl, rfl, hvs⟩ F1 N1 o1 b1
        walk_at "seal24"
        (revert tk_1; intro tk; set_option tactic.hygienic false in intros) --fix
        dsimp only at ht ht1
        have hcr : rest[i]? = some c := by simpa using hc
        have htake : rest.take (i + 1) = rest.take i ++ [c] := by rw [List.take_add_one, hcr]; rfl
        k_steps
        refine of_stop (in_list_strs (vs := wv) ((by assumption : News g' L' _ _).isList (List.mem_cons_of_mem _ (List.mem_cons_of_mem _ hW))) hwt ?_)
        have hcat : one last ++ ⟨#[c]⟩ = (⟨#[last, c]⟩ : Str) := rfl
        rw [hcat]
        rw [show wt.any (· == (⟨#[last, c]⟩ : Str)) = beats wt last c from rfl]
        cases hin : beats wt last c
        · k_steps
          rename Fr g' L' _ _ => F1
          rename News g' L' _ _ => N1
          simp only [mp_set] at F1
          exact StepIt.next ((D, lst vs n) :: news) (canon [Str.ofString "name", Str.ofString "ends", Str.ofString "last", Str.ofString "rest", Str.ofString "wins"] F1 rfl) N1 (by walk_at "sub") o1 b1 ⟨rfl, _, vs, n, rfl, rfl, by rw [htake, List.flatMap_append, List.flatMap_singleton, endsB_f hin, List.append_nil]; exact hvs⟩
        · k_steps
          refine of_stop (repl_strike ofs_nil (tok_ne0 (Nat.lt_of_lt_of_le htk5 ht1)) (tok_ne0 (Nat.lt_of_lt_of_le (Nat.succ_pos tk) (by assumption))) (Nat.ne_of_lt (Nat.lt_of_lt_of_le ht2 (Nat.le_of_succ_le (by assumption)))) (by simp [Str.length]; omega) ?_)
          intro t9 k9
          k_steps
          have hcm : c ∈ rest := List.mem_of_getElem? hcr
          have hfl := filter_lt hcm
          refine of_stop (ih k' (Nat.lt_succ_self _) (by assumption) (by assumption) (by assumption) (by assumption) (by k_room) rfl (List.mem_cons_of_mem _ (List.mem_cons_of_mem _ hW)) hwt hwl (by omega) (by omega) ?_)
          intro h6 tk6 D2 vs2 n2 hvs2 l6 F6 N6
          k_steps
          have hz := StrsAre.length hvs
          have hz2 := StrsAre.length hvs2
          rw [List.length_map] at hz hz2
          have hb1 := take_len wt k' last rest i (by omega)
          have hb2 := ends_len wt k' c (rest.filter (· != c)) (by omega)
          have hb3 : 4 ^ k' ≤ 4 ^ 4 := Nat.pow_le_pow_right (by decide) (by omega)
          rw [show (4 : Nat) ^ 4 = 256 from rfl] at hb3
          refine of_stop (ext_led (vs := vs) (n := n) (vs2 := vs2) (n2 := n2) (rest := (I, oI) :: (D2, lst vs2 n2) :: news) (by assumption) (by assumption) (by walk_at "sub") (by simp) ?_ (by omega) ?_)
          · intro p hp
            rcases List.mem_cons.mp hp with rfl | hp
            · exact Ne.symm (o1 _ List.mem_cons_self)
            · rcases List.mem_cons.mp hp with rfl | hp
              · exact Ne.symm (l6 _ (List.mem_cons_of_mem _ List.mem_cons_self))
              · exact Nat.ne_of_lt (l5 p hp)
          · intro h7 n7 F7 N7
            k_steps
            rename Fr g' L' _ _ => F1
            rename News g' L' _ _ => N1
            simp only [mp_set] at F1
            exact StepIt.next ((D, lst (vs ++ vs2) n7) :: news) (canon [Str.ofString "name", Str.ofString "ends", Str.ofString "last", Str.ofString "rest", Str.ofString "wins"] F1 rfl) N1 (by walk_at "sub") (off_set o1) (fun p hp => (List.not_mem_nil hp).elim) ⟨rfl, _, vs ++ vs2, n7, rfl, rfl, by
              rw [htake, List.flatMap_append, List.flatMap_singleton, endsB_t hin, List.map_append]; exact hvs.append' hvs2⟩
      · rintro h tk gs m' news' ht F1 N1 ⟨rfl, v1, vs, n, rfl, rfl, hvs⟩
        walk_at "seal24"
        (revert tk_1; intro tk; set_option tactic.hygienic false in intros) --fix
        k_steps
        refine ret _ _ D vs n ?_ (fun q hq => Nat.ne_of_lt (l5 q hq)) (by assumption) (by assumption)
        rw [endsP_s hne]
        simpa using hvs
end
section
set_option maxRecDepth 100000
noncomputable def Blw (B : Addr) (l : List (Addr × Obj)) : Prop := ∀ q ∈ l, @LT.lt Nat _ q.1 B
noncomputable def Abv (B : Addr) (l : List (Addr × Obj)) : Prop := ∀ q ∈ l, @LT.lt Nat _ B q.1
noncomputable def Off (D : Addr) (l : List (Addr × Obj)) : Prop := ∀ q ∈ l, q.1 ≠ D
theorem blw_cons {B a : Addr} {o : Obj} {r : List (Addr × Obj)} : Blw B ((a, o) :: r) ↔ @LT.lt Nat _ a B ∧ Blw B r := List.forall_mem_cons
theorem blw_append {B : Addr} {r t : List (Addr × Obj)} : Blw B (r ++ t) ↔ Blw B r ∧ Blw B t := List.forall_mem_append
theorem abv_append {B : Addr} {r t : List (Addr × Obj)} : Abv B (r ++ t) ↔ Abv B r ∧ Abv B t := List.forall_mem_append
theorem abv_cons {B a : Addr} {o : Obj} {r : List (Addr × Obj)} : Abv B ((a, o) :: r) ↔ @LT.lt Nat _ B a ∧ Abv B r := List.forall_mem_cons
theorem off_cons {D a : Addr} {o : Obj} {r : List (Addr × Obj)} : Off D ((a, o) :: r) ↔ @Ne Nat a D ∧ Off D r := List.forall_mem_cons
theorem off_append {D : Addr} {r t : List (Addr × Obj)} : Off D (r ++ t) ↔ Off D r ∧ Off D t := List.forall_mem_append
theorem off_nil (D : Addr) : Off D [] := fun _ h => nomatch h
theorem blw_nil (D : Addr) : Blw D [] := fun _ h => nomatch h
theorem abv_nil (D : Addr) : Abv D [] := fun _ h => nomatch h
theorem off_blw {B D : Addr} {l : List (Addr × Obj)} (h : Blw B l) (k : @LE.le Nat _ B D) : Off D l := fun q hq => Nat.ne_of_lt (Nat.lt_of_lt_of_le (h q hq) k)
theorem off_abv {B D : Addr} {l : List (Addr × Obj)} (h : Abv B l) (k : @LE.le Nat _ D B) : Off D l := fun q hq => Nat.ne_of_gt (Nat.lt_of_le_of_lt k (h q hq))
theorem blw_le {B D : Addr} {l : List (Addr × Obj)} (h : Blw B l) (k : @LE.le Nat _ B D) : Blw D l := fun q hq => Nat.lt_of_lt_of_le (h q hq) k
theorem abv_le {B D : Addr} {l : List (Addr × Obj)} (h : Abv B l) (k : @LE.le Nat _ D B) : Abv D l := fun q hq => Nat.lt_of_le_of_lt k (h q hq)
theorem Blw.get {B a : Addr} {o : Obj} {l : List (Addr × Obj)} (h : Blw B l) (m : (a, o) ∈ l) : @LT.lt Nat _ a B := h _ m
theorem AllLt.blw {d : Addr} : ∀ {l : List (Addr × Obj)}, AllLt d l → Blw d l
  | [], _ => blw_nil d
  | _ :: _, h => List.forall_mem_cons.mpr ⟨h.1, AllLt.blw h.2⟩
theorem off_of {D : Addr} {l : List (Addr × Obj)} (h : Off D l) : ∀ q ∈ l, q.1 ≠ D := h
theorem off_c {D a : Addr} {o : Obj} {r : List (Addr × Obj)} (h : @Ne Nat a D) (k : Off D r) : Off D ((a, o) :: r) := off_cons.mpr ⟨h, k⟩
theorem upd_h {d : Addr} {o : Obj} {r : List (Addr × Obj)} (h : Off d r) : UpdF d o ((d, o) :: r) (fun o' => (d, o') :: r) := UpdF.head (off_of h)
theorem upd_t {d a : Addr} {b o : Obj} {r : List (Addr × Obj)} {g : Obj → List (Addr × Obj)} (h : @Ne Nat a d) (k : UpdF d o r g) : UpdF d o ((a, b) :: r) (fun o' => (a, b) :: g o') := UpdF.tail h k
theorem off_a {D : Addr} {r t : List (Addr × Obj)} (h : Off D r) (k : Off D t) : Off D (r ++ t) := off_append.mpr ⟨h, k⟩
theorem blw_c {D a : Addr} {o : Obj} {r : List (Addr × Obj)} (h : @LT.lt Nat _ a D) (k : Blw D r) : Blw D ((a, o) :: r) := blw_cons.mpr ⟨h, k⟩
theorem blw_a {D : Addr} {r t : List (Addr × Obj)} (h : Blw D r) (k : Blw D t) : Blw D (r ++ t) := blw_append.mpr ⟨h, k⟩
end
section
set_option maxRecDepth 100000
noncomputable def bindM (kindOf : Str → Option NameKind) : List (Str × Value) → List (Str × Option Value) → List (Str × Option Value)
  | [], l => l
  | (n, v) :: r, l => bindM kindOf r (if kindOf n = some .local then (n, some v) :: l else l)
theorem bindL_mp (kindOf : Str → Option NameKind) : ∀ (b : List (Str × Value)) (l : List (Str × Option Value)), bindL kindOf b (mp l) = mp (bindM kindOf b l)
  | [], _ => rfl
  | (n, v) :: r, l => by
    show bindL kindOf r (if kindOf n = some .local then fun y => if y = n then some v else mp l y else mp l) = _
    rw [bindM]
    split
    · rw [← bindL_mp kindOf r]
      congr 1
      funext y
      rw [mp_cons]
    · exact bindL_mp kindOf r l
theorem bindL_mp0 (kindOf : Str → Option NameKind) (b : List (Str × Value)) : bindL kindOf b (fun _ => none) = mp (bindM kindOf b []) := bindL_mp kindOf b []

section
variable {prog : Program} {w : World} {A : Around} {s : Shared} {h₀ : Heap} {L : Addr} {m mg mb : Str → Option Value} {news : List (Addr × Obj)} {K : Frag} {p : Program} {loose : List Str} {mean : ExcName → Option Value}
  {R : Result → Shared → Prop} {name qual : Str} {params : Arguments} {body : List Stmt} {scope : Scope} {dV kV doc pm cdv ct oc : Value} {an od : Option Addr} {osl : Array (Option Value)} {f : Addr} {args : Args}
theorem enterC (binds : List (Str × Value)) (F : Fr h₀ L s.heap m) (X : K.In h₀) (N : News h₀ L s.heap news) (T : Top p loose mean mg mb h₀)
    (ho : K.lookup f = some ⟨oc, od, .func (fnX name qual params body scope [] dV kV doc pm an cdv ct), osl⟩) (hcd : codeIn K cdv qual = true) (hroom : A.depth < recursionLimit)
    (hbind : BindsTo s (fnX name qual params body scope [] dV kV doc pm an cdv ct) args binds)
    (hkind : ∀ n, ∀ x ∈ binds, scope.names.lookup x.1 = some .local ∨ (scope.names.lookup x.1 = some .cell ∧ ((cellsFrom n scope.names []).lookup x.1).isSome = true))
    (hnd : ((cellsFrom 0 scope.names []).map (·.1)).Nodup) (hco : scope.isCoroutine = false) (hgen : scope.isGenerator = false) (hk : scope.kind = .function) (ml : List (Str × Option Value)) (hml : ∀ L', bindM (envX qual scope L' f cdv (cellsFrom (L' + 1) scope.names [])).kindOf binds [] = ml)
    (h : ∀ g L' h₁ tk cells, Fr h₀ L g m → Fr g L' h₁ (mp ml) → News g L' h₁ (cells ++ news) → CellsAre (bindC (envX qual scope L' f cdv (cellsFrom (L' + 1) scope.names [])).kindOf binds fun _ => none) (cellsFrom (L' + 1) scope.names []) cells →
      K.In g → Top p loose mean mg mb g → (∀ q ∈ news, q.1 < L') →
      wpAny (model prog w) (A.deeper (envX qual scope L' f cdv (cellsFrom (L' + 1) scope.names []))) (execs body (envX qual scope L' f cdv (cellsFrom (L' + 1) scope.names [])))
        (fun fl s' => LeaveK h₀ L m g R (match fl with | .ret v => v | _ => .none) s') NoE { s with heap := h₁, toks := tk }) : codeAny (model prog w) A (.call (.ref f) args) R s := by
  obtain ⟨FG, st, lv⟩ := ground0 (R := R) F N
  have hs := F.keep _ _ (X _ _ ho)
  refine codeAny_call_function hroom hs rfl hco hgen rfl ((codeRec_of X hcd).keeps F.keep) (hbind _ _ _ _ ?_)
  refine wpAny_newFunctionEnv_cells hk (hkind _) fun env' he s' x => ?_
  subst he
  refine ⟨((T.nolimit).keeps F.keep).keeps x.toInCall.keep, codeAny_func ?_⟩
  obtain ⟨h₁, tk, rfl, _⟩ := x.done
  have hk₁ := x.toInCall.keep
  obtain ⟨cells, NC, Y⟩ := Cl.news (h₀ := s.heap) (Nat.le_refl _) fun n c hm => ⟨x.cell n c (lookup_of_mem_nodup (cellsFrom_names scope.names 0 (s.heap.objs.size + 1) [] [] rfl ▸ hnd) hm), x.above n c hm⟩
  have hns : h₁.Ns s.heap.objs.size (mp ml) := by
    have q := x.toInCall.ns
    rw [bindL_mp0] at q
    exact hml s.heap.objs.size ▸ q
  refine wpAny_mono (h _ s.heap.objs.size h₁ tk cells FG ⟨hns, fun b o e => hk₁ b o (of_hideAll _ e), Nat.le_of_eq (hideAll_size _ _)⟩ (fun p hp => ?_) Y (X.keeps st) (T.keeps st) (fun p hp => Heap.lt_size (N p hp).1)) (fun fl s' hl => lv _ _ hl) fun _ _ y => y.elim
  rcases List.mem_append.mp hp with hp | hp
  · refine ⟨(NC p hp).1, (NC p hp).2.1, ?_⟩
    cases q : (hideAll s.heap (news.map (·.1))).get? p.1 with
    | none => rfl
    | some o => have := of_hideAll _ q; rw [(NC p hp).2.2] at this; cases this
  · exact ⟨hk₁ _ _ (N p hp).1, Nat.ne_of_lt (Heap.lt_size (N p hp).1), hideAll_none _ (List.mem_map_of_mem hp)⟩
end
noncomputable def LamOK (qual : Str) (ps : Array Value) (news : List (Addr × Obj)) : Prop :=
  TriplesOk ps.toList ∧ ∀ pos v, codeAmong pos ps.toList = some v → ∃ c' oc vs t, v = .ref c' ∧ (c', oc) ∈ news ∧ oc.data = .fields vs ∧ vs[1]? = some (.str qual t)
theorem LamOK.mono {qual : Str} {ps : Array Value} {a b : List (Addr × Obj)} (h : LamOK qual ps a) (k : ∀ p ∈ a, p ∈ b) : LamOK qual ps b :=
  ⟨h.1, fun pos v e => let ⟨c', oc, vs, t, e1, hm, r⟩ := h.2 pos v e; ⟨c', oc, vs, t, e1, k _ hm, r⟩⟩
theorem LamOK.nil (qual : Str) (news : List (Addr × Obj)) : LamOK qual #[] news := ⟨trivial, fun _ _ e => by cases e⟩
theorem among_snoc {pos pos' : Pos} {c v : Value} (l : List Value) (h : TriplesOk l) (e : codeAmong pos' (l ++ [rawInt pos.line, rawInt pos.col, c]) = some v) : codeAmong pos' l = some v ∨ v = c := by
  fun_induction TriplesOk l with
  | case1 =>
    simp only [List.nil_append, codeAmong, rawInt] at e
    split at e
    · exact .inr (Option.some.inj e).symm
    · cases e
  | case2 a t b u x rest ih =>
    simp only [List.cons_append, codeAmong] at e ⊢
    split at e
    · rename_i hc; rw [if_pos hc]; exact .inl e
    · rename_i hc; rw [if_neg hc]; exact ih h e
  | case3 l h1 h2 => exact h.elim

section
variable {M : Model} {A : Around} {E : Value → Shared → Prop} {s : Shared} {h₀ : Heap} {L a c P : Addr} {m mg mb : Str → Option Value} {cn : Str} {cs : Scope} {cl : List (Str × Addr)} {rest : List (Addr × Obj)}
  {p : Program} {loose : List Str} {mean : ExcName → Option Value} {qual : Str} {params : Arguments} {body : Expr} {scope : Scope} {ps : Array Value} {pos : Pos} {clos : List (Str × Addr)}
theorem lam_eval {Q : Value → Shared → Prop} (F : Fr h₀ L s.heap m) (N : News h₀ L s.heap ((P, tabObj ps) :: rest)) (T : Top p loose mean mg mb h₀) (C : CodeHd h₀ c P) (off : Off P rest) {lo : List (Addr × Obj)} (LO : LamOK qual ps lo) (sub : ∀ p ∈ lo, p ∈ rest)
    (h : ∀ f fo c' oc vs t ctv ps' xs h' tk, fo = kla_obj "<lambda>" qual params body scope clos ((mg "__name__").getD .none) c' ctv → Fr h₀ L h' m → News h₀ L h' ((f, fo) :: (P, tabObj ps') :: (xs ++ rest)) → LamOK qual ps' (xs ++ lo) →
      (c', oc) ∈ xs ++ lo → oc.data = .fields vs → vs[1]? = some (.str qual t) → Blw f ((P, tabObj ps') :: (xs ++ rest)) → (∀ a o, (a, o) ∈ (P, tabObj ps) :: rest → Abv a xs) → Q (.ref f) { s with heap := h', toks := tk })
    (hcl : closureFor scope (envX cn cs L a (.ref c) cl) = pure clos) (hdef : defaultsOf params (envX cn cs L a (.ref c) cl) = ([], [])) (hq : cn ++ ".<locals>." ++ "<lambda>" = qual) :
    wpAny M A (eval (.Lambda params body scope pos) (envX cn cs L a (.ref c) cl)) Q E s := by
  subst hq
  refine kla_eval hdef ?_
  cases hf : codeAmong pos ps.toList with
  | none =>
    refine kla_nest F N T C rfl (UpdF.head (off_of off)) LO.1 hf hcl fun f c' oc vs t ctv h' tk F' N' hd hv l1 l2 => ?_
    refine h f _ c' oc vs t ctv (ps ++ #[rawInt pos.line, rawInt pos.col, .ref c']) [(c', oc)] h' tk rfl F' (News.sub N' ?_) ⟨?_, ?_⟩ List.mem_cons_self hd hv ?_ ?_
    · intro q hq
      rcases List.mem_cons.mp hq with rfl | hq
      · exact List.mem_cons_self
      · rcases List.mem_cons.mp hq with rfl | hq
        · exact List.mem_cons_of_mem _ (List.mem_cons_of_mem _ List.mem_cons_self)
        · rcases List.mem_cons.mp hq with rfl | hq
          · exact List.mem_cons_of_mem _ List.mem_cons_self
          · exact List.mem_cons_of_mem _ (List.mem_cons_of_mem _ (List.mem_cons_of_mem _ hq))
    · rw [Array.toList_append]
      exact TriplesOk_snoc _ _ _ _ LO.1
    · intro pos' v e
      rw [Array.toList_append] at e
      rcases among_snoc _ LO.1 e with e | rfl
      · obtain ⟨c₂, oc₂, vs₂, t₂, e1, hm, r⟩ := LO.2 pos' v e
        exact ⟨c₂, oc₂, vs₂, t₂, e1, List.mem_cons_of_mem _ hm, r⟩
      · exact ⟨c', oc, vs, t, rfl, List.mem_cons_self, hd, hv⟩
    · intro q hq
      rcases List.mem_cons.mp hq with rfl | hq
      · exact Nat.lt_trans (l1 (P, tabObj ps) List.mem_cons_self) l2
      · rcases List.mem_cons.mp hq with rfl | hq
        · exact l2
        · exact Nat.lt_trans (l1 q (List.mem_cons_of_mem _ hq)) l2
    · intro a o hm q hq
      rw [List.mem_singleton.mp hq]
      exact l1 _ hm
  | some v =>
    obtain ⟨c', oc, vs, t, rfl, hm, hd, hv⟩ := LO.2 pos v hf
    refine kla_hit F N T C rfl List.mem_cons_self LO.1 hf hcl fun f ctv h' tk F' N' l1 => ?_
    exact h f _ c' oc vs t ctv ps [] h' tk rfl F' N' LO hm hd hv l1 fun _ _ _ => abv_nil _
end
section
variable {prog : Program} {w : World} {A : Around} {s : Shared} {K : Frag} {L : Addr} {h₀ : Heap} {m mg mb : Str → Option Value} {news : List (Addr × Obj)} {p : Program} {loose : List Str} {mean : ExcName → Option Value}
theorem enterLam {R : Result → Shared → Prop} {name qual : Str} {params : Arguments} {body : Expr} {scope : Scope} {cl : List (Str × Addr)} {pm ctv : Value} {c' : Addr} {oc : Obj} {vs : Array Value} {t : Tok} {f : Addr} {args : Args} (binds : List (Str × Value))
    (F : Fr h₀ L s.heap m) (X₀ : K.In h₀) (N : News h₀ L s.heap news) (T : Top p loose mean mg mb h₀)
    {fo : Obj} (ho : (f, fo) ∈ news) (hfo : fo = kla_obj name qual params body scope cl pm c' ctv) (hco' : (c', oc) ∈ news) (hd' : oc.data = .fields vs) (hv' : vs[1]? = some (.str qual t)) (hroom : A.depth < recursionLimit)
    (hbind : bindArgs (kla_fn name qual params body scope cl pm (.ref c') ctv) args = pure binds) (hloc : ∀ y ∈ binds, scope.names.lookup y.1 = some .local)
    (hco : scope.isCoroutine = false) (hgen : scope.isGenerator = false) (hk : scope.kind = .function) (hcell : ∀ x ∈ scope.names, x.2 ≠ .cell)
    (h : ∀ g L' h₁, Fr h₀ L g m → Fr g L' h₁ (mp (binds.reverse.map fun p => (p.1, some p.2))) → News g L' h₁ news → K.In g → Top p loose mean mg mb g →
      wpAny (model prog w) (A.deeper (envX qual scope L' f (.ref c') cl)) (eval body (envX qual scope L' f (.ref c') cl))
        (fun v s' => LeaveK h₀ L m g R v s') NoE { s with heap := h₁, toks := s.toks + binds.length }) : codeAny (model prog w) A (.call (.ref f) args) R s := by
  subst hfo
  obtain ⟨FG, st, lv⟩ := ground0 (R := R) F N
  refine kla_callFunE hroom (N _ ho).1 rfl hco hgen rfl ⟨c', oc, vs, t, rfl, (N _ hco').1, hd', hv'⟩ ?_
  rw [hbind]
  refine wpAny_pure (wpAny_newFunctionEnv hcell hloc (fun h₁ hns hsb => ⟨((T.nolimit).keeps F.keep).fresh _ hsb, ?_⟩) hk)
  show codeAny _ _ (.expr body (envX qual scope s.heap.objs.size f (.ref c') cl)) _ _
  have hk₁ : ∀ b o, s.heap.get? b = some o → h₁.get? b = some o := fun b o e => hsb.extBut b o (Nat.ne_of_lt (Heap.lt_size e)) (Heap.get?_push_of_some _ e)
  exact kla_codeExpr (wpAny_mono (h _ s.heap.objs.size h₁ FG ⟨(funext fun y => lk_mp binds.reverse y : (fun y => binds.reverse.lookup y) = _) ▸ hns, fun b o e => hk₁ b o (of_hideAll _ e), Nat.le_of_eq (hideAll_size _ _)⟩
    (fun p hp => ⟨hk₁ _ _ (N p hp).1, Nat.ne_of_lt (Heap.lt_size (N p hp).1), hideAll_none _ (List.mem_map_of_mem hp)⟩) (X₀.keeps st) (T.keeps st)) (fun v s' hl => lv _ _ hl) fun _ _ y => y.elim)
end
end
section
set_option maxRecDepth 100000
noncomputable def OkStrs (ss : List Str) : Prop := ∀ x ∈ ss, PyData.strOk x = true
theorem strs_carried : ∀ {vs : List Value} {ss : List Str}, StrsAre vs ss → CarriedAll vs (ss.map PyData.str)
  | _, _, .nil => .nil
  | _, _, .cons _ t r => .cons (.str _ t) (strs_carried r)
theorem strs_lay0 : ∀ ss : List Str, OkStrs ss → PyData.canLayAll0 (ss.map PyData.str) = true
  | [], _ => rfl
  | x :: r, h => by simp [PyData.canLayAll0, PyData.canLay0, strs_lay0 r fun y hy => h y (List.mem_cons_of_mem _ hy), h x List.mem_cons_self]
theorem strs_depth : ∀ ss : List Str, PyData.depthAll (ss.map PyData.str) = 0
  | [] => rfl
  | _ :: r => by simp [PyData.depthAll, PyData.depth, strs_depth r]
theorem strs_shaped (ss : List Str) (h : OkStrs ss) : SeqAt.shaped (.list (ss.map PyData.str)) = true := by
  simp [SeqAt.shaped, PyData.canLay0, PyData.depth, strs_lay0 ss h, strs_depth]
theorem strs_sameAll : ∀ ss us : List Str, PySem.Spec.sameAll (ss.map PyData.str) (us.map PyData.str) = decide (ss = us)
  | [], [] => by simp [PySem.Spec.sameAll]
  | [], _ :: _ => by simp [PySem.Spec.sameAll]
  | _ :: _, [] => by simp [PySem.Spec.sameAll]
  | a :: r, b :: t => by
    simp only [List.map_cons, PySem.Spec.sameAll, PySem.Spec.same, strs_sameAll r t]
    by_cases h : a = b <;> by_cases h' : r = t <;> simp [h, h']
theorem strs_same (ss us : List Str) : PySem.Spec.same (.list (ss.map PyData.str)) (.list (us.map PyData.str)) = decide (ss = us) := by
  simp only [PySem.Spec.same]; exact strs_sameAll ss us
section
variable {prog : Program} {w : World} {A : Around} {E : Value → Shared → Prop} {s : Shared} {h₀ : Heap} {L a b : Addr} {m : Str → Option Value} {news : List (Addr × Obj)} {xs ys : List Value} {na nb : Nat} {ss us : List Str} {Q : Value → Shared → Prop}
theorem eq_strs (N : News h₀ L s.heap news) (ha : (a, lst xs na) ∈ news) (hb : (b, lst ys nb) ∈ news) (hi : StrsAre xs ss) (hj : StrsAre ys us) (oi : OkStrs ss) (oj : OkStrs us) (hu : A.units + 64 < cLine) (h : Q (.bool (decide (ss = us))) s) :
    wpAny (model prog w) A (compareOp .Eq (.ref a) (.ref b)) Q E s :=
  eq_dataH_same (reads_newData (N.isList ha) (strs_carried hi)) (reads_newData (N.isList hb) (strs_carried hj)) (strs_shaped _ oi) (strs_shaped _ oj) hu (SeqAt.noMix_of_shape (.list .str) rfl _ _ (list_map_has fun _ => rfl) (list_map_has fun _ => rfl)) (by rw [strs_same]; exact h)
theorem ne_strs (N : News h₀ L s.heap news) (ha : (a, lst xs na) ∈ news) (hb : (b, lst ys nb) ∈ news) (hi : StrsAre xs ss) (hj : StrsAre ys us) (oi : OkStrs ss) (oj : OkStrs us) (hu : A.units + 64 < cLine) (h : Q (.bool (!decide (ss = us))) s) :
    wpAny (model prog w) A (compareOp .NotEq (.ref a) (.ref b)) Q E s :=
  ne_dataH_same (reads_newData (N.isList ha) (strs_carried hi)) (reads_newData (N.isList hb) (strs_carried hj)) (strs_shaped _ oi) (strs_shaped _ oj) hu (SeqAt.noMix_of_shape (.list .str) rfl _ _ (list_map_has fun _ => rfl) (list_map_has fun _ => rfl)) (by rw [strs_same]; exact h)
theorem ne_ints (N : News h₀ L s.heap news) {ns ms : List Int} (ha : (a, lst xs na) ∈ news) (hb : (b, lst ys nb) ∈ news) (hi : IntsAre xs ns) (hj : IntsAre ys ms) (hu : A.units + 64 < cLine) (h : Q (.bool (!decide (ns = ms))) s) :
    wpAny (model prog w) A (compareOp .NotEq (.ref a) (.ref b)) Q E s := ke_ne_ints (N.isList ha) (N.isList hb) hi hj hu h
theorem copy_led {l : Addr} {vs : List Value} {n : Nat} (F : Fr h₀ L s.heap m) (N : News h₀ L s.heap news) (hl : (l, lst vs n) ∈ news) (hz : vs.length < 100000)
    (h : ∀ D c h', Fr h₀ L h' m → News h₀ L h' ((D, lst vs c) :: news) → Blw D news → Q (.ref D) { s with heap := h' }) : wpAny (model prog w) A (call (.type "list") [.ref l]) Q E s :=
  list_copyK F N (N.isList hl) h (by rw [List.size_toArray]; simp [sizeLine]; omega)
theorem add_led {l b : Addr} {vs us : List Value} {n k : Nat} (F : Fr h₀ L s.heap m) (N : News h₀ L s.heap news) (hl : (l, lst vs n) ∈ news) (hb : (b, lst us k) ∈ news) (hz : vs.length + us.length < 100000)
    (h : ∀ D c h', Fr h₀ L h' m → News h₀ L h' ((D, lst (vs ++ us) c) :: news) → Blw D news → Q (.ref D) { s with heap := h' }) : wpAny (model prog w) A (binaryOp .Add (.ref l) (.ref b)) Q E s :=
  add_arrays F N (N.isList hl) (N.isList hb) (fun h' F' N' => h _ 0 h' F' (by simpa using N') fun q hq => Heap.lt_size (N q hq).1) (by rw [List.size_toArray, List.size_toArray]; simp [sizeLine]; omega)
theorem slice_upto {l : Addr} {vs : List Value} {n k : Nat} {t : Tok} {value slice : PySem.Expr} (F : Fr h₀ L s.heap m) (N : News h₀ L s.heap news) (hl : (l, lst vs n) ∈ news) (hk : k ≤ vs.length) (hz : vs.length < 100000)
    (h : ∀ D h', Fr h₀ L h' m → News h₀ L h' ((D, lst (vs.take k) 0) :: news) → Blw D news → Q (.ref D) { s with heap := h' })
    (hs : subscripted slice false (.ref l) (.ref s.heap.objs.size) = operate [.ref s.heap.objs.size, .ref l] (getItem (.ref l) (.ref s.heap.objs.size)) := by with_unfolding_all rfl) (ht : ∀ r, letTemporaryGo value (.ref l) r = pure () := by intro _; with_unfolding_all rfl) :
    wpAny (model prog w) A (subscriptTail value slice (.ref l) (.ref s.heap.objs.size)) Q E { s with heap := s.heap.push { cls := .type "slice", data := .fields #[.none, .int k t, .none] } } :=
  kms_slice_lit (lo := none) (hi := some (k : Int)) F N (N.isList hl) .none (.int _ _) (by simp [kms_pick, kms_lo, kms_hi, if_neg (show ¬ ((k : Int) < 0) by omega)]) h hs ht (by rw [List.size_toArray]; simp [sizeLine]; omega)
theorem slice_from {l : Addr} {vs : List Value} {n k : Nat} {t : Tok} {value slice : PySem.Expr} (F : Fr h₀ L s.heap m) (N : News h₀ L s.heap news) (hl : (l, lst vs n) ∈ news) (hk : k ≤ vs.length) (hz : vs.length < 100000)
    (h : ∀ D h', Fr h₀ L h' m → News h₀ L h' ((D, lst (vs.drop k) 0) :: news) → Blw D news → Q (.ref D) { s with heap := h' })
    (hs : subscripted slice false (.ref l) (.ref s.heap.objs.size) = operate [.ref s.heap.objs.size, .ref l] (getItem (.ref l) (.ref s.heap.objs.size)) := by with_unfolding_all rfl) (ht : ∀ r, letTemporaryGo value (.ref l) r = pure () := by intro _; with_unfolding_all rfl) :
    wpAny (model prog w) A (subscriptTail value slice (.ref l) (.ref s.heap.objs.size)) Q E { s with heap := s.heap.push { cls := .type "slice", data := .fields #[.int k t, .none, .none] } } :=
  kms_slice_lit (lo := some (k : Int)) (hi := none) F N (N.isList hl) (.int _ _) .none (by simp [kms_pick, kms_lo, kms_hi, if_neg (show ¬ ((k : Int) < 0) by omega), Nat.min_eq_left hk, List.take_of_length_le]) h hs ht (by rw [List.size_toArray]; simp [sizeLine]; omega)
end
end
section
set_option maxRecDepth 100000
inductive Pk (R : Nat → Value → Prop) : List Nat → List Value → Prop
  | nil : Pk R [] []
  | cons {i : Nat} {v : Value} {is : List Nat} {vs : List Value} : R i v → Pk R is vs → Pk R (i :: is) (v :: vs)
theorem Pk.snoc {R : Nat → Value → Prop} {i : Nat} {v : Value} {is : List Nat} {vs : List Value} (h : Pk R is vs) (k : R i v) : Pk R (is ++ [i]) (vs ++ [v]) := by
  induction h with
  | nil => exact .cons k .nil
  | cons a _ ih => exact .cons a ih
theorem Pk.len {R : Nat → Value → Prop} {is : List Nat} {vs : List Value} (h : Pk R is vs) : vs.length = is.length := by
  induction h with
  | nil => rfl
  | cons _ _ ih => simp [ih]
theorem Pk.strs {R : Nat → Value → Prop} {g : Nat → Str} {is : List Nat} {vs : List Value} (h : Pk R is vs) (k : ∀ i v, R i v → ∃ t, v = .str (g i) t) : StrsAre vs (is.map g) := by
  induction h with
  | nil => exact .nil
  | cons a _ ih => obtain ⟨t, rfl⟩ := k _ _ a; exact .cons _ t ih
theorem Pk.ints {R : Nat → Value → Prop} {g : Nat → Int} {is : List Nat} {vs : List Value} (h : Pk R is vs) (k : ∀ i v, R i v → ∃ t, v = .int (g i) t) : IntsAre vs (is.map g) := by
  induction h with
  | nil => exact .nil
  | cons a _ ih => obtain ⟨t, rfl⟩ := k _ _ a; exact .cons _ t ih
theorem filter_range_succ (p : Nat → Bool) (i : Nat) : (List.range (i + 1)).filter p = (List.range i).filter p ++ if p i then [i] else [] := by
  rw [List.range_succ, List.filter_append]
  cases h : p i <;> simp [h]

section
open LCg
variable {prog : Program} {w : World} {A : Around} {E : Value → Shared → Prop} {s : Shared} {h₀ : Heap} {L C c : Addr} {m mg mb : Str → Option Value} {news : List (Addr × Obj)} {scope : Scope} {cl : List (Str × Addr)} {env : Env} {x : Str} {pos : Pos} {v : Value} {o oC : Obj} {m₂ : Str → Option Value} {Q : Value → Shared → Prop} {K : Frag} {p : Program} {loose : List Str}
theorem blk_own (N : News h₀ L s.heap news) (hm : (C, oC) ∈ news) (hoC : NsObj oC m₂) (hv : m₂ x = some v) (h : Q v s) (hk : (compEnvC scope cl C env).scope.kind = .function) (hx : (compEnvC scope cl C env).kindOf x = some .local) (hd : (x == ("__debug__" : Str)) = false := by decide) :
    wpAny (model prog w) A (eval (.Name x pos) (compEnvC scope cl C env)) Q E s := wpAny_Name (wpAny_loadName_local hk hx (hoC.ns (N.get hm)) hv h) hd
theorem blk_cell (N : News h₀ L s.heap news) (hc : cl.lookup x = some c) (hm : (c, o) ∈ news) (hd : o.data = .cell (some v)) (h : Q v s)
    (hk : (compEnvC scope cl C env).scope.kind = .function) (hx : (compEnvC scope cl C env).kindOf x = some .cell) (hb : (x == ("__debug__" : Str)) = false := by decide) :
    wpAny (model prog w) A (eval (.Name x pos) (compEnvC scope cl C env)) Q E s := wpAny_Name (wpAny_loadName_cell hk hx hc ⟨o, N.get hm, hd⟩ h) hb
theorem blk_K (F : Fr h₀ L s.heap m) (X : K.In h₀) (T : TopRead p loose mg mb h₀) (e : nsIn K mainGlobals x = some (some v)) (hg : env.globals = mainGlobals) (h : Q v s) (hk : (compEnvC scope cl C env).scope.kind = .function) (hx : (compEnvC scope cl C env).kindOf x = some .globalImplicit) (hd : (x == ("__debug__" : Str)) = false := by decide) :
    wpAny (model prog w) A (eval (.Name x pos) (compEnvC scope cl C env)) Q E s := Name_function_global hk hx (loadGlobal_global (env := compEnvC scope cl C env) (by show s.heap.Ns env.globals mg; rw [hg]; exact T.g.keeps F.keep) (mg_of X T.g e) h) hd
theorem blk_B (F : Fr h₀ L s.heap m) (X : K.In h₀) (T : TopRead p loose mg mb h₀) (e : nsIn K mainGlobals x = some none) (hv : bootBuiltins x = some v) (hn : x ≠ "__name__") (hg : env.globals = mainGlobals) (hb : env.builtins = builtinsNs) (h : Q v s) (hk : (compEnvC scope cl C env).scope.kind = .function) (hx : (compEnvC scope cl C env).kindOf x = some .globalImplicit) (hd : (x == ("__debug__" : Str)) = false := by decide) :
    wpAny (model prog w) A (eval (.Name x pos) (compEnvC scope cl C env)) Q E s :=
  Name_function_global hk hx (loadGlobal_builtin (env := compEnvC scope cl C env) (by show s.heap.Ns env.globals mg; rw [hg]; exact T.g.keeps F.keep) (mg_none_of X T.g e) (by show s.heap.Ns env.builtins mb; rw [hb]; exact T.b.keeps F.keep) ((T.builtins x hn).trans hv) h) hd
theorem blkO (hk : (compEnvC scope cl C env).scope.kind = .function ∧ (compEnvC scope cl C env).kindOf x = some .local) (N : News h₀ L s.heap news) (hm : (C, oC) ∈ news) (hoC : NsObj oC m₂) (hv : m₂ x = some v) (h : Q v s) (hd : (x == ("__debug__" : Str)) = false := by decide) :
    wpAny (model prog w) A (eval (.Name x pos) (compEnvC scope cl C env)) Q E s := blk_own N hm hoC hv h hk.1 hk.2 hd
theorem blkC (hk : (compEnvC scope cl C env).scope.kind = .function ∧ (compEnvC scope cl C env).kindOf x = some .cell ∧ cl.lookup x = some c) (N : News h₀ L s.heap news) (hm : (c, o) ∈ news) (hd : o.data = .cell (some v)) (h : Q v s) (hb : (x == ("__debug__" : Str)) = false := by decide) :
    wpAny (model prog w) A (eval (.Name x pos) (compEnvC scope cl C env)) Q E s := blk_cell N hk.2.2 hm hd h hk.1 hk.2.1 hb
theorem blkK (hk : (compEnvC scope cl C env).scope.kind = .function ∧ (compEnvC scope cl C env).kindOf x = some .globalImplicit ∧ env.globals = mainGlobals) (F : Fr h₀ L s.heap m) (X : K.In h₀) (T : TopRead p loose mg mb h₀) (e : nsIn K mainGlobals x = some (some v)) (h : Q v s) (hd : (x == ("__debug__" : Str)) = false := by decide) :
    wpAny (model prog w) A (eval (.Name x pos) (compEnvC scope cl C env)) Q E s := blk_K F X T e hk.2.2 h hk.1 hk.2.1 hd
theorem blkB (hk : (compEnvC scope cl C env).scope.kind = .function ∧ (compEnvC scope cl C env).kindOf x = some .globalImplicit ∧ env.globals = mainGlobals ∧ env.builtins = builtinsNs) (F : Fr h₀ L s.heap m) (X : K.In h₀) (T : TopRead p loose mg mb h₀) (e : nsIn K mainGlobals x = some none) (hv : bootBuiltins x = some v) (h : Q v s) (hn : x ≠ "__name__" := by decide) (hd : (x == ("__debug__" : Str)) = false := by decide) :
    wpAny (model prog w) A (eval (.Name x pos) (compEnvC scope cl C env)) Q E s := blk_B F X T e hv hn hk.2.2.1 hk.2.2.2 h hk.1 hk.2.1 hd
end
section
open LCg
variable {prog : Program} {w : World} {A : Around} {E : Value → Shared → Prop} {s : Shared} {env : Env} {h₀ : Heap} {L : Addr} {m : Str → Option Value} {elt iter : Expr} {ifs : List Expr} {scope : Scope} {pos : Pos} {cl : List (Str × Addr)} {x : Str} {px : Pos}
noncomputable def PJ (news : List (Addr × Obj)) (gs₀ : Array GenState) (tst : Nat → Bool) (R : Nat → Value → Prop) : CInv := fun i ys _ nw gs => nw = news ∧ gs = gs₀ ∧ Pk R ((List.range i).filter tst) ys
noncomputable def Same (s : Shared) (h₀ : Heap) (L : Addr) (m : Str → Option Value) (news : List (Addr × Obj)) (s' : Shared) : Prop := ∃ h' tk, s' = { s with heap := h', toks := tk } ∧ Fr h₀ L h' m ∧ News h₀ L h' news
theorem Same.intro {news all : List (Addr × Obj)} {h' : Heap} {tk : Nat} (F : Fr h₀ L h' m) (N : News h₀ L h' all) (sub : ∀ p ∈ news, p ∈ all) : Same s h₀ L m news { s with heap := h', toks := tk } := ⟨h', tk, rfl, F, fun p hp => N p (sub p hp)⟩

theorem comp_pure {RR : Value → Addr → Result → Shared → Prop} {xv : Value} {base news : List (Addr × Obj)} {n : Nat} {P : Nat → Value → Nat → Prop}
    (S : Src prog w A h₀ L base xv s n P) (F : Fr h₀ L s.heap m) (N : News h₀ L s.heap news) (hz : n < 100000) (tst : Nat → Bool) (R : Nat → Value → Prop)
    (turn : ∀ i v m₂ I C D oI oC ys h tk₀ tk, i < n → s.toks ≤ tk → P i v tk₀ → tk₀ ≤ tk → NsObj oC m₂ → m₂ x = some v → Fr h₀ L h m → News h₀ L h ((I, oI) :: (C, oC) :: (D, lst ys ys.length) :: news) →
      wpAny (model prog w) A (tests ifs (compEnvC scope cl C env)) (fun ok s₃ => ok = tst i ∧
        if ok = true then wpAny (model prog w) A (eval elt (compEnvC scope cl C env)) (fun y s₄ => R i y ∧ Same s h₀ L m ((I, oI) :: (C, oC) :: (D, lst ys ys.length) :: news) s₄) NoE s₃
        else Same s h₀ L m ((I, oI) :: (C, oC) :: (D, lst ys ys.length) :: news) s₃) NoE { s with heap := h, toks := tk })
    (done : RROk h₀ L m RR s (PJ news s.gens tst R) n) (hb : ∀ p ∈ base, p ∈ news)
    (hcell : ∀ y ∈ scope.names, y.2 ≠ .cell := by decide) (hkind : scope.kind = .function := by rfl) (hx : scope.names.lookup x = some .local := by rfl) :
    CompAt prog w A env elt [⟨.Name x px, iter, ifs, 0⟩] scope cl pos E RR xv s := by
  refine comp_it rfl S F N (PJ news s.gens tst R) (fun m₂ => ⟨rfl, rfl, .nil⟩) ?_ done hb hcell hkind
  rintro g₁ s₁ C D rfl i v ys m₂ nw I oI oC h tk gs hi ht hP ⟨rfl, rfl, hp⟩ hoC F₁ N₁ off ⟨hIC, hID, hCD⟩ b₁
  have hyl : ys.length < 100000 := by
    rw [hp.len]
    exact Nat.lt_of_le_of_lt (List.length_filter_le _ _) (by rw [List.length_range]; omega)
  refine wpAny_assign_Name (store_C (pre := [(I, oI)]) (post := (D, lst ys ys.length) :: nw) F₁ N₁ hoC (fun p hp => by rw [List.mem_singleton.mp hp]; exact hIC) (fun p hp => ?_) hkind hx fun h' oC' F₂ hoC' N₂ => ?_)
  · rcases List.mem_cons.mp hp with rfl | hp
    · exact Ne.symm hCD
    · exact (off p hp).2.1
  · refine wpAny_mono (turn i v _ I C D oI oC' ys h' tk (tk + 1) hi (Nat.le_succ_of_le ht) hP (Nat.le_succ _) hoC' (by simp) F₂ N₂) (fun ok s₃ h₃ => ?_) fun _ _ e => e
    obtain ⟨e, h₃⟩ := h₃
    cases ok with
    | false =>
      simp only [Bool.false_eq_true, if_false] at h₃ ⊢
      obtain ⟨h₄, tk₄, rfl, F₄, N₄⟩ := h₃
      exact CEnd.intro (s₁ := { s with heap := h, toks := tk, gens := s.gens }) ys nw F₄ hoC' N₄ (fun p hp => hp) off b₁ ⟨rfl, rfl, by rw [filter_range_succ, ← e]; simpa using hp⟩
    | true =>
      simp only [if_true] at h₃ ⊢
      refine cact_last rfl (wpAny_mono h₃ (fun y s₄ h₄ => ?_) fun _ _ e => e)
      obtain ⟨hR, h₅, tk₅, rfl, F₅, N₅⟩ := h₄
      exact CElt.intro (s₁ := { s with heap := h, toks := tk, gens := s.gens }) ys nw F₅ hoC' N₅ (fun p hp => hp) off b₁ hyl ⟨hIC, hID, hCD⟩ ⟨rfl, rfl, by rw [filter_range_succ, ← e, if_pos rfl]; exact hp.snoc hR⟩
theorem tests_nil {cenv : Env} {Q : Bool → Shared → Prop} (h : Q true s) : wpAny (model prog w) A (tests [] cenv) Q E s := wpAny_tests_nil h
theorem tests_one {cenv : Env} {c : Expr} {Q : Bool → Shared → Prop} (h : wpAny (model prog w) A (isTrue c cenv (eval c cenv)) Q E s) : wpAny (model prog w) A (tests [c] cenv) Q E s := wpAny_tests_one h
end
end
end
section
set_option hygiene false
local macro_rules | `(tactic| walk_at "eval Lambda") => `(tactic| (k_here; refine stop_of ?_))
local macro_rules | `(tactic| walk_at "eval ListComp") => `(tactic| (k_here; refine stop_of ?_))
local macro_rules | `(tactic| walk_at "exec Assign cons ListComp") => `(tactic| (k_here; refine stop_of ?_))
local macro_rules | `(tactic| walk_at "subscriptTail Name Name ref str") => `(tactic| (k_here; refine stop_of ?_))
local macro_rules | `(tactic| walk_at "subscriptTail Name Subscript ref str") => `(tactic| (k_here; refine stop_of ?_))
local macro_rules | `(tactic| walk_at "call type:list") => `(tactic| (k_here; refine stop_of ?_))
local macro_rules | `(tactic| walk_at "eval Name") => `(tactic| (k_here; (with_reducible show wpAny _ _ (eval (Expr.Name _ _) (envX _ _ _ _ _ _)) _ _ _); k_dflt (refine nameX_F (by k_asm) (by exact rfl) (by walk_at "my mem") (by k_asm) ?_)))
local macro_rules | `(tactic| walk_at "eval IfExp") => `(tactic| (k_here; refine stop_of ?_))
local macro_rules | `(tactic| walk_at "subscriptTail Name Slice ref ref") => `(tactic| (k_here; refine stop_of ?_))
local macro_rules | `(tactic| walk_at "binaryOp Add ref ref") => `(tactic| (k_here; refine stop_of ?_))
local macro_rules | `(tactic| walk_at "compareOp Eq ref ref") => `(tactic| (k_here; refine stop_of ?_))
local macro_rules | `(tactic| walk_at "compareOp NotEq ref ref") => `(tactic| (k_here; refine stop_of ?_))
set_option hygiene true
section
set_option hygiene false
local macro_rules | `(tactic| walk_at "eval Name") => `(tactic| (k_here; (with_reducible show wpAny _ _ (eval (Expr.Name _ _) (compEnvC _ _ _ _)) _ _ _); k_dflt (first | refine blkO (by exact ⟨rfl, rfl⟩) (by k_asm) (by walk_at "my mem") (by k_asm) (by k_asm) ?_ | refine blkC (by exact ⟨rfl, rfl, rfl⟩) (by k_asm) (by walk_at "my mem") (by k_asm) ?_ | refine blkK (by exact ⟨rfl, rfl, rfl⟩) (by k_asm) (by k_asm) (by k_asm) (by k_is) ?_ | refine blkB (by exact ⟨rfl, rfl, rfl, rfl⟩) (by k_asm) (by k_asm) (by k_asm) (by k_is) (by boot_by_name) ?_)))
set_option hygiene true
section
set_option hygiene false
local macro_rules | `(tactic| walk_at "my off") => `(tactic| ((try with_reducible apply off_of); (repeat' (first | with_reducible assumption | ((with_reducible apply off_c); (· omega)) | with_reducible apply off_nil | with_reducible apply off_a | (apply off_blw (by assumption); omega) | (apply off_abv (by assumption); omega) | assumption | exact off_nil _ | refine off_c (by omega) ?_ | refine off_a ?_ ?_))))
local macro_rules | `(tactic| walk_at "my blw") => `(tactic| (repeat' (first | with_reducible assumption | with_reducible apply blw_nil | ((with_reducible apply blw_c); (· omega)) | with_reducible apply blw_a | exact blw_le (by assumption) (by omega) | assumption | exact blw_nil _ | refine blw_c (by omega) ?_ | refine blw_a ?_ ?_)))
local macro_rules | `(tactic| walk_at "my units") => `(tactic| ((try simp only [units_in1, units_deeper, Around.mark_units, units_caller] at *); omega))
local macro_rules | `(tactic| walk_at "my upd") => `(tactic| first | ((with_reducible apply upd_h); (walk_at "my off")) | ((with_reducible apply upd_t); (· k_dflt omega); (walk_at "my upd")) | exact upd_h (by (walk_at "my off")) | exact upd_t (by omega) (by (walk_at "my upd")))
set_option hygiene true
local macro_rules | `(tactic| walk_at "storeName") => `(tactic| (k_here; (with_reducible show wpAny _ _ (storeName (envX _ _ _ _ _ _) _ _) _ _ _); k_dflt (refine storeX_C (by k_asm) (by k_asm) (by exact rfl) (by walk_at "my upd") (by assumption) ?_); intro h' o' F' N' d'; (try dsimp only at N')))
section
set_option maxRecDepth 100000
noncomputable def DictSI (w : World) (o : Obj) (c : List (Str × Int)) : Prop := ∃ kvs, o.IsDictOf (PySem.strKind PG w) kvs ∧ PyProof.V.FlatPairs PyData.str kvs (kdpD c)
theorem lt_ints (w : World) (i j : Int) (t u : Tok) : LtIs w (.int i t) (.int j u) (decide (i < j)) := fun A s Q h => lt_int (by simpa using h s.toks)
theorem lt_bools (w : World) (i j : Bool) : LtIs w (.bool i) (.bool j) (!i && j) := fun A s Q h => lt_bool (by
  have e : decide (b2i i < b2i j) = (!i && j) := by cases i <;> cases j <;> rfl
  rw [e]; simpa using h s.toks)
theorem scTab {w : World} {s : Shared} {h₀ : Heap} {L S : Addr} {oS : Obj} {sc : List (Str × Int)} {news : List (Addr × Obj)} (N : News h₀ L s.heap news) (hS : (S, oS) ∈ news) (hD : DictSI w oS sc) (hlo : (S == sysModules) = false) : StrTab PG w s.heap S (kdpD sc) := by
  obtain ⟨kvs, hd, hf⟩ := hD
  exact TabAt.ofNews N hS hlo hd hf
noncomputable abbrev lamArgs (p1 : Pos) : Arguments := { posonlyargs := [], args := [{ arg := Str.ofString "one", annotation := none, pos := p1 }], vararg := none, kwonlyargs := [], kw_defaults := [], kwarg := none, defaults := [] }
noncomputable abbrev scBody (p2 p3 p4 : Pos) : Expr := (Expr.Name (Str.ofString "scores") p2).Subscript (Expr.Name (Str.ofString "one") p3) p4
noncomputable abbrev scScope : Scope := { kind := ScopeKind.function, names := [(Str.ofString "one", NameKind.local), (Str.ofString "scores", NameKind.free)], isGenerator := false, isCoroutine := false }
noncomputable abbrev lamQ1 : Str := Str.ofString "_law_by_wins" ++ ".<locals>." ++ "<lambda>"
set_option maxHeartbeats 400000 in
theorem keyScore {w : World} {p : Program} {loose : List Str} {mean : ExcName → Option Value} {mg mb : Str → Option Value} {news : List (Addr × Obj)} {f c' S cS : Addr} {oc o oS : Obj} {vs : Array Value} {t : Tok} {p1 p2 p3 p4 : Pos} {pm ctv : Value} {sc : List (Str × Int)} {x : Str} {tx : Tok}
    {fo : Obj} (hf : (f, fo) ∈ news) (hfo : fo = kla_obj (Str.ofString "<lambda>") lamQ1 (lamArgs p1) (scBody p2 p3 p4) scScope [(Str.ofString "scores", cS)] pm c' ctv) (hc : (c', oc) ∈ news) (hd' : oc.data = .fields vs) (hv' : vs[1]? = some (.str lamQ1 t))
    (hcell : (cS, o) ∈ news) (hod : o.data = .cell (some (.ref S))) (hS : (S, oS) ∈ news) (hD : DictSI w oS sc) (hlo : (S == sysModules) = false) (hx : kdpHas sc x = true) : KeyIs w p loose mean mg mb news (.ref f) (.str x tx) (fun v => ∃ t', v = .int (kdpLook sc x 0) t') := by
  intro A h₀ L m s Q F X N T hd ret
  refine wpAny_call (enterLam [(Str.ofString "one", .str x tx)] F X N T hf hfo hc hd' hv' ?ro rfl ?lo rfl rfl rfl ?ce ?_)
  case ro => k_room
  case lo => exact locs rfl
  case ce => decide
  intro g' L' h' FG' F' N' X' T'
  walk_at "seal24"
  k_steps
  refine of_stop (kdp_item (scTab N' hS hD hlo) hx fun t' => ?_)
  k_steps
  exact ret _ _ _ ⟨_, rfl⟩ (by assumption) (by assumption)
theorem KeyIs.mono {w : World} {p : Program} {loose : List Str} {mean : ExcName → Option Value} {mg mb : Str → Option Value} {news : List (Addr × Obj)} {kv it : Value} {Ok Ok' : Value → Prop} (h : KeyIs w p loose mean mg mb news kv it Ok) (k : ∀ v, Ok v → Ok' v) : KeyIs w p loose mean mg mb news kv it Ok' :=
  fun A h₀ L m s Q F X N T hd ret => h A h₀ L m s Q F X N T hd fun v h' tk ok F' N' => ret v h' tk (k v ok) F' N'
theorem StrsAre.get {vs : List Value} {ss : List Str} (h : StrsAre vs ss) {i : Nat} {v : Value} (e : vs[i]? = some v) : ∃ t, v = .str (ss.getD i default) t ∧ ss.getD i default ∈ ss := by
  induction h generalizing i with
  | nil => simp at e
  | cons y t r ih =>
    cases i with
    | zero => simp at e; exact ⟨t, by simp [← e], by simp⟩
    | succ i =>
      obtain ⟨t', a, b⟩ := ih (i := i) (by simpa using e)
      exact ⟨t', by simpa using a, by simp at b ⊢; exact .inr b⟩
noncomputable def fewB (sc : List (Str × Int)) (rs : List Str) (x : Str) (i : Nat) : Bool := decide (kdpLook sc (rs.getD i default) 0 < kdpLook sc x 0)
noncomputable def uptB (sc : List (Str × Int)) (rs : List Str) (x : Str) (i : Nat) : Bool := !decide (kdpLook sc x 0 < kdpLook sc (rs.getD i default) 0)
noncomputable def EndIs (hi : Nat) (s₀ : Shared) (v : Value) (s' : Shared) : Prop := ∃ te tk, v = .int hi te ∧ s' = { s₀ with toks := tk }
theorem szA {a m : Nat} (h : m ≤ 1000) : min a m + 1 < 100000 := Nat.lt_of_le_of_lt (Nat.add_le_add_right (Nat.le_trans (Nat.min_le_right _ _) h) 1) (by decide)
theorem szB {a m : Nat} (h : m ≤ 1000) : min a m + 1 + (m - a) < 100000 := Nat.lt_of_le_of_lt (Nat.add_le_add (Nat.add_le_add_right (Nat.le_trans (Nat.min_le_right _ _) h) 1) (Nat.le_trans (Nat.sub_le _ _) h)) (by decide)
noncomputable def clp (lo hi k : Nat) : Nat := min hi (max lo k)
theorem clp_le (lo hi k : Nat) : clp lo hi k ≤ hi := Nat.min_le_left _ _
theorem clp_eq (lo hi k : Nat) : (if (if (k : Int) > (lo : Int) then (k : Int) else (lo : Int)) < (hi : Int) then if (k : Int) > (lo : Int) then (k : Int) else (lo : Int) else (hi : Int)) = ((clp lo hi k : Nat) : Int) := by
  unfold clp
  split <;> split at * <;> omega
noncomputable def insS (ss : List Str) (p : Nat) (x : Str) : List Str := ss.take p ++ x :: ss.drop p
theorem StrsAre.ins {vs : List Value} {ss : List Str} (h : StrsAre vs ss) (p : Nat) (x : Str) (t : Tok) : StrsAre (insAt vs p (.str x t)) (insS ss p x) := (StrsAre.take' h p).append' (.cons x t (StrsAre.drop' h p))
theorem StrsAre.ins' {vs : List Value} {ss : List Str} (h : StrsAre vs ss) (p : Nat) (x : Str) (t : Tok) : StrsAre (vs.take p ++ [.str x t] ++ vs.drop p) (insS ss p x) := by
  have e : insS ss p x = ss.take p ++ [x] ++ ss.drop p := by simp [insS]
  rw [e]
  exact ((StrsAre.take' h p).append' (.cons x t .nil)).append' (StrsAre.drop' h p)
theorem OkStrs.ins {ss : List Str} {x : Str} (h : OkStrs (x :: ss)) (p : Nat) : OkStrs (insS ss p x) := fun y hy => by
  unfold insS at hy
  rcases List.mem_append.mp hy with hy | hy
  · exact h y (List.mem_cons_of_mem _ (List.mem_of_mem_take hy))
  · rcases List.mem_cons.mp hy with rfl | hy
    · exact h _ List.mem_cons_self
    · exact h y (List.mem_cons_of_mem _ (List.mem_of_mem_drop hy))
noncomputable def cnt (b : Nat → Bool) (n : Nat) : Nat := ((List.range n).filter b).length
theorem cnt_le (b : Nat → Bool) (n : Nat) : cnt b n ≤ n := by
  unfold cnt
  have := List.length_filter_le b (List.range n)
  rwa [List.length_range] at this
noncomputable def byW (sc : List (Str × Int)) (rs : List Str) (x : Str) (lo hi : Nat) : Bool :=
  decide (insS rs (bis (fewB sc rs x) 4 lo hi) x = insS rs (clp lo hi (cnt (fewB sc rs x) 4)) x) && decide (insS rs (bis (uptB sc rs x) 4 lo hi) x = insS rs (clp lo hi (cnt (uptB sc rs x) 4)) x)
set_option maxHeartbeats 4000000 in
theorem byWins {w : World} {p : Program} {loose : List Str} {mean : ExcName → Option Value} {mg mb : Str → Option Value} {A : Around} {h₀ : Heap} {L : Addr} {m : Str → Option Value} {rest : List (Addr × Obj)} {s : Shared} {Q : Value → Shared → Prop}
    {ps : Array Value} {c lo hi : Nat} {t tl : Tok} {hv : Value} {R S : Addr} {rv : List Value} {rn : Nat} {rs : List Str} {oS : Obj} {sc : List (Str × Int)}
    (F : Fr h₀ L s.heap m) (X : (KK w.params).In h₀) (N : News h₀ L s.heap ((210, tabObj ps) :: rest)) (T : Top p loose mean mg mb h₀) (hd : A.depth + 60 < recursionLimit) (hu : A.units + 500 < cLine) (hh : A.handled = none)
    (hR : (R, lst rv rn) ∈ rest) (hS : (S, oS) ∈ rest) (off : Off 210 rest) {lr : List (Addr × Obj)} (LO : LamOK lamQ1 ps lr) (hlr : ∀ p ∈ lr, p ∈ rest) (hrv : StrsAre rv rs) (hrl : rs.length = 4) (hD : DictSI w oS sc) (hlo : (S == sysModules) = false) (hk1 : kdpHas sc (one c) = true) (hk2 : ∀ x ∈ rs, kdpHas sc x = true)
    (hhv : (∃ th, hv = .int hi th) ∨ (hv = .none ∧ hi = 4)) (hlh : lo ≤ hi) (hhl : hi ≤ 4) (hok : OkStrs (one c :: rs))
    (ret : ∀ h' tk ps' xs, Fr h₀ L h' m → News h₀ L h' ((210, tabObj ps') :: (xs ++ rest)) → LamOK lamQ1 ps' (xs ++ lr) → (∀ a o, (a, o) ∈ (210, tabObj ps) :: rest → Abv a xs) → Q (.bool (byW sc rs (one c) lo hi)) { s with heap := h', toks := tk }) :
    wpAny (model PG w) A (call (.ref 213) [.str (one c) t, .ref R, .int lo tl, hv, .ref S]) Q NoE s := by
  obtain ⟨ah, ad, af, ag, au⟩ := A
  obtain rfl : ah = none := hh
  replace hd : ad + 60 < recursionLimit := hd
  have hrvl : rv.length = 4 := by rw [StrsAre.length hrv]; exact hrl
  have hrvz : rv.length ≤ 1000 := by rw [hrvl]; decide
  refine wpAny_call (enterC [(Str.ofString "name", .str (one c) t), (Str.ofString "row", .ref R), (Str.ofString "low", .int lo tl), (Str.ofString "high", hv), (Str.ofString "scores", .ref S)] F X N T rfl ?cd ?ro ?bd ?lo ?ce rfl rfl rfl
    [(Str.ofString "high", some hv), (Str.ofString "low", some (.int lo tl)), (Str.ofString "row", some (.ref R))] (fun _ => rfl) ?_)
  case cd => k_is
  case ro => k_room
  case bd => first | exact BindsTo.of_eq rfl | exact binds_K (by k_in) rfl (by k_is) rfl rfl rfl
  case lo => intro n; exact kinds_of ⟨.inr ⟨rfl, rfl⟩, .inl rfl, .inl rfl, .inl rfl, .inr ⟨rfl, rfl⟩, trivial⟩
  case ce => decide +kernel
  intro g' L' h' tk' cells FG' F' N' Y' X' T' l1
  walk_at "seal24"
  obtain ⟨oc1, oc2, rfl, dS, dN⟩ := CellsAre.two Y'
  replace dS : oc1.data = .cell (some (.ref S)) := dS
  replace dN : oc2.data = .cell (some (.str (one c) t)) := dN
  simp only [List.cons_append, List.nil_append] at N'
  replace l1 : Blw L' ((210, tabObj ps) :: rest) := l1
  simp only [blw_cons] at l1
  obtain ⟨l1a, l1b⟩ := l1
  k_steps
  refine of_stop (copy_led F' N' (by walk_at "my mem") (by omega) ?_)
  intro D1 n1 h1 F1 N1 l2
  simp only [blw_cons] at l2
  obtain ⟨l2a, l2b, l2c, -⟩ := l2
  k_steps
  refine of_stop (copy_led F1 N1 (by walk_at "my mem") (by omega) ?_)
  intro D2 n2 h2 F2 N2 l3
  simp only [blw_cons] at l3
  obtain ⟨l3a, l3b, l3c, l3d, -⟩ := l3
  k_steps
  rename Fr g' L' _ _ => F3
  rename News g' L' _ _ => N3
  refine of_stop (lam_eval F3 (News.sub N3 (b := (210, tabObj ps) :: (D2, lst rv n2) :: (D1, lst rv n1) :: (L' + 1 + 1, oc1) :: (L' + 1, oc2) :: rest) (by walk_at "sub")) T' (codeHd_of_K X' (by kernel_rfl)) (by walk_at "my off") LO (fun p hp => by have := hlr p hp; walk_at "my mem") ?_ (by with_unfolding_all rfl) rfl rfl)
  intro f1 fo1 c1 ok1 vs1 t1 ctv1 ps1 xs1 h4 tk4 hfo1 F4 N4 LO4 hc4 hd4 hv4 nf4 xo4
  simp only [blw_cons, blw_append] at nf4
  obtain ⟨nf4a, nf4b, nf4c, nf4d, nf4e, nf4f, -⟩ := nf4
  have xD2 := xo4 D2 _ (by walk_at "my mem")
  k_steps
  replace hc4 : (c1, ok1) ∈ xs1 ++ rest := (List.mem_append.mp hc4).elim (List.mem_append_left _) fun q => List.mem_append_right _ (hlr _ q)
  have sub4 : ∀ p ∈ xs1 ++ rest, p ∈ (D1, lst rv n1) :: (f1, fo1) :: (210, tabObj ps1) :: (D2, lst rv n2) :: (L' + 1 + 1, oc1) :: (L' + 1, oc2) :: (xs1 ++ rest) := by walk_at "sub"
  have key1 : ∀ x tx, kdpHas sc x = true → KeyIs w p loose mean mg mb ((D1, lst rv n1) :: (f1, fo1) :: (210, tabObj ps1) :: (D2, lst rv n2) :: (L' + 1 + 1, oc1) :: (L' + 1, oc2) :: (xs1 ++ rest)) (.ref f1) (.str x tx) (fun v => ∃ t', v = .int (kdpLook sc x 0) t') :=
    fun x tx hx => keyScore (by walk_at "my mem") hfo1 (sub4 _ hc4) hd4 hv4 (cS := L' + 1 + 1) (o := oc1) (by walk_at "my mem") dS (sub4 _ (List.mem_append_right _ hS)) hD hlo hx
  refine of_stop (insL (args := ⟨[.ref D1, .str (one c) t, .int lo tl, hv], [(Str.ofString "key", .ref f1)]⟩) (l := D1) (kf := f1) (vs := rv) (n := n1) (lo := lo) (hi := hi) (rest := (f1, fo1) :: (210, tabObj ps1) :: (D2, lst rv n2) :: (L' + 1 + 1, oc1) :: (L' + 1, oc2) :: (xs1 ++ rest))
    (by assumption) (by assumption) (News.sub N4 ?sb) (by assumption) (fewB sc rs (one c)) (by k_room) (by walk_at "my off") (by walk_at "my mem") (by rw [hfo1]) hlh (by omega) (by simpa [hrvl] using hhv) (by omega) (Or.inr rfl) ((key1 _ _ hk1).mono ?_) ?_)
  case sb => walk_at "sub"
  · rintro kx ⟨t', rfl⟩ i v hv
    obtain ⟨ti, rfl, hm⟩ := StrsAre.get hrv hv
    refine (key1 _ _ (hk2 _ hm)).mono ?_
    rintro u ⟨t'', rfl⟩
    exact lt_ints _ _ _ _ _
  · intro h5 tk5 F5 N5
    k_steps
    generalize hlv : insAt rv (bis (fewB sc rs (one c)) rv.length lo hi) (Value.str (one c) t) = lv at N5
    rename Fr g' L' _ _ => F5
    rename News g' L' _ _ => N5
    refine of_stop (lam_eval F5 (News.sub N5 (b := (210, tabObj ps1) :: (D1, lst lv (n1 + 1)) :: (D2, lst rv n2) :: (L' + 1 + 1, oc1) :: (L' + 1, oc2) :: (xs1 ++ rest)) (by walk_at "sub")) T' (codeHd_of_K X' (by kernel_rfl)) (by walk_at "my off") LO4 (fun p hp => by
      have : p ∈ xs1 ++ rest := (List.mem_append.mp hp).elim (List.mem_append_left _) fun q => List.mem_append_right _ (hlr _ q)
      walk_at "my mem") ?_ (by with_unfolding_all rfl) rfl rfl)
    intro f2 fo2 c2 ok2 vs2 t2 ctv2 ps2 xs2 h6 tk6 hfo2 F6 N6 LO6 hc6 hd6 hv6 nf6 xo6
    simp only [blw_cons, blw_append] at nf6
    obtain ⟨nf6a, nf6b, nf6c, nf6d, nf6e, nf6f, -, -⟩ := nf6
    have yD2 := xo6 D2 _ (by walk_at "my mem")
    walk_at "seal24"
    k_steps
    replace hc6 : (c2, ok2) ∈ xs2 ++ (xs1 ++ rest) := (List.mem_append.mp hc6).elim (List.mem_append_left _) fun q => List.mem_append_right _ ((List.mem_append.mp q).elim (List.mem_append_left _) fun q => List.mem_append_right _ (hlr _ q))
    have sub6 : ∀ p ∈ xs2 ++ (xs1 ++ rest), p ∈ (D2, lst rv n2) :: (f2, fo2) :: (210, tabObj ps2) :: (D1, lst lv (n1 + 1)) :: (L' + 1 + 1, oc1) :: (L' + 1, oc2) :: (xs2 ++ (xs1 ++ rest)) := by walk_at "sub"
    have key2 : ∀ x tx, kdpHas sc x = true → KeyIs w p loose mean mg mb ((D2, lst rv n2) :: (f2, fo2) :: (210, tabObj ps2) :: (D1, lst lv (n1 + 1)) :: (L' + 1 + 1, oc1) :: (L' + 1, oc2) :: (xs2 ++ (xs1 ++ rest))) (.ref f2) (.str x tx) (fun v => ∃ t', v = .int (kdpLook sc x 0) t') :=
      fun x tx hx => keyScore (by walk_at "my mem") hfo2 (sub6 _ hc6) hd6 hv6 (cS := L' + 1 + 1) (o := oc1) (by walk_at "my mem") dS (sub6 _ (List.mem_append_right _ (List.mem_append_right _ hS))) hD hlo hx
    refine of_stop (insR (l := D2) (kf := f2) (vs := rv) (n := n2) (lo := lo) (hi := hi) (rest := (f2, fo2) :: (210, tabObj ps2) :: (D1, lst lv (n1 + 1)) :: (L' + 1 + 1, oc1) :: (L' + 1, oc2) :: (xs2 ++ (xs1 ++ rest)))
      (by assumption) (by assumption) (News.sub N6 (by walk_at "sub")) (by assumption) (uptB sc rs (one c)) (by k_room) (by walk_at "my off") (by walk_at "my mem") (by rw [hfo2]) hlh (by omega) (by simpa [hrvl] using hhv) (by omega) ((key2 _ _ hk1).mono ?_) ?_)
    · rintro kx ⟨t', rfl⟩ i v hv
      obtain ⟨ti, rfl, hm⟩ := StrsAre.get hrv hv
      refine (key2 _ _ (hk2 _ hm)).mono ?_
      rintro u ⟨t'', rfl⟩
      have e := lt_ints w (kdpLook sc (one c) 0) (kdpLook sc (rs.getD i default) 0) t' t''
      simpa [uptB] using e
    · intro h7 tk7 F7 N7
      generalize hrw : insAt rv (bis (uptB sc rs (one c)) rv.length lo hi) (Value.str (one c) t) = ru at N7
      k_steps
      rename Fr g' L' _ _ => F8
      rename News g' L' _ _ => N8
      refine of_stop (wpAny_mono (Q := EndIs hi { s with heap := h7, toks := tk7 }) ?_ ?_ fun _ _ e => e)
      · refine IfExp_ ?_
        rcases hhv with ⟨th, rfl⟩ | ⟨rfl, rfl⟩
        · k_steps
          exact ⟨_, _, rfl, rfl⟩
        · k_steps
          exact ⟨_, _, by rw [hrvl], rfl⟩
      rintro _ _ ⟨te, tk8, rfl, rfl⟩
      k_steps
      rename Fr g' L' _ _ => F8
      rename News g' L' _ _ => N8
      refine of_stop (comp_top (by with_unfolding_all rfl) rfl (by decide) ?_)
      k_steps
      refine of_stop (comp_pure (src_list rfl F8 N8 (by walk_at "my mem")) F8 N8 (by omega) (fewB sc rs (one c)) (fun i v => ∃ t, v = .str (rs.getD i default) t) ?_ (rr_e ?_) ?_)
      · intro i v m₂ I C D oI oC ys h tk₀ tk hi' htk hP hlk hoC hm2 F9 N9
        obtain ⟨ti, rfl, hm⟩ := StrsAre.get hrv hP
        refine tests_one ?_
        k_steps
        refine of_stop (kdp_item (scTab N9 (by walk_at "my mem") hD hlo) (hk2 _ hm) fun t' => ?_)
        k_steps
        refine of_stop (kdp_item (scTab N9 (by walk_at "my mem") hD hlo) hk1 fun t'' => ?_)
        k_steps
        all_goals exact Same.intro (by assumption) (by assumption) (by walk_at "sub")
      · intro D h tk gs ys m' nw htk F9 N9 hoD
        rintro ⟨rfl, rfl, hp⟩
        have hyl : ys.length = cnt (fewB sc rs (one c)) rv.length := hp.len
        have hyc := cnt_le (fewB sc rs (one c)) rv.length
        k_steps
        rename Fr g' L' _ _ => F10
        rename News g' L' _ _ => N10
        simp only [clp_eq] at F10
        refine of_stop (comp_top (by with_unfolding_all rfl) rfl (by decide) ?_)
        k_steps
        refine of_stop (comp_pure (src_list rfl F10 N10 (by walk_at "my mem")) F10 N10 (by omega) (uptB sc rs (one c)) (fun i v => ∃ t, v = .str (rs.getD i default) t) ?_ (rr_e ?_) ?_)
        · intro i v m₂ I C D' oI oC ys' h tk₀ tk hi' htk hP hlk hoC hm2 F9 N9
          obtain ⟨ti, rfl, hm⟩ := StrsAre.get hrv hP
          refine tests_one ?_
          k_steps
          refine of_stop (kdp_item (scTab N9 (by walk_at "my mem") hD hlo) (hk2 _ hm) fun t' => ?_)
          k_steps
          refine of_stop (kdp_item (scTab N9 (by walk_at "my mem") hD hlo) hk1 fun t'' => ?_)
          k_steps
          · simp only [uptB]; rw [← decide_not]; exact decide_eq_decide.mpr (by omega)
          all_goals exact Same.intro (by assumption) (by assumption) (by walk_at "sub")
        · intro D' h tk gs ys' m' nw htk F11 N11 hoD'
          rintro ⟨rfl, rfl, hp'⟩
          have hyl' : ys'.length = cnt (uptB sc rs (one c)) rv.length := hp'.len
          have hyc' := cnt_le (uptB sc rs (one c)) rv.length
          k_steps
          refine of_stop (slice_upto (k := clp lo hi ys.length) (by assumption) (by assumption) (by walk_at "my mem") (by have := clp_le lo hi ys.length; omega) (by omega) ?_)
          intro D3 h12 F12 N12 l12
          k_steps
          refine of_stop (add_led (vs := rv.take _) (us := [_]) (by assumption) (by assumption) (by walk_at "my mem") (by walk_at "my mem") (by simp; exact szA hrvz) ?_)
          intro D4 n4 h13 F13 N13 l13
          k_steps
          refine of_stop (slice_from (k := clp lo hi ys.length) (by assumption) (by assumption) (by walk_at "my mem") (by have := clp_le lo hi ys.length; omega) (by omega) ?_)
          intro D5 h14 F14 N14 l14
          k_steps
          refine of_stop (add_led (by assumption) (by assumption) (by walk_at "my mem") (by walk_at "my mem") (by simp; exact szB hrvz) ?_)
          intro D6 n6 h15 F15 N15 l15
          k_steps
          have e4 : ys.length = cnt (fewB sc rs (one c)) 4 := by rw [hyl, hrvl]
          have e4' : ys'.length = cnt (uptB sc rs (one c)) 4 := by rw [hyl', hrvl]
          have hxs : ∀ a o, (a, o) ∈ (210, tabObj ps) :: rest → Abv a (xs2 ++ xs1) := fun a o hm => by
            rcases List.mem_cons.mp hm with h | h
            · cases h
              exact abv_append.mpr ⟨xo6 210 _ (by walk_at "my mem"), xo4 210 _ (by walk_at "my mem")⟩
            · exact abv_append.mpr ⟨xo6 a o (by walk_at "my mem"), xo4 a o (by walk_at "my mem")⟩
          have hlv' : StrsAre lv (insS rs (bis (fewB sc rs (one c)) 4 lo hi) (one c)) := by rw [← hlv, hrvl]; exact StrsAre.ins hrv _ _ _
          have hru' : StrsAre ru (insS rs (bis (uptB sc rs (one c)) 4 lo hi) (one c)) := by rw [← hrw, hrvl]; exact StrsAre.ins hrv _ _ _
          refine of_stop (eq_strs (by assumption) (by walk_at "my mem") (by walk_at "my mem") hlv' (StrsAre.ins' hrv _ _ _) (OkStrs.ins hok _) (OkStrs.ins hok _) (by walk_at "my units") ?_)
          cases eb : decide (insS rs (bis (fewB sc rs (one c)) 4 lo hi) (one c) = insS rs (clp lo hi ys.length) (one c))
          · k_steps
            rename Fr h₀ L _ m => F20
            rename News h₀ L _ _ => N20
            have e := ret _ tk ps2 (xs2 ++ xs1) F20 (News.sub N20 (by rw [List.append_assoc]; walk_at "sub")) (by rw [List.append_assoc]; exact LO6) hxs
            rw [byW, ← e4, ← e4', eb, Bool.false_and] at e
            exact e
          · k_steps
            refine of_stop ?_
            dsimp only
            simp only [clp_eq]
            refine slice_upto (s := { s with heap := h15, toks := tk }) (k := clp lo hi ys'.length) (by assumption) (by assumption) (by walk_at "my mem") (by have := clp_le lo hi ys'.length; omega) (by omega) ?_
            intro D7 h16 F16 N16 l16
            k_steps
            refine of_stop (add_led (vs := rv.take _) (us := [_]) (by assumption) (by assumption) (by walk_at "my mem") (by walk_at "my mem") (by simp; exact szA hrvz) ?_)
            intro D8 n8 h17 F17 N17 l17
            k_steps
            refine of_stop ?_
            dsimp only
            simp only [clp_eq]
            refine slice_from (s := { s with heap := h17, toks := tk }) (k := clp lo hi ys'.length) (by assumption) (by assumption) (by walk_at "my mem") (by have := clp_le lo hi ys'.length; omega) (by omega) ?_
            intro D9 h18 F18 N18 l18
            k_steps
            refine of_stop (add_led (by assumption) (by assumption) (by walk_at "my mem") (by walk_at "my mem") (by simp; exact szB hrvz) ?_)
            intro D10 n10 h19 F19 N19 l19
            k_steps
            refine of_stop (eq_strs (by assumption) (by walk_at "my mem") (by walk_at "my mem") hru' (StrsAre.ins' hrv _ _ _) (OkStrs.ins hok _) (OkStrs.ins hok _) (by walk_at "my units") ?_)
            k_steps
            rename Fr h₀ L _ m => F20
            rename News h₀ L _ _ => N20
            have e := ret _ tk ps2 (xs2 ++ xs1) F20 (News.sub N20 (by rw [List.append_assoc]; walk_at "sub")) (by rw [List.append_assoc]; exact LO6) hxs
            rw [byW, ← e4, ← e4', eb, Bool.true_and] at e
            exact e
        · walk_at "sub"
      · walk_at "sub"
end
section
set_option maxRecDepth 100000
section
variable {prog : Program} {w : World} {A : Around} {E : Value → Shared → Prop} {s : Shared}
theorem field_range {r : Addr} {a b : Int} {t u v : Tok} {Q : (Int × Int × Int) → Shared → Prop} (hr : IsRange s.heap r a b 1 t u v) (h : Q (a, b, 1) s) : wpAny (model prog w) A (Builtin.Range.rangeFields (.ref r)) Q E s := by
  unfold Builtin.Range.rangeFields
  refine wpAny_bind (m := field (.ref r) 0) (wpAny_field hr rfl rfl ?_)
  refine wpAny_bind (wpAny_pure ?_)
  refine wpAny_bind (m := field (.ref r) 1) (wpAny_field hr rfl rfl ?_)
  refine wpAny_bind (wpAny_pure ?_)
  refine wpAny_bind (m := field (.ref r) 2) (wpAny_field hr rfl rfl ?_)
  refine wpAny_bind (wpAny_pure ?_)
  exact wpAny_pure h
theorem place_one (a b i : Int) : (Builtin.Range.rangePlace? a b 1 i).isSome = decide (a ≤ i ∧ i < b) := by
  unfold Builtin.Range.rangePlace?
  by_cases h : a ≤ i ∧ i < b
  · rw [decide_eq_true h]
    simp [h.1, h.2]
  · rw [decide_eq_false h]
    by_cases h1 : a ≤ i
    · have h2 : ¬ i < b := fun x => h ⟨h1, x⟩
      simp [h2]
    · simp [h1]
theorem notIn_range {r : Addr} {a b i : Int} {t u v ti : Tok} {Q : Value → Shared → Prop} (hr : IsRange s.heap r a b 1 t u v) (h : Q (.bool (!decide (a ≤ i ∧ i < b))) s) :
    wpAny (model prog w) A (compareOp .NotIn (.int i ti) (.ref r)) Q E s := by
  have hT : s.TypeIs (.ref r) "range" := ⟨_, hr, rfl⟩
  show wpAny _ _ (do return .bool (!(← contains (.ref r) (.int i ti)))) Q E s
  refine wpAny_bind ?_
  unfold contains
  try with_reducible refine wpAny_holding ?_
  refine wpAny_bind (wpAny_specialOf hT F.slot_range_contains.lookup ?_)
  show wpAny _ _ (if (some (Value.builtin "range.__contains__") == some Value.none) = true then _ else _) _ E s
  rw [if_neg (by rw [beq_builtin_none]; exact Bool.false_ne_true)]
  refine wpAny_bind (wpAny_callSpecialUnlessNone?_slot (name := Str.ofString "__contains__") hT F.slot_range_contains
    (wpAny_call_entry F.slot_range_contains hT F.entry_range_contains ?_ (F.args_range_contains_2 _ _)))
  show wpAny _ _ (do rule "range.contains.reckoned"; let (a, b, c) ← Builtin.Range.rangeFields (.ref r); ret (.bool (Builtin.Range.rangePlace? a b c i).isSome)) _ _ _
  refine wpAny_bind (wpAny_rule (wpAny_bind (field_range hr ?_)))
  show wpAny _ _ (ret (Value.bool (Builtin.Range.rangePlace? a b 1 i).isSome)) _ _ _
  rw [place_one]
  exact wpAny_pure ⟨_, rfl, wpAny_truthy_bool (wpAny_pure h)⟩
theorem isStr_at {k : Str} {vs : List Value} {ss : List Str} (hi : StrsAre vs ss) (j : Nat) (h1 : j < vs.length) (h2 : j < ss.length) : isStrOf k vs[j] = (ss[j] == k) := by
  induction hi generalizing j with
  | nil => cases h1
  | cons y t r ih =>
    cases j with
    | zero => simp [isStrOf]
    | succ j => simpa using ih j (by simpa using h1) (by simpa using h2)
theorem ne_lt_idx {k : Str} : ∀ {ns : List Str} {j : Nat}, j < ns.idxOf k → ∀ (h2 : j < ns.length), (ns[j] == k) = false
  | [], _, h, _ => by simp at h
  | a :: r, j, h, h2 => by
    rw [List.idxOf_cons] at h
    cases e : a == k with
    | true => rw [e] at h; simp at h
    | false =>
      rw [e] at h
      simp only [cond_false] at h
      cases j with
      | zero => simpa using e
      | succ j => simpa using ne_lt_idx (ns := r) (j := j) (by omega) (by simpa using h2)
theorem index_strs {l : Addr} {vs : List Value} {ss : List Str} {k : Str} {t : Tok} {Q : Value → Shared → Prop} (hl : s.heap.IsList l vs.toArray) (hi : StrsAre vs ss)
    (hlen : ss.length < 100000) (hk : k ∈ ss) (h : Q (.int (ss.idxOf k : Nat) s.toks) { s with toks := s.toks + 1 }) :
    wpAny (model prog w) A (call (.builtin "list.index") [.ref l, .str k t]) Q E s := by
  obtain ⟨⟨cls, dd, data, sl⟩, ho, hc, n, hd⟩ := id hl
  simp only at hc hd
  subst hc hd
  have hln := hi.length
  have hj : ss.idxOf k < ss.length := List.idxOf_lt_length_iff.mpr hk
  refine call_meets PySem.F.slot_list_index ⟨_, ho, rfl⟩ PySem.F.entry_list_index (PySem.F.args_list_index_2 _ _)
    (SeqAt.list_indexAt l vs.toArray n dd sl (.str k t) (isStrOf k) (ss.idxOf k) (by simpa [hln] using hj) (by omega) ?_ ?_) ⟨ho, fun y hy => (eq_isStrOf k t hi y (by simpa using hy)).at _ _, h⟩
  · show isStrOf k vs[ss.idxOf k] = true
    rw [isStr_at hi _ (by omega) hj]
    simpa using List.getElem_idxOf hj
  · intro j hjs hlt
    show isStrOf k vs[j] = false
    rw [isStr_at hi j (by simpa using hjs) (by omega)]
    exact ne_lt_idx hlt _
end
theorem range_sz (a b : Nat) : Builtin.Range.rangeSize (a : Int) (b : Int) 1 = ((b - a : Nat) : Int) := by
  unfold Builtin.Range.rangeSize
  rw [if_pos (by decide)]
  split
  · omega
  · omega
theorem fitsL (a : Nat) (h : a < 1000) : Builtin.Range.rangeFitsLong (a : Int) = true := by
  unfold Builtin.Range.rangeFitsLong
  rw [Bool.and_eq_true, decide_eq_true_eq, decide_eq_true_eq]
  omega
theorem range_small (a b : Nat) (h : b < 1000) (ha : a < 1000) : Builtin.Range.small (a : Int) (b : Int) 1 = true := by
  unfold Builtin.Range.small
  rw [range_sz]
  have h1 := fitsL a ha
  have h2 := fitsL b h
  have h3 := fitsL 1 (by decide)
  have h4 := fitsL (b - a) (by omega)
  have h5 : Builtin.Range.rangeFitsLong ((b : Int) + (1 - 1)) = true := by simpa using h2
  have h3' : Builtin.Range.rangeFitsLong 1 = true := h3
  simp [h1, h2, h3', h4, h5]
theorem range_small0 (b : Nat) (h : b < 1000) : Builtin.Range.small 0 (b : Int) 1 = true := range_small 0 b h (by decide)
theorem range_sz0 (b : Nat) : Builtin.Range.rangeSize 0 (b : Int) 1 = ((b : Nat) : Int) := by
  have := range_sz 0 b
  simpa using this
theorem rr_loc {prog : Program} {w : World} {A : Around} {E : Value → Shared → Prop} {s : Shared} {env : Env} {h₀ : Heap} {L : Addr} {m : Str → Option Value} {y : Str} {py : Pos} {Q : Flow → Shared → Prop} {J : CInv} {n : Nat} (hL : env.locals = L) (hy : env.kindOf y = some .local) (hp : (env.scope.kind == .class || (env.scope.kind == .module && env.locals != env.globals)) = false)
    (done : ∀ D h tk gs ys m' news', s.toks ≤ tk → Fr h₀ L h (fun z => if z = y then some (.ref D) else m z) → News h₀ L h ((D, lst ys ys.length) :: news') → (∀ p ∈ news', p.1 ≠ D) → J n ys m' news' gs → Q .next { s with heap := h, toks := tk, gens := gs }) :
    RROk h₀ L m (RRa prog w A env y py E Q) s J n := by
  subst hL
  exact rr_al hy hp done
end
section
set_option maxRecDepth 100000
noncomputable abbrev lamQ2 : Str := Str.ofString "_law_rows" ++ ".<locals>." ++ "<lambda>"
noncomputable def keyL (wt : List Str) (c d : Nat) : Bool := decide (d = c) || beats wt c d
theorem one_eq (d c : Nat) : ((⟨#[d]⟩ : Str) == ⟨#[c]⟩) = decide (d = c) := by
  rw [Bool.eq_iff_iff, beq_iff_eq, decide_eq_true_eq]
  constructor
  · intro h; injection h with h; simpa using h
  · rintro rfl; rfl
noncomputable abbrev inBody (p1 p2 p3 p4 p5 : Pos) : Expr := ((Expr.Name (Str.ofString "name") p1).BinOp Operator.Add (Expr.Name (Str.ofString "one") p2) p3).Compare [CmpOp.In] [Expr.Name (Str.ofString "wins") p4] p5
noncomputable abbrev orBody (q1 q2 q3 q4 p1 p2 p3 p4 p5 : Pos) : Expr := Expr.BoolOp BoolOp.Or [(Expr.Name (Str.ofString "one") q1).Compare [CmpOp.Eq] [Expr.Name (Str.ofString "name") q2] q3, inBody p1 p2 p3 p4 p5] q4
noncomputable abbrev orScope : Scope := { kind := ScopeKind.function, names := [(Str.ofString "one", NameKind.local), (Str.ofString "name", NameKind.free), (Str.ofString "wins", NameKind.free)], isGenerator := false, isCoroutine := false }
section
variable {w : World} {p : Program} {loose : List Str} {mean : ExcName → Option Value} {mg mb : Str → Option Value} {news : List (Addr × Obj)} {f c' cN cW W : Addr} {oc oN oW fo : Obj} {vs : Array Value} {t : Tok} {p1 p2 p3 p4 p5 q1 q2 q3 q4 pa : Pos} {pm ctv : Value} {wv : List Value} {wn : Nat} {wt : List Str} {c d : Nat} {tc tx : Tok}
set_option maxHeartbeats 4000000 in
theorem keyRow2 (hf : (f, fo) ∈ news) (hfo : fo = kla_obj (Str.ofString "<lambda>") lamQ2 (lamArgs pa) (inBody p1 p2 p3 p4 p5) orScope [(Str.ofString "wins", cW), (Str.ofString "name", cN)] pm c' ctv) (hc : (c', oc) ∈ news) (hd' : oc.data = .fields vs) (hv' : vs[1]? = some (.str lamQ2 t))
    (hN : (cN, oN) ∈ news) (hoN : oN.data = .cell (some (.str ⟨#[c]⟩ tc))) (hWc : (cW, oW) ∈ news) (hoW : oW.data = .cell (some (.ref W))) (hW : (W, lst wv wn) ∈ news) (hwt : StrsAre wv wt) : KeyIs w p loose mean mg mb news (.ref f) (.str (one d) tx) (fun v => v = .bool (beats wt c d)) := by
  intro A h₀ L m s Q F X N T hd ret
  refine wpAny_call (enterLam [(Str.ofString "one", .str (one d) tx)] F X N T hf hfo hc hd' hv' ?ro rfl ?lo rfl rfl rfl ?ce ?_)
  case ro => k_room
  case lo => exact locs rfl
  case ce => decide
  intro g' L' h' FG' F' N' X' T'
  k_steps
  refine of_stop (in_list_strs (vs := wv) (News.isList N' hW) hwt ?_)
  rw [show (⟨#[c]⟩ : Str) ++ one d = (⟨#[c, d]⟩ : Str) from rfl]
  k_steps
  exact ret _ _ _ rfl (by assumption) (by assumption)
set_option maxHeartbeats 4000000 in
theorem keyRow1 (hf : (f, fo) ∈ news) (hfo : fo = kla_obj (Str.ofString "<lambda>") lamQ2 (lamArgs pa) (orBody q1 q2 q3 q4 p1 p2 p3 p4 p5) orScope [(Str.ofString "wins", cW), (Str.ofString "name", cN)] pm c' ctv) (hc : (c', oc) ∈ news) (hd' : oc.data = .fields vs) (hv' : vs[1]? = some (.str lamQ2 t))
    (hN : (cN, oN) ∈ news) (hoN : oN.data = .cell (some (.str ⟨#[c]⟩ tc))) (hWc : (cW, oW) ∈ news) (hoW : oW.data = .cell (some (.ref W))) (hW : (W, lst wv wn) ∈ news) (hwt : StrsAre wv wt) : KeyIs w p loose mean mg mb news (.ref f) (.str (one d) tx) (fun v => v = .bool (keyL wt c d)) := by
  intro A h₀ L m s Q F X N T hd ret
  refine wpAny_call (enterLam [(Str.ofString "one", .str (one d) tx)] F X N T hf hfo hc hd' hv' ?ro rfl ?lo rfl rfl rfl ?ce ?_)
  case ro => k_room
  case lo => exact locs rfl
  case ce => decide
  intro g' L' h' FG' F' N' X' T'
  k_steps
  · have e := (by assumption : (one d == (⟨#[c]⟩ : Str)) = true)
    refine ret _ _ _ ?_ (by assumption) (by assumption)
    rw [e]
    rw [show one d = (⟨#[d]⟩ : Str) from rfl, one_eq] at e
    rw [keyL, e, Bool.true_or]
  · have e := (by assumption : (one d == (⟨#[c]⟩ : Str)) = false)
    rw [show one d = (⟨#[d]⟩ : Str) from rfl, one_eq] at e
    refine of_stop (in_list_strs (vs := wv) (News.isList N' hW) hwt ?_)
    rw [show (⟨#[c]⟩ : Str) ++ one d = (⟨#[c, d]⟩ : Str) from rfl]
    k_steps
    refine ret _ _ _ ?_ (by assumption) (by assumption)
    rw [keyL, e, Bool.false_or]
    rfl
end
noncomputable def insN (l : List Nat) (p x : Nat) : List Nat := l.take p ++ x :: l.drop p
noncomputable def lostI (wt : List Str) (l : List Nat) (c : Nat) : List Nat := (List.range l.length).filter fun k => beats wt (l.getD k 0) c
noncomputable def lowOf (wt : List Str) (l : List Nat) (c : Nat) : Nat := match lostI wt l c with | [] => 0 | k :: _ => k + 1
noncomputable def wonI (wt : List Str) (l : List Nat) (c : Nat) : List Nat := (List.range (l.length - lowOf wt l c)).filter fun j => beats wt c (l.getD (lowOf wt l c + j) 0)
noncomputable def highOf (wt : List Str) (l : List Nat) (c : Nat) : Option Nat := (wonI wt l c).getLast?.map (lowOf wt l c + ·)
noncomputable def rowB (wt : List Str) (c : Nat) (l : List Nat) (i : Nat) : Bool := !keyL wt c (l.getD i 0) && keyL wt c c
noncomputable def rowB' (wt : List Str) (c : Nat) (l : List Nat) (i : Nat) : Bool := !(!beats wt c c && beats wt c (l.getD i 0))
noncomputable def rowStep (wt : List Str) (t : List Nat × List Nat × List Nat) (c : Nat) : List Nat × List Nat × List Nat :=
  (insN t.1 (bis (rowB wt c t.1) t.1.length 0 t.1.length) c,
   insN t.2.1 (bis (rowB wt c t.2.1) t.2.1.length (lowOf wt t.2.1 c) ((highOf wt t.2.1 c).getD t.2.1.length)) c,
   insN t.2.2 (bis (rowB' wt c t.2.2) t.2.2.length (lowOf wt t.2.1 c) ((highOf wt t.2.1 c).getD t.2.1.length)) c)
noncomputable def rowsP (wt : List Str) (cs : List Nat) : List Nat × List Nat × List Nat := cs.foldl (rowStep wt) ([], [], [])
theorem insN_len (l : List Nat) (p x : Nat) : (insN l p x).length = l.length + 1 := by
  unfold insN
  rw [List.length_append, List.length_cons, List.length_take, List.length_drop]
  omega
theorem rows_len (wt : List Str) : ∀ (cs : List Nat) (t : List Nat × List Nat × List Nat) (n : Nat), t.1.length = n → t.2.1.length = n → t.2.2.length = n →
    (cs.foldl (rowStep wt) t).1.length = n + cs.length ∧ (cs.foldl (rowStep wt) t).2.1.length = n + cs.length ∧ (cs.foldl (rowStep wt) t).2.2.length = n + cs.length
  | [], t, n, h1, h2, h3 => ⟨h1, h2, h3⟩
  | c :: r, t, n, h1, h2, h3 => by
    have := rows_len wt r (rowStep wt t c) (n + 1) (by simp [rowStep, insN_len, h1]) (by simp [rowStep, insN_len, h2]) (by simp [rowStep, insN_len, h3])
    simpa [Nat.add_assoc, Nat.add_comm 1] using this
theorem rowsP_len (wt : List Str) (cs : List Nat) : (rowsP wt cs).1.length = cs.length ∧ (rowsP wt cs).2.1.length = cs.length ∧ (rowsP wt cs).2.2.length = cs.length := by
  have := rows_len wt cs ([], [], []) 0 rfl rfl rfl
  rw [Nat.zero_add] at this
  exact this
theorem map_getD {l : List Nat} {k : Nat} (h : k < l.length) : (l.map one).getD k default = one (l.getD k 0) := by
  simp [List.getD, List.getElem?_eq_getElem h]
noncomputable abbrev rowM (v1 v2 v3 v4 v5 v6 : Option Value) (D1 D3 : Addr) : Str → Option Value := mp [(Str.ofString "lost", v1), (Str.ofString "low", v2), (Str.ofString "won", v3), (Str.ofString "high", v4), (Str.ofString "told", v5), (Str.ofString "within", v6), (Str.ofString "plain", some (.ref D1)), (Str.ofString "right", some (.ref D3))]
noncomputable abbrev rowK : List Str := [Str.ofString "lost", Str.ofString "low", Str.ofString "won", Str.ofString "high", Str.ofString "told", Str.ofString "within", Str.ofString "plain", Str.ofString "right"]
noncomputable abbrev rowT (L' D1 D2 D3 : Addr) (p1 p2 p3 : List Value) (k1 k2 k3 : Nat) (oN oL oW : Obj) (ps : Array Value) (r : List (Addr × Obj)) : List (Addr × Obj) := (D3, lst p3 k3) :: (D2, lst p2 k2) :: (D1, lst p1 k1) :: (L' + 1 + 1 + 1, oN) :: (L' + 1 + 1, oL) :: (L' + 1, oW) :: (205, tabObj ps) :: r
noncomputable def ValS (P : Value → Prop) (s : Shared) (h₀ : Heap) (L : Addr) (m : Str → Option Value) (news : List (Addr × Obj)) (v : Value) (s' : Shared) : Prop := P v ∧ Same s h₀ L m news s'
theorem high_bd {wt : List Str} {l : List Nat} {c k : Nat} (h : highOf wt l c = some k) : lowOf wt l c ≤ k ∧ k < l.length := by
  unfold highOf at h
  rw [Option.map_eq_some_iff] at h
  obtain ⟨j, hj, rfl⟩ := h
  have hm := List.mem_of_getLast? hj
  unfold wonI at hm
  have := List.mem_range.mp (List.mem_filter.mp hm).1
  omega
noncomputable def OptIs (o : Option Nat) (v : Value) : Prop := match o with | none => v = .none | some k => ∃ te, v = .int (k : Int) te
theorem last_getD (l : List Nat) (f : Nat → Int) (h : l ≠ []) : (l.map f).getD ((-1 : Int) + ((l.map f).length : Int)).toNat 0 = f (l.getLast h) := by
  have hp := List.length_pos_iff.mpr h
  have e : ((-1 : Int) + ((l.map f).length : Int)).toNat = l.length - 1 := by rw [List.length_map]; generalize l.length = n; clear hp; omega
  rw [e, List.getLast_eq_getElem]
  simp [List.getD, List.getElem?_eq_getElem (show l.length - 1 < l.length from Nat.sub_lt hp (by decide))]
noncomputable def IntIs (k : Nat) (v : Value) : Prop := ∃ te, v = .int (k : Int) te
theorem range2_led {prog : Program} {w : World} {A : Around} {E : Value → Shared → Prop} {s : Shared} {h₀ : Heap} {L : Addr} {m : Str → Option Value} {news : List (Addr × Obj)} {a b : Int} {t u : Tok} {Q : Value → Shared → Prop} (F : Fr h₀ L s.heap m) (N : News h₀ L s.heap news)
    (h : ∀ r o h' tk, (∃ t₁ u₁ v₁, o = ({ cls := .type "range", dict := none, data := .fields #[.int a t₁, .int b u₁, .int 1 v₁], slots := #[] } : Obj)) → Fr h₀ L h' m → News h₀ L h' ((r, o) :: news) → Blw r news → Q (.ref r) { s with heap := h', toks := tk }) :
    wpAny (model prog w) A (call (.type "range") [.int a t, .int b u]) Q E s := by
  refine range2_rows F N fun h' tk t₁ u₁ v₁ hr F' N' old => h _ _ h' tk ⟨t₁, u₁, v₁, rfl⟩ F' (fun p hp => ?_) fun q hq => Heap.lt_size (N q hq).1
  rcases List.mem_cons.mp hp with rfl | hp
  · exact ⟨hr, Nat.ne_of_gt F.ns.lt, next_is_new F⟩
  · exact N' p hp
end
section
set_option hygiene false
local macro_rules | `(tactic| walk_at "call type:range") => `(tactic| (k_here; (with_reducible show wpAny _ _ (call (Value.type _) [Value.int _ _, Value.int _ _]) _ _ _); refine stop_of ?_))
local macro_rules | `(tactic| walk_at "compareOp NotIn int ref") => `(tactic| (k_here; refine stop_of ?_))
local macro_rules | `(tactic| walk_at "call builtin:list.index") => `(tactic| (k_here; refine stop_of ?_))
set_option hygiene true
section
set_option maxRecDepth 100000
noncomputable def forBody : Stmt → List Stmt
  | .For _ _ b _ _ => b
  | _ => []
noncomputable abbrev rowBody : List Stmt := ((dBody (stmtAt 21))[1]?.map forBody).getD []
noncomputable abbrev rowEnv (L' : Addr) : Env := envX (Str.ofString "_law_rows") (dScope (stmtAt 21)) L' 208 (.ref 207) (cellsFrom (L' + 1) (dScope (stmtAt 21)).names [])
theorem rowNe : rowBody.drop 5 ≠ [] := List.cons_ne_nil _ _
noncomputable abbrev rowSt : Stmt := (rowBody.drop 5).head rowNe
set_option maxHeartbeats 1000000 in
theorem rowsTail {w : World} {p : Program} {loose : List Str} {mean : ExcName → Option Value} {mg mb : Str → Option Value} {ad au : Nat} {af : Option (List Env)} {ag : Option (List Code)} {g' h : Heap} {L' D1 D2 D3 DT : Addr} {s : Shared} {Q : Flow → Shared → Prop} {v1 v3 v6 : Option Value} {lo hi i c : Nat} {tl tc : Tok} {vh : Value} {rst : List (Addr × Obj)} {u2 u3 : List Value} {n2 n3 nT : Nat} {s2 s3 : List Str} {oL oN : Obj}
    (F : Fr g' L' h (rowM v1 (some (.int (lo : Nat) tl)) v3 (some vh) (some (.ref DT)) v6 D1 D3)) (X : (KK w.params).In g') (N : News g' L' h ((DT, lst [.none, .none, .none] nT) :: (D3, lst u3 n3) :: (D2, lst u2 n2) :: (L' + 1 + 1 + 1, oN) :: (L' + 1 + 1, oL) :: rst)) (T : Top p loose mean mg mb g') (hd : ad + 60 < recursionLimit) (hu : au + 400 < cLine)
    (dL : oL.data = .cell (some (.ref D2))) (dN : oN.data = .cell (some (.str (one c) tc)))
    (hs2 : StrsAre u2 s2) (hs3 : StrsAre u3 s3) (hl2 : s2.length = i + 1) (hl3 : s3.length = i + 1) (hi5 : i < 5) (hm2 : one c ∈ s2) (hm3 : one c ∈ s3) (hlo : lo ≤ hi) (hhi : hi ≤ i) (hv : (∃ th, vh = .int hi th) ∨ (vh = .none ∧ hi = i))
    (b2 : lo ≤ s2.idxOf (one c) ∧ s2.idxOf (one c) ≤ hi) (b3 : lo ≤ s3.idxOf (one c) ∧ s3.idxOf (one c) ≤ hi)
    (ret : ∀ h' tk v6, Fr g' L' h' (rowM v1 (some (.int (lo : Nat) tl)) v3 (some vh) (some (.ref DT)) v6 D1 D3) → News g' L' h' ((DT, lst [.none, .none, .none] nT) :: (D3, lst u3 n3) :: (D2, lst u2 n2) :: (L' + 1 + 1 + 1, oN) :: (L' + 1 + 1, oL) :: rst) → Q .next { s with heap := h', toks := tk }) (hsh : s.heap = h) :
    wpAny (model PG w) (Around.deeper ⟨none, ad, af, ag, au⟩ (rowEnv L')) (exec rowSt (rowEnv L')) (fun f s' => match f with | .next => wpAny (model PG w) (Around.deeper ⟨none, ad, af, ag, au⟩ (rowEnv L')) (execs (rowBody.drop 6) (rowEnv L')) Q NoE s' | f => Q f s') NoE s := by
  subst hsh
  have est : rowSt = Stmt.Assign _ _ _ := rfl
  rw [est]
  walk_at "seal24"
  k_steps
  have key : ∀ r oR h' tk b, (∃ t₁ u₁ w₁, oR = ({ cls := .type "range", dict := none, data := .fields #[.int (lo : Nat) t₁, .int (b : Nat) u₁, .int 1 w₁], slots := #[] } : Obj)) → hi + 1 = b → Fr g' L' h' (rowM v1 (some (.int (lo : Nat) tl)) v3 (some vh) (some (.ref DT)) v6 D1 D3) → News g' L' h' ((r, oR) :: (DT, lst [.none, .none, .none] nT) :: (D3, lst u3 n3) :: (D2, lst u2 n2) :: (L' + 1 + 1 + 1, oN) :: (L' + 1 + 1, oL) :: rst) →
      wpAny (model PG w) (Around.deeper ⟨none, ad, af, ag, au⟩ (rowEnv L')) (storeName (rowEnv L') (Str.ofString "within") (.ref r)) (fun _ s' => wpAny (model PG w) (Around.deeper ⟨none, ad, af, ag, au⟩ (rowEnv L')) (execs (rowBody.drop 6) (rowEnv L')) Q NoE s') NoE { s with heap := h', toks := tk } := by
    rintro r oR h' tk b ⟨t₁, u₁, w₁, rfl⟩ rfl F1 N1
    k_steps
    rename Fr g' L' _ _ => F3
    rename News g' L' _ _ => N3
    refine of_stop (ne_dataH (reads_list_at (News.get N3 (by walk_at "my mem" : (DT, lst [.none, .none, .none] nT) ∈ _)) rfl rfl (.cons .none (.cons .none (.cons .none .nil)))) (reads_list_at (News.get N3 List.mem_cons_self) rfl rfl (.cons .none (.cons .none (.cons .none .nil)))) rfl rfl (by walk_at "my units") ?_)
    rw [show (!PyData.eqv (.list [.none, .none, .none]) (.list [.none, .none, .none])) = false from rfl]
    k_steps
    refine of_stop (index_strs (News.isList N3 (by walk_at "my mem")) hs2 (by omega) hm2 ?_)
    k_steps
    rename Fr g' L' _ _ => F4
    rename News g' L' _ _ => N4
    refine of_stop (notIn_range (a := (lo : Nat)) (b := ((hi + 1 : Nat) : Int)) (t := t₁) (u := u₁) (v := w₁) (News.get N4 (by walk_at "my mem")) ?_)
    rw [decide_eq_true (show ((lo : Nat) : Int) ≤ ((s2.idxOf (one c) : Nat) : Int) ∧ ((s2.idxOf (one c) : Nat) : Int) < ((hi + 1 : Nat) : Int) by omega), Bool.not_true]
    k_steps
    refine of_stop (index_strs (News.isList N4 (by walk_at "my mem")) hs3 (by omega) hm3 ?_)
    k_steps
    rename Fr g' L' _ _ => F5
    rename News g' L' _ _ => N5
    refine of_stop (notIn_range (a := (lo : Nat)) (b := ((hi + 1 : Nat) : Int)) (t := t₁) (u := u₁) (v := w₁) (News.get N5 (by walk_at "my mem")) ?_)
    rw [decide_eq_true (show ((lo : Nat) : Int) ≤ ((s3.idxOf (one c) : Nat) : Int) ∧ ((s3.idxOf (one c) : Nat) : Int) < ((hi + 1 : Nat) : Int) by omega), Bool.not_true]
    k_steps
    rename Fr g' L' _ _ => F6
    rename News g' L' _ _ => N6
    simp only [mp_set] at F6
    exact ret _ _ (some (.ref r)) (canon rowK F6 rfl) (News.sub N6 (by walk_at "sub"))
  refine of_stop (IfExp_ ?_)
  rcases hv with ⟨th, rfl⟩ | ⟨rfl, rfl⟩
  · k_steps
    rename Fr g' L' _ _ => F4
    rename News g' L' _ _ => N4
    rw [show ((hi : Int) + 1) = ((hi + 1 : Nat) : Int) from rfl]
    refine of_stop (range2_led F4 N4 ?_)
    intro r o h' tk' ho F5 N5 l5
    exact key r o h' tk' (hi + 1) ho rfl F5 N5
  · have hu2 : u2.length = hi + 1 := by rw [StrsAre.length hs2]; exact hl2
    k_steps
    rename Fr g' L' _ _ => F4
    rename News g' L' _ _ => N4
    refine of_stop (range2_led F4 N4 ?_)
    intro r o h' tk' ho F5 N5 l5
    exact key r o h' tk' u2.length ho hu2.symm F5 N5
end
end
section
set_option hygiene false
local macro_rules | `(tactic| walk_at "exec Assign") => `(tactic| (k_here; (with_reducible show wpAny _ _ (exec (Stmt.Assign [Expr.Name _ _] (Expr.IfExp (Expr.Compare _ [CmpOp.Is] _ _) (Expr.Call _ [_, _] _ _) _ _) _) _) _ _ _); refine stop_of ?_))
set_option hygiene true
section
set_option maxRecDepth 100000
theorem insN_map (l : List Nat) (p x : Nat) : (insN l p x).map one = insS (l.map one) p (one x) := by
  simp [insN, insS]
theorem row_mem {wt : List Str} : ∀ (cs : List Nat) (t : List Nat × List Nat × List Nat) (S : Nat → Prop), (∀ c ∈ cs, S c) → (∀ d ∈ t.1, S d) ∧ (∀ d ∈ t.2.1, S d) ∧ (∀ d ∈ t.2.2, S d) →
    (∀ d ∈ (cs.foldl (rowStep wt) t).1, S d) ∧ (∀ d ∈ (cs.foldl (rowStep wt) t).2.1, S d) ∧ (∀ d ∈ (cs.foldl (rowStep wt) t).2.2, S d)
  | [], _, _, _, h => h
  | c :: r, t, S, hc, h => by
    refine row_mem r (rowStep wt t c) S (fun d hd => hc d (List.mem_cons_of_mem _ hd)) ?_
    have k : ∀ (l : List Nat) (p : Nat), (∀ d ∈ l, S d) → ∀ d ∈ insN l p c, S d := fun l p hl d hd => by
      unfold insN at hd
      rcases List.mem_append.mp hd with hd | hd
      · exact hl d (List.mem_of_mem_take hd)
      · rcases List.mem_cons.mp hd with rfl | hd
        · exact hc _ List.mem_cons_self
        · exact hl d (List.mem_of_mem_drop hd)
    exact ⟨k _ _ h.1, k _ _ h.2.1, k _ _ h.2.2⟩
theorem idx_app : ∀ {a b : List Str} {x : Str}, x ∉ a → (a ++ x :: b).idxOf x = a.length
  | [], b, x, _ => by simp
  | y :: r, b, x, h => by
    have hne : (y == x) = false := by
      rw [beq_eq_false_iff_ne]
      exact fun e => h (e ▸ List.mem_cons_self)
    rw [List.cons_append, List.idxOf_cons, hne, cond_false, idx_app fun m => h (List.mem_cons_of_mem _ m), List.length_cons]
theorem idx_ins {l : List Str} {p : Nat} {x : Str} (h : x ∉ l) (hp : p ≤ l.length) : (insS l p x).idxOf x = p ∧ x ∈ insS l p x := by
  unfold insS
  refine ⟨?_, by simp⟩
  rw [idx_app (fun m => h (List.mem_of_mem_take m)), List.length_take]
  omega
theorem abcde_l : (Str.ofString "abcde").cps.toList = [97, 98, 99, 100, 101] := by decide +kernel
theorem abcde_at {i c : Nat} (h : (Str.ofString "abcde").cps[i]? = some c) : ([97, 98, 99, 100, 101] : List Nat)[i]? = some c := by
  rw [← abcde_l]; simpa using h
theorem abcde_new {i c : Nat} (h : ([97, 98, 99, 100, 101] : List Nat)[i]? = some c) : c ∉ ([97, 98, 99, 100, 101] : List Nat).take i := by
  have : ∀ i : Fin 5, ([97, 98, 99, 100, 101] : List Nat).getD i.val 0 ∉ ([97, 98, 99, 100, 101] : List Nat).take i.val := by decide
  have hi : i < 5 := (List.getElem?_eq_some_iff.mp h).1
  have e := this ⟨i, hi⟩
  rwa [show ([97, 98, 99, 100, 101] : List Nat).getD i 0 = c by simp [List.getD, h]] at e
inductive RowJ (G : Array GenState) (wt : List Str) (D1 D2 D3 L' : Addr) (oL1 oW : Obj) (ps : Array Value) (rest : List (Addr × Obj)) (i : Nat) (m' : Str → Option Value) (nw : List (Addr × Obj)) (gs : Array GenState) : Prop
  | mk (_ : gs = G) (v1 v2 v3 v4 v5 v6 : Option Value) (t : List Nat × List Nat × List Nat) (k1 k2 k3 : Nat) (p1 p2 p3 : List Value) (oN' : Obj) (cv : Option Value) (ps' : Array Value) (xs : List (Addr × Obj)) (_ : m' = rowM v1 v2 v3 v4 v5 v6 D1 D3)
    (_ : nw = (D3, lst p3 k3) :: (D2, lst p2 k2) :: (D1, lst p1 k1) :: (L' + 1 + 1 + 1, oN') :: (L' + 1 + 1, oL1) :: (L' + 1, oW) :: (205, tabObj ps') :: (xs ++ rest))
    (_ : t = rowsP wt (([97, 98, 99, 100, 101] : List Nat).take i)) (_ : StrsAre p1 (t.1.map one)) (_ : StrsAre p2 (t.2.1.map one)) (_ : StrsAre p3 (t.2.2.map one)) (_ : oN'.data = .cell cv) (_ : LamOK lamQ2 ps' (xs ++ rest)) (_ : Abv D3 xs) (_ : ∀ a o, (a, o) ∈ (205, tabObj ps) :: rest → Abv a xs) : RowJ G wt D1 D2 D3 L' oL1 oW ps rest i m' nw gs
set_option maxHeartbeats 4000000 in
theorem rowsC {w : World} {p : Program} {loose : List Str} {mean : ExcName → Option Value} {mg mb : Str → Option Value} {A : Around} {h₀ : Heap} {L : Addr} {m : Str → Option Value} {rest : List (Addr × Obj)} {s : Shared} {Q : Value → Shared → Prop}
    {ps : Array Value} {W : Addr} {wv : List Value} {wn : Nat} {wt : List Str}
    (F : Fr h₀ L s.heap m) (X : (KK w.params).In h₀) (N : News h₀ L s.heap ((205, tabObj ps) :: rest)) (T : Top p loose mean mg mb h₀) (hd : A.depth + 60 < recursionLimit) (hu : A.units + 500 < cLine) (hh : A.handled = none)
    (hW : (W, lst wv wn) ∈ rest) (off : Off 205 rest) (LO : LamOK lamQ2 ps rest) (hwv : StrsAre wv wt)
    (ret : ∀ h' tk O D1 D2 D3 q1 q2 q3 n1 n2 n3 n0 ps' xs, Fr h₀ L h' m → News h₀ L h' ((O, lst [.ref D1, .ref D2, .ref D3] n0) :: (D3, lst q3 n3) :: (D2, lst q2 n2) :: (D1, lst q1 n1) :: (205, tabObj ps') :: (xs ++ rest)) →
      StrsAre q1 ((rowsP wt [97, 98, 99, 100, 101]).1.map one) → StrsAre q2 ((rowsP wt [97, 98, 99, 100, 101]).2.1.map one) → StrsAre q3 ((rowsP wt [97, 98, 99, 100, 101]).2.2.map one) → LamOK lamQ2 ps' (xs ++ rest) → (∀ a o, (a, o) ∈ (205, tabObj ps) :: rest → Abv a xs) →
      Blw D1 ((205, tabObj ps) :: rest) → @LT.lt Nat _ D1 D2 → @LT.lt Nat _ D2 D3 → @LT.lt Nat _ D3 O → Abv D3 xs → Q (.ref O) { s with heap := h', toks := tk }) :
    wpAny (model PG w) A (call (.ref 208) [.ref W]) Q NoE s := by
  obtain ⟨ah, ad, af, ag, au⟩ := A
  obtain rfl : ah = none := hh
  replace hd : ad + 60 < recursionLimit := hd
  refine wpAny_call (enterC [(Str.ofString "wins", .ref W)] F X N T rfl ?cd ?ro ?bd ?lo ?ce rfl rfl rfl [] (fun _ => rfl) ?_)
  case cd => k_is
  case ro => k_room
  case bd => first | exact BindsTo.of_eq rfl | exact binds_K (by k_in) rfl (by k_is) rfl rfl rfl
  case lo => intro n; exact kinds_of ⟨.inr ⟨rfl, rfl⟩, trivial⟩
  case ce => decide +kernel
  intro g' L' h' tk' cells FG' F' N' Y' X' T' l1
  have sS : SubAt := trivial
  walk_at "seal24"
  obtain ⟨oN, oL, oW, rfl, dN, dL, dW⟩ := CellsAre.three Y'
  replace dN : oN.data = .cell none := dN
  replace dL : oL.data = .cell none := dL
  replace dW : oW.data = .cell (some (.ref W)) := dW
  simp only [List.cons_append, List.nil_append] at N'
  replace l1 : Blw L' ((205, tabObj ps) :: rest) := l1
  simp only [blw_cons] at l1
  obtain ⟨l1a, l1b⟩ := l1
  k_steps
  rename_i D1 hh1 lD1 D2 hh2 lD2 D3 hh3 lD3 Dt hh4 lDt hh5 hh6 hh7 oL1 dL1 hh8 F8 N8
  refine of_stop (for_top ?_)
  k_steps
  simp only [mp_set] at F8
  have N9 := News.sub N8 (b := (D3, lst [] 0) :: (D2, lst [] 0) :: (D1, lst [] 0) :: (L' + 1 + 1 + 1, oN) :: (L' + 1 + 1, oL1) :: (L' + 1, oW) :: (205, tabObj ps) :: ([] ++ rest)) (by walk_at "sub")
  refine of_stop (for_it (src_str rfl F8) F8 N9 (RowJ s.gens wt D1 D2 D3 L' oL1 oW ps rest)
    ⟨rfl, none, none, none, none, none, none, _, 0, 0, 0, [], [], [], oN, none, ps, [], mp_eq (by walk_at "alleq"), rfl, rfl, .nil, .nil, .nil, dN, LO, abv_nil _, fun _ _ _ => abv_nil _⟩ ?_ ?_ (fun p hp => (List.not_mem_nil hp).elim))
  · rintro i v m₁ news₁ h tk gs I oI hi ht ⟨c, tc, hc, rfl, -, -⟩ ⟨rfl, v1, v2, v3, v4, v5, v6, t, k1, k2, k3, p1, p2, p3, oN', cv, ps', xs, rfl, rfl, ht', hp1, hp2, hp3, dN', LO', xsD, xsr⟩ F1 N1 o1 b1
    walk_at "seal24"
    have hi5 : i < 5 := hi
    obtain ⟨ha1, ha2, ha3⟩ := rowsP_len wt (([97, 98, 99, 100, 101] : List Nat).take i)
    rw [← ht', List.length_take, Nat.min_eq_left (by simp; omega)] at ha1 ha2 ha3
    have hq1 : p1.length = i := by rw [StrsAre.length hp1, List.length_map]; exact ha1
    have hq2 : p2.length = i := by rw [StrsAre.length hp2, List.length_map]; exact ha2
    have hq3 : p3.length = i := by rw [StrsAre.length hp3, List.length_map]; exact ha3
    replace F1 : Fr g' L' h _ := F1
    replace N1 : News g' L' h _ := N1
    replace o1 : Off I _ := o1
    simp only [off_cons, off_append] at o1
    obtain ⟨oi1, oi2, oi3, oi4, oi5, oi6, oi7, oix, oir⟩ := o1
    obtain ⟨lD3a, lD3b, lD3c⟩ := lD3
    obtain ⟨lD2a, lD2b⟩ := lD2
    k_steps
    rename_i hx2 oN2 F2 N2 dN2
    refine of_stop (comp_topA (by with_unfolding_all rfl) (by with_unfolding_all rfl) rfl (by decide) ?_)
    k_steps
    rename Fr g' L' _ _ => F3
    rename News g' L' _ _ => N3
    refine of_stop (comp_pure (n := p2.length) (src_range rfl F3 (by assumption) (range_small0 _ (by omega)) (range_sz0 _)) F3 N3 (by omega) (fun k => beats wt (t.2.1.getD k 0) c) (fun k v => ∃ t', v = .int (k : Nat) t') ?_ ?_ (fun p hp => (List.not_mem_nil hp).elim))
    · rintro k v m₂ Ic C D oIc oC ys h tk₀ tk hk htk ⟨tv, hv⟩ hlk hoC hm2 F4 N4
      rw [Int.zero_add] at hv
      subst hv
      obtain ⟨vk, hvk⟩ : ∃ vk, p2[k]? = some vk := ⟨_, List.getElem?_eq_getElem hk⟩
      obtain ⟨tvk, evk, -⟩ := StrsAre.get hp2 hvk
      rw [show (t.2.1.map one).getD k default = one (t.2.1.getD k 0) from map_getD (by omega)] at evk
      refine tests_one ?_
      k_steps
      refine of_stop (item_listL (l := p2) (News.isList N4 (by walk_at "my mem")) (by omega) (by omega) (by rw [Int.toNat_natCast]; exact hvk) ?_)
      rw [evk]
      k_steps
      refine of_stop (in_list_strs (vs := wv) (News.isList N4 (by walk_at "my mem")) hwv ?_)
      rw [show one (t.2.1.getD k 0) ++ ⟨#[c]⟩ = (⟨#[t.2.1.getD k 0, c]⟩ : Str) from rfl]
      k_steps
      all_goals exact Same.intro (by assumption) (by assumption) (by walk_at "sub")
    · refine rr_loc (by rfl) (by rfl) (by rfl) ?_
      intro D h tk gs ys m' nw htk F4 N4 hoD
      rintro ⟨rfl, rfl, hp⟩
      have hlI : (List.range p2.length).filter (fun k => beats wt (t.2.1.getD k 0) c) = lostI wt t.2.1 c := by rw [hq2, ← ha2]; rfl
      rw [hlI] at hp
      have hys := hp.ints (g := fun k => (k : Int)) fun _ _ q => q
      have hylen : ys.length < 100000 := by
        rw [hp.len]; unfold lostI
        exact Nat.lt_of_le_of_lt (List.length_filter_le _ _) (by rw [List.length_range]; omega)
      replace hoD : Off D _ := hoD
      k_steps
      rename Fr g' L' _ _ => F5
      rename News g' L' _ _ => N5
      simp only [mp_set] at F5
      have F6 : Fr g' L' h (rowM (some (.ref D)) v2 v3 v4 v5 v6 D1 D3) := canon rowK F5 rfl
      refine of_stop (wpAny_mono (Q := ValS (IntIs (lowOf wt t.2.1 c)) { s with heap := h, toks := tk } g' L' (rowM (some (.ref D)) v2 v3 v4 v5 v6 D1 D3) ((D, lst ys ys.length) :: (I, oI) :: rowT L' D1 D2 D3 p1 p2 p3 k1 k2 k3 oN2 oL1 oW ps' (xs ++ rest))) ?_ ?_ fun _ _ e => e)
      · refine IfExp_ ?_
        k_steps
        refine of_stop (ne_ints (ms := []) (ys := []) (nb := 0) (by assumption) (by walk_at "my mem") (by walk_at "my mem") hys .nil (by walk_at "my units") ?_)
        rcases hli : lostI wt t.2.1 c with _ | ⟨k0, kr⟩
        · rw [show (!decide (List.map (fun k : Nat => (k : Int)) ([] : List Nat) = [])) = false from rfl]
          k_steps
          exact ⟨⟨_, by rw [lowOf, hli]; rfl⟩, Same.intro (by assumption) (by assumption) (by walk_at "sub")⟩
        · rw [show (!decide (List.map (fun k : Nat => (k : Int)) (k0 :: kr) = [])) = true from by simp]
          obtain ⟨t0, ht0⟩ := hys.get 0 (k0 : Int) (by rw [hli]; rfl)
          k_steps
          refine of_stop (item_listL (l := ys) (News.isList (by assumption : News g' L' _ _) (by walk_at "my mem")) (by omega) (by omega) ht0 ?_)
          k_steps
          exact ⟨⟨_, by rw [lowOf, hli]; rfl⟩, Same.intro (by assumption) (by assumption) (by walk_at "sub")⟩
      rintro _ _ ⟨⟨tl, rfl⟩, hl, tkl, rfl, F7, N7⟩
      dsimp only
      k_steps
      have hlle : lowOf wt t.2.1 c ≤ i := by
        unfold lowOf
        rcases hli : lostI wt t.2.1 c with _ | ⟨k0, kr⟩
        · exact Nat.zero_le _
        · have : k0 ∈ lostI wt t.2.1 c := by rw [hli]; exact List.mem_cons_self
          have := (List.mem_range.mp (List.mem_filter.mp this).1)
          show k0 + 1 ≤ i
          omega
      refine of_stop (comp_topA (by with_unfolding_all rfl) (by with_unfolding_all rfl) rfl (by decide) ?_)
      k_steps
      rename Fr g' L' _ _ => F8
      rename News g' L' _ _ => N8
      have hp2k : p2.length ≤ 1000 := by rw [hq2]; exact Nat.le_of_lt (Nat.lt_trans hi5 (by decide))
      have hp2z : p2.length - lowOf wt t.2.1 c < 100000 := Nat.lt_of_le_of_lt (Nat.sub_le _ _) (Nat.lt_of_le_of_lt hp2k (by decide))
      have htz : t.2.1.length - lowOf wt t.2.1 c < 100000 := by rw [ha2, ← hq2]; exact hp2z
      refine of_stop (comp_pure (n := p2.length - lowOf wt t.2.1 c) (src_range rfl F8 (by assumption) (range_small _ _ (by omega) (by omega)) (range_sz _ _)) F8 N8 (by omega) (fun j => beats wt c (t.2.1.getD (lowOf wt t.2.1 c + j) 0)) (fun j v => ∃ t', v = .int ((lowOf wt t.2.1 c + j : Nat) : Int) t') ?_ ?_ (fun p hp => (List.not_mem_nil hp).elim))
      · rintro k v m₂ Ic C D' oIc oC ys' h tk₀ tk hk htk ⟨tv, hv⟩ hlk hoC hm2 F4 N4
        have hv' : v = .int ((lowOf wt t.2.1 c + k : Nat) : Int) tv := by rw [hv]; simp
        subst hv'
        have hkp : lowOf wt t.2.1 c + k < p2.length := Nat.add_lt_of_lt_sub' hk
        have hk63 := lt63 (Nat.le_of_lt (Nat.lt_of_lt_of_le hkp hp2k))
        obtain ⟨vk, hvk⟩ : ∃ vk, p2[lowOf wt t.2.1 c + k]? = some vk := ⟨_, List.getElem?_eq_getElem hkp⟩
        obtain ⟨tvk, evk, -⟩ := StrsAre.get hp2 hvk
        rw [map_getD (by rw [ha2, ← hq2]; exact hkp)] at evk
        refine tests_one ?_
        k_steps
        refine of_stop (item_listL (l := p2) (News.isList N4 (by walk_at "my mem")) (Int.natCast_nonneg _) hk63 (by rw [Int.toNat_natCast]; exact hvk) ?_)
        rw [evk]
        k_steps
        refine of_stop (in_list_strs (vs := wv) (News.isList N4 (by walk_at "my mem")) hwv ?_)
        rw [show (⟨#[c]⟩ : Str) ++ one (t.2.1.getD (lowOf wt t.2.1 c + k) 0) = (⟨#[c, t.2.1.getD (lowOf wt t.2.1 c + k) 0]⟩ : Str) from rfl]
        k_steps
        all_goals exact Same.intro (by assumption) (by assumption) (by walk_at "sub")
      · refine rr_loc (by rfl) (by rfl) (by rfl) ?_
        intro D' h tk gs ys' m' nw htk F4 N4 hoD'
        rintro ⟨rfl, rfl, hp'⟩
        have hwI : (List.range (p2.length - lowOf wt t.2.1 c)).filter (fun j => beats wt c (t.2.1.getD (lowOf wt t.2.1 c + j) 0)) = wonI wt t.2.1 c := by rw [hq2, ← ha2]; rfl
        rw [hwI] at hp'
        have hys' := hp'.ints (g := fun j => ((lowOf wt t.2.1 c + j : Nat) : Int)) fun _ _ q => q
        have hylen' : ys'.length < 100000 := by
          rw [hp'.len]; unfold wonI
          exact Nat.lt_of_le_of_lt (List.length_filter_le _ _) (by rw [List.length_range]; omega)
        replace hoD' : Off D' _ := hoD'
        k_steps
        rename Fr g' L' _ _ => F9
        rename News g' L' _ _ => N9
        simp only [mp_set] at F9
        have F10 : Fr g' L' h (rowM (some (.ref D)) (some (.int (lowOf wt t.2.1 c : Nat) tl)) (some (.ref D')) v4 v5 v6 D1 D3) := canon rowK F9 rfl
        refine of_stop (wpAny_mono (Q := ValS (OptIs (highOf wt t.2.1 c)) { s with heap := h, toks := tk } g' L' (rowM (some (.ref D)) (some (.int (lowOf wt t.2.1 c : Nat) tl)) (some (.ref D')) v4 v5 v6 D1 D3) ((D', lst ys' ys'.length) :: (D, lst ys ys.length) :: (I, oI) :: rowT L' D1 D2 D3 p1 p2 p3 k1 k2 k3 oN2 oL1 oW ps' (xs ++ rest))) ?_ ?_ fun _ _ e => e)
        · refine IfExp_ ?_
          k_steps
          refine of_stop (ne_ints (ms := []) (ys := []) (nb := 0) (by assumption) (by walk_at "my mem") (by walk_at "my mem") hys' .nil (by walk_at "my units") ?_)
          rcases hwi : wonI wt t.2.1 c with _ | ⟨k0, kr⟩
          · rw [List.map_nil, decide_eq_true rfl, Bool.not_true]
            k_steps
            exact ⟨by rw [highOf, hwi]; rfl, Same.intro (by assumption) (by assumption) (by walk_at "sub")⟩
          · rw [List.map_cons, decide_eq_false (by simp), Bool.not_false]
            k_steps
            refine of_stop (item_list_ints_neg (News.isList (by assumption : News g' L' _ _) (by walk_at "my mem")) hys' (by decide) (by rw [hwi]; simp; omega) (by decide) fun th => ?_)
            rw [last_getD _ _ (by rw [hwi]; simp)]
            k_steps
            exact ⟨by rw [highOf, List.getLast?_eq_some_getLast (by rw [hwi]; simp)]; exact ⟨_, rfl⟩, Same.intro (by assumption) (by assumption) (by walk_at "sub")⟩
        rintro vh _ ⟨hvh, hl2, tkl2, rfl, F11, N11⟩
        simp only [rowT, off_cons, off_append] at hoD hoD'
        obtain ⟨hd1, hd2, hd3, hd4, hd5, hd6, hd7, hd8, hd9, hd10⟩ := hoD
        obtain ⟨he0, he1, he2, he3, he4, he5, he6, he7, he8, he9, he10⟩ := hoD'
        have hhi : ∃ hi : Nat, hi = (highOf wt t.2.1 c).getD t.2.1.length ∧ lowOf wt t.2.1 c ≤ hi ∧ hi ≤ i ∧ ((∃ th, vh = .int hi th) ∨ (vh = .none ∧ hi = i)) := by
          rcases hho : highOf wt t.2.1 c with _ | k
          · rw [hho] at hvh
            exact ⟨_, rfl, by rw [Option.getD_none]; omega, by rw [Option.getD_none]; omega, .inr ⟨hvh, by rw [Option.getD_none]; omega⟩⟩
          · rw [hho] at hvh
            have := high_bd hho
            exact ⟨_, rfl, this.1, by rw [Option.getD_some]; omega, .inl hvh⟩
        obtain ⟨hi, hie, hi1, hi2, hi3⟩ := hhi
        dsimp only
        k_steps
        rename Fr g' L' _ _ => F12
        rename News g' L' _ _ => N12
        refine of_stop (lam_eval F12 (News.sub N12 (b := (205, tabObj ps') :: (D', lst ys' ys'.length) :: (D, lst ys ys.length) :: (I, oI) :: (D3, lst p3 k3) :: (D2, lst p2 k2) :: (D1, lst p1 k1) :: (L' + 1 + 1 + 1, oN2) :: (L' + 1 + 1, oL1) :: (L' + 1, oW) :: (xs ++ rest)) (by walk_at "sub")) T' (codeHd_of_K X' (by kernel_rfl)) (by walk_at "my off") LO' (by walk_at "sub") ?_ (by with_unfolding_all rfl) rfl rfl)
        intro f1 fo1 c1 ok1 vs1 t1 ctv1 ps1 xs1 h4 tk4 hfo1 F13 N13 LO1 hc1 hd1' hv1 nf1 xo1
        simp only [blw_cons, blw_append] at nf1
        obtain ⟨nf1a, nf1x, nf1b, nf1c, nf1d, nf1e, nf1f, nf1g, nf1h, nf1i, nf1j, nf1y, -⟩ := nf1
        have aD3 := xo1 D3 _ (by walk_at "my mem")
        k_steps
        have sub1 : ∀ p ∈ xs1 ++ (xs ++ rest), p ∈ (D1, lst p1 k1) :: (f1, fo1) :: (205, tabObj ps1) :: (D', lst ys' ys'.length) :: (D, lst ys ys.length) :: (I, oI) :: (D3, lst p3 k3) :: (D2, lst p2 k2) :: (L' + 1 + 1 + 1, oN2) :: (L' + 1 + 1, oL1) :: (L' + 1, oW) :: (xs1 ++ (xs ++ rest)) := by walk_at "sub"
        have key1 : ∀ d tx, KeyIs w p loose mean mg mb ((D1, lst p1 k1) :: (f1, fo1) :: (205, tabObj ps1) :: (D', lst ys' ys'.length) :: (D, lst ys ys.length) :: (I, oI) :: (D3, lst p3 k3) :: (D2, lst p2 k2) :: (L' + 1 + 1 + 1, oN2) :: (L' + 1 + 1, oL1) :: (L' + 1, oW) :: (xs1 ++ (xs ++ rest))) (.ref f1) (.str (one d) tx) (fun v => v = .bool (keyL wt c d)) :=
          fun d tx => keyRow1 (by walk_at "my mem") hfo1 (sub1 _ hc1) hd1' hv1 (cN := L' + 1 + 1 + 1) (oN := oN2) (by walk_at "my mem") dN2 (cW := L' + 1) (oW := oW) (by walk_at "my mem") dW (W := W) (sub1 _ (by walk_at "my mem")) hwv
        refine of_stop (insL (args := ⟨[.ref D1, .str (one c) tc], [(Str.ofString "key", .ref f1)]⟩) (l := D1) (kf := f1) (vs := p1) (n := k1) (lo := 0) (hi := p1.length) (hv := .none) (tl := 0) (rest := (f1, fo1) :: (205, tabObj ps1) :: (D', lst ys' ys'.length) :: (D, lst ys ys.length) :: (I, oI) :: (D3, lst p3 k3) :: (D2, lst p2 k2) :: (L' + 1 + 1 + 1, oN2) :: (L' + 1 + 1, oL1) :: (L' + 1, oW) :: (xs1 ++ (xs ++ rest)))
          (by assumption) (by assumption) (News.sub N13 (by walk_at "sub")) (by assumption) (rowB wt c t.1) (by k_room) (by walk_at "my off") (by walk_at "my mem") (by rw [hfo1]) (Nat.zero_le _) (Nat.le_refl _) (Or.inr ⟨rfl, rfl⟩) (by omega) (Or.inl ⟨rfl, rfl, rfl⟩) ((key1 _ _).mono ?_) ?_)
        · rintro _ rfl ii v hv
          obtain ⟨ti, rfl, -⟩ := StrsAre.get hp1 hv
          rw [map_getD (by rw [ha1, ← hq1]; exact (List.getElem?_eq_some_iff.mp hv).1)]
          refine (key1 _ _).mono ?_
          rintro _ rfl
          exact lt_bools _ _ _
        intro h14 tk14 F14 N14
        generalize hu1 : insAt p1 (bis (rowB wt c t.1) p1.length 0 p1.length) (Value.str (one c) tc) = u1 at N14
        k_steps
        rename Fr g' L' _ _ => F15
        rename News g' L' _ _ => N15
        refine of_stop (lam_eval F15 (News.sub N15 (b := (205, tabObj ps1) :: (D1, lst u1 (k1 + 1)) :: (D', lst ys' ys'.length) :: (D, lst ys ys.length) :: (I, oI) :: (D3, lst p3 k3) :: (D2, lst p2 k2) :: (L' + 1 + 1 + 1, oN2) :: (L' + 1 + 1, oL1) :: (L' + 1, oW) :: (xs1 ++ (xs ++ rest))) (by walk_at "sub")) T' (codeHd_of_K X' (by kernel_rfl)) (by walk_at "my off") LO1 (by walk_at "sub") ?_ (by with_unfolding_all rfl) rfl rfl)
        intro f2 fo2 c2 ok2 vs2 t2 ctv2 ps2 xs2 h16 tk16 hfo2 F16 N16 LO2 hc2 hd2' hv2 nf2 xo2
        simp only [blw_cons, blw_append] at nf2
        obtain ⟨nf2a, nf2x, nf2b, nf2c, nf2d, nf2e, nf2f, nf2g, nf2h, nf2i, nf2j, nf2k, nf2y, -⟩ := nf2
        have bD3 := xo2 D3 _ (by walk_at "my mem")
        k_steps
        have sub2 : ∀ p ∈ xs2 ++ (xs1 ++ (xs ++ rest)), p ∈ (D2, lst p2 k2) :: (f2, fo2) :: (205, tabObj ps2) :: (D1, lst u1 (k1 + 1)) :: (D', lst ys' ys'.length) :: (D, lst ys ys.length) :: (I, oI) :: (D3, lst p3 k3) :: (L' + 1 + 1 + 1, oN2) :: (L' + 1 + 1, oL1) :: (L' + 1, oW) :: (xs2 ++ (xs1 ++ (xs ++ rest))) := by walk_at "sub"
        have key2 : ∀ d tx, KeyIs w p loose mean mg mb ((D2, lst p2 k2) :: (f2, fo2) :: (205, tabObj ps2) :: (D1, lst u1 (k1 + 1)) :: (D', lst ys' ys'.length) :: (D, lst ys ys.length) :: (I, oI) :: (D3, lst p3 k3) :: (L' + 1 + 1 + 1, oN2) :: (L' + 1 + 1, oL1) :: (L' + 1, oW) :: (xs2 ++ (xs1 ++ (xs ++ rest)))) (.ref f2) (.str (one d) tx) (fun v => v = .bool (keyL wt c d)) :=
          fun d tx => keyRow1 (by walk_at "my mem") hfo2 (sub2 _ hc2) hd2' hv2 (cN := L' + 1 + 1 + 1) (oN := oN2) (by walk_at "my mem") dN2 (cW := L' + 1) (oW := oW) (by walk_at "my mem") dW (W := W) (sub2 _ (by walk_at "my mem")) hwv
        refine of_stop (insL (args := ⟨[.ref D2, .str (one c) tc, .int (lowOf wt t.2.1 c : Nat) tl, vh], [(Str.ofString "key", .ref f2)]⟩) (l := D2) (kf := f2) (vs := p2) (n := k2) (lo := lowOf wt t.2.1 c) (hi := hi) (hv := vh) (tl := tl) (rest := (f2, fo2) :: (205, tabObj ps2) :: (D1, lst u1 (k1 + 1)) :: (D', lst ys' ys'.length) :: (D, lst ys ys.length) :: (I, oI) :: (D3, lst p3 k3) :: (L' + 1 + 1 + 1, oN2) :: (L' + 1 + 1, oL1) :: (L' + 1, oW) :: (xs2 ++ (xs1 ++ (xs ++ rest))))
          (by assumption) (by assumption) (News.sub N16 (by walk_at "sub")) (by assumption) (rowB wt c t.2.1) (by k_room) (by walk_at "my off") (by walk_at "my mem") (by rw [hfo2]) hi1 (by omega) (by rw [hq2]; exact hi3) (by omega) (Or.inr rfl) ((key2 _ _).mono ?_) ?_)
        · rintro _ rfl ii v hv
          obtain ⟨ti, rfl, -⟩ := StrsAre.get hp2 hv
          rw [map_getD (by rw [ha2, ← hq2]; exact (List.getElem?_eq_some_iff.mp hv).1)]
          refine (key2 _ _).mono ?_
          rintro _ rfl
          exact lt_bools _ _ _
        intro h17 tk17 F17 N17
        generalize hu2 : insAt p2 (bis (rowB wt c t.2.1) p2.length (lowOf wt t.2.1 c) hi) (Value.str (one c) tc) = u2 at N17
        k_steps
        rename Fr g' L' _ _ => F18
        rename News g' L' _ _ => N18
        refine of_stop (lam_eval F18 (News.sub N18 (b := (205, tabObj ps2) :: (D2, lst u2 (k2 + 1)) :: (D1, lst u1 (k1 + 1)) :: (D', lst ys' ys'.length) :: (D, lst ys ys.length) :: (I, oI) :: (D3, lst p3 k3) :: (L' + 1 + 1 + 1, oN2) :: (L' + 1 + 1, oL1) :: (L' + 1, oW) :: (xs2 ++ (xs1 ++ (xs ++ rest)))) (by walk_at "sub")) T' (codeHd_of_K X' (by kernel_rfl)) (by walk_at "my off") LO2 (by walk_at "sub") ?_ (by with_unfolding_all rfl) rfl rfl)
        intro f3 fo3 c3 ok3 vs3 t3 ctv3 ps3 xs3 h19 tk19 hfo3 F19 N19 LO3 hc3 hd3' hv3 nf3 xo3
        simp only [blw_cons, blw_append] at nf3
        obtain ⟨nf3a, nf3x, nf3b, nf3c, nf3d, nf3e, nf3f, nf3g, nf3h, nf3i, nf3j, nf3k, nf3l, nf3y, -⟩ := nf3
        have cD3 := xo3 D3 _ (by walk_at "my mem")
        k_steps
        have sub3 : ∀ p ∈ xs3 ++ (xs2 ++ (xs1 ++ (xs ++ rest))), p ∈ (D3, lst p3 k3) :: (f3, fo3) :: (205, tabObj ps3) :: (D2, lst u2 (k2 + 1)) :: (D1, lst u1 (k1 + 1)) :: (D', lst ys' ys'.length) :: (D, lst ys ys.length) :: (I, oI) :: (L' + 1 + 1 + 1, oN2) :: (L' + 1 + 1, oL1) :: (L' + 1, oW) :: (xs3 ++ (xs2 ++ (xs1 ++ (xs ++ rest)))) := by walk_at "sub"
        have key3 : ∀ d tx, KeyIs w p loose mean mg mb ((D3, lst p3 k3) :: (f3, fo3) :: (205, tabObj ps3) :: (D2, lst u2 (k2 + 1)) :: (D1, lst u1 (k1 + 1)) :: (D', lst ys' ys'.length) :: (D, lst ys ys.length) :: (I, oI) :: (L' + 1 + 1 + 1, oN2) :: (L' + 1 + 1, oL1) :: (L' + 1, oW) :: (xs3 ++ (xs2 ++ (xs1 ++ (xs ++ rest))))) (.ref f3) (.str (one d) tx) (fun v => v = .bool (beats wt c d)) :=
          fun d tx => keyRow2 (by walk_at "my mem") hfo3 (sub3 _ hc3) hd3' hv3 (cN := L' + 1 + 1 + 1) (oN := oN2) (by walk_at "my mem") dN2 (cW := L' + 1) (oW := oW) (by walk_at "my mem") dW (W := W) (sub3 _ (by walk_at "my mem")) hwv
        refine of_stop (insR (l := D3) (kf := f3) (vs := p3) (n := k3) (lo := lowOf wt t.2.1 c) (hi := hi) (hv := vh) (x := .str (one c) tc) (tl := tl) (rest := (f3, fo3) :: (205, tabObj ps3) :: (D2, lst u2 (k2 + 1)) :: (D1, lst u1 (k1 + 1)) :: (D', lst ys' ys'.length) :: (D, lst ys ys.length) :: (I, oI) :: (L' + 1 + 1 + 1, oN2) :: (L' + 1 + 1, oL1) :: (L' + 1, oW) :: (xs3 ++ (xs2 ++ (xs1 ++ (xs ++ rest)))))
          (by assumption) (by assumption) (News.sub N19 (by walk_at "sub")) (by assumption) (rowB' wt c t.2.2) (by k_room) (by walk_at "my off") (by walk_at "my mem") (by rw [hfo3]) hi1 (by omega) (by rw [hq3]; exact hi3) (by omega) ((key3 _ _).mono ?_) ?_)
        · rintro _ rfl ii v hv
          obtain ⟨ti, rfl, -⟩ := StrsAre.get hp3 hv
          rw [map_getD (by rw [ha3, ← hq3]; exact (List.getElem?_eq_some_iff.mp hv).1)]
          refine (key3 _ _).mono ?_
          rintro _ rfl
          have e := lt_bools w (beats wt c c) (beats wt c (t.2.2.getD ii 0))
          simpa [rowB'] using e
        intro h20 tk20 F20 N20
        generalize hu3 : insAt p3 (bis (rowB' wt c t.2.2) p3.length (lowOf wt t.2.1 c) hi) (Value.str (one c) tc) = u3 at N20
        have hc5 := abcde_at hc
        have htk1 : ([97, 98, 99, 100, 101] : List Nat).take (i + 1) = ([97, 98, 99, 100, 101] : List Nat).take i ++ [c] := by rw [List.take_add_one, hc5]; rfl
        have hstep : rowsP wt (([97, 98, 99, 100, 101] : List Nat).take (i + 1)) = rowStep wt t c := by rw [htk1, rowsP, List.foldl_append, ← rowsP, ← ht']; rfl
        have hnew : (∀ d ∈ t.1, d ≠ c) ∧ (∀ d ∈ t.2.1, d ≠ c) ∧ (∀ d ∈ t.2.2, d ≠ c) := by
          rw [ht']
          exact row_mem _ _ (fun d => d ≠ c) (fun d hd e => abcde_new hc5 (e ▸ hd)) ⟨fun _ h => (nomatch h), fun _ h => (nomatch h), fun _ h => (nomatch h)⟩
        have hnm : ∀ l : List Nat, (∀ d ∈ l, d ≠ c) → one c ∉ l.map one := fun l hl m => by
          obtain ⟨d, hd, e⟩ := List.mem_map.mp m
          have e' : (⟨#[d]⟩ : Str) = ⟨#[c]⟩ := e
          injection e' with e'
          exact hl d hd (by simpa using e')
        have hz1 : StrsAre u1 ((rowStep wt t c).1.map one) := by
          rw [← hu1, show (rowStep wt t c).1 = insN t.1 (bis (rowB wt c t.1) t.1.length 0 t.1.length) c from rfl, insN_map, ha1, ← hq1]
          exact StrsAre.ins hp1 _ _ _
        have hz2 : StrsAre u2 ((rowStep wt t c).2.1.map one) := by
          rw [← hu2, show (rowStep wt t c).2.1 = insN t.2.1 (bis (rowB wt c t.2.1) t.2.1.length (lowOf wt t.2.1 c) ((highOf wt t.2.1 c).getD t.2.1.length)) c from rfl, insN_map, ← hie, ha2, ← hq2]
          exact StrsAre.ins hp2 _ _ _
        have hz3 : StrsAre u3 ((rowStep wt t c).2.2.map one) := by
          rw [← hu3, show (rowStep wt t c).2.2 = insN t.2.2 (bis (rowB' wt c t.2.2) t.2.2.length (lowOf wt t.2.1 c) ((highOf wt t.2.1 c).getD t.2.1.length)) c from rfl, insN_map, ← hie, ha3, ← hq3]
          exact StrsAre.ins hp3 _ _ _
        have hb2 := bis_le (rowB wt c t.2.1) t.2.1.length (lowOf wt t.2.1 c) hi hi1
        have hb3 := bis_le (rowB' wt c t.2.2) t.2.2.length (lowOf wt t.2.1 c) hi hi1
        have hx2 := idx_ins (p := bis (rowB wt c t.2.1) t.2.1.length (lowOf wt t.2.1 c) hi) (hnm _ hnew.2.1) (by rw [List.length_map]; omega)
        have hx3 := idx_ins (p := bis (rowB' wt c t.2.2) t.2.2.length (lowOf wt t.2.1 c) hi) (hnm _ hnew.2.2) (by rw [List.length_map]; omega)
        have hw2 : (rowStep wt t c).2.1.map one = insS (t.2.1.map one) (bis (rowB wt c t.2.1) t.2.1.length (lowOf wt t.2.1 c) hi) (one c) := by
          rw [show (rowStep wt t c).2.1 = insN t.2.1 (bis (rowB wt c t.2.1) t.2.1.length (lowOf wt t.2.1 c) ((highOf wt t.2.1 c).getD t.2.1.length)) c from rfl, insN_map, ← hie]
        have hw3 : (rowStep wt t c).2.2.map one = insS (t.2.2.map one) (bis (rowB' wt c t.2.2) t.2.2.length (lowOf wt t.2.1 c) hi) (one c) := by
          rw [show (rowStep wt t c).2.2 = insN t.2.2 (bis (rowB' wt c t.2.2) t.2.2.length (lowOf wt t.2.1 c) ((highOf wt t.2.1 c).getD t.2.1.length)) c from rfl, insN_map, ← hie]
        have hy2 : ((rowStep wt t c).2.1.map one).length = i + 1 := by rw [List.length_map, show (rowStep wt t c).2.1 = insN t.2.1 _ c from rfl, insN_len, ha2]
        have hy3 : ((rowStep wt t c).2.2.map one).length = i + 1 := by rw [List.length_map, show (rowStep wt t c).2.2 = insN t.2.2 _ c from rfl, insN_len, ha3]
        rw [← hw2] at hx2
        rw [← hw3] at hx3
        k_steps
        rename_i DT hdt ldt hdu F21 N21
        simp only [mp_set] at F21
        have iI3 := xo3 I _ (by walk_at "my mem")
        have iI2 := xo2 I _ (by walk_at "my mem")
        have iI1 := xo1 I _ (by walk_at "my mem")
        refine of_stop (rowsTail (i := i) (hi := hi) (lo := lowOf wt t.2.1 c) (s2 := (rowStep wt t c).2.1.map one) (s3 := (rowStep wt t c).2.2.map one) (canon rowK F21 rfl) (by assumption)
          (News.sub N21 (b := (DT, lst [.none, .none, .none] 0) :: (D3, lst u3 (k3 + 1)) :: (D2, lst u2 (k2 + 1)) :: (L' + 1 + 1 + 1, oN2) :: (L' + 1 + 1, oL1) :: ((D1, lst u1 (k1 + 1)) :: (I, oI) :: (L' + 1, oW) :: (205, tabObj ps3) :: (xs3 ++ (xs2 ++ (xs1 ++ (xs ++ rest)))))) (by walk_at "sub"))
          (by assumption) (by omega) (by show au + 400 < cLine; have hu' : au + 500 < cLine := hu; omega) dL1 dN2 hz2 hz3 hy2 hy3 hi5 hx2.2 hx3.2 hi1 hi2 hi3 (by rw [hx2.1]; exact hb2) (by rw [hx3.1]; exact hb3) ?_ rfl)
        intro h22 tk22 v6' F22 N22
        exact StepIt.next (rowT L' D1 D2 D3 u1 u2 u3 (k1 + 1) (k2 + 1) (k3 + 1) oN2 oL1 oW ps3 ((xs3 ++ (xs2 ++ (xs1 ++ xs))) ++ rest)) F22 N22 (by simp only [List.append_assoc]; walk_at "sub") (by walk_at "my off") (fun p hp => (List.not_mem_nil hp).elim)
          ⟨rfl, _, _, _, _, _, v6', rowStep wt t c, k1 + 1, k2 + 1, k3 + 1, u1, u2, u3, oN2, _, ps3, xs3 ++ (xs2 ++ (xs1 ++ xs)), rfl, rfl, hstep.symm, hz1, hz2, hz3, dN2, by simpa only [List.append_assoc] using LO3, abv_append.mpr ⟨cD3, abv_append.mpr ⟨bD3, abv_append.mpr ⟨aD3, xsD⟩⟩⟩,
            fun a o hm => by
              have hx := xsr a o hm
              rcases List.mem_cons.mp hm with e | hm
              · cases e
                exact abv_append.mpr ⟨xo3 205 _ (by walk_at "my mem"), abv_append.mpr ⟨xo2 205 _ (by walk_at "my mem"), abv_append.mpr ⟨xo1 205 _ (by walk_at "my mem"), hx⟩⟩⟩
              · exact abv_append.mpr ⟨xo3 a o (by walk_at "my mem"), abv_append.mpr ⟨xo2 a o (by walk_at "my mem"), abv_append.mpr ⟨xo1 a o (by walk_at "my mem"), hx⟩⟩⟩⟩
  · rintro h tk gs m' news' ht F1 N1 ⟨rfl, v1, v2, v3, v4, v5, v6, t, k1, k2, k3, p1, p2, p3, oN', cv, ps', xs, rfl, rfl, ht', hp1, hp2, hp3, dN', LO', xsD, xsr⟩
    walk_at "seal24"
    rw [show (Str.ofString "abcde").cps.size = 5 by decide +kernel] at ht'
    replace ht' : t = rowsP wt [97, 98, 99, 100, 101] := ht'
    subst ht'
    k_steps
    rename Fr h₀ L _ m => F3
    rename News h₀ L _ _ => N3
    exact ret _ _ _ D1 D2 D3 p1 p2 p3 k1 k2 k3 0 ps' xs F3 (News.sub N3 (by walk_at "sub")) hp1 hp2 hp3 LO' xsr (by walk_at "my blw") (by omega) (by omega) (by omega) xsD
end
end
end
end
end
section
set_option maxRecDepth 100000
inductive PkA {α : Type} (R : α → Value → Prop) : List α → List Value → Prop
  | nil : PkA R [] []
  | cons {i : α} {v : Value} {is : List α} {vs : List Value} : R i v → PkA R is vs → PkA R (i :: is) (v :: vs)
theorem PkA.snoc {α : Type} {R : α → Value → Prop} {i : α} {v : Value} {is : List α} {vs : List Value} (h : PkA R is vs) (k : R i v) : PkA R (is ++ [i]) (vs ++ [v]) := by
  induction h with
  | nil => exact .cons k .nil
  | cons a _ ih => exact .cons a ih
theorem PkA.len {α : Type} {R : α → Value → Prop} {is : List α} {vs : List Value} (h : PkA R is vs) : vs.length = is.length := by
  induction h with
  | nil => rfl
  | cons _ _ ih => simp [ih]
theorem PkA.strs {α : Type} {R : α → Value → Prop} {g : α → Str} {is : List α} {vs : List Value} (h : PkA R is vs) (k : ∀ i v, R i v → ∃ t, v = .str (g i) t) : StrsAre vs (is.map g) := by
  induction h with
  | nil => exact .nil
  | cons a _ ih => obtain ⟨t, rfl⟩ := k _ _ a; exact .cons _ t ih
noncomputable def pairs (n2 : Nat → Nat) (tst : Nat → Nat → Bool) (i : Nat) : List (Nat × Nat) := (List.range i).flatMap fun k => ((List.range (n2 k)).filter (tst k)).map fun j => (k, j)
theorem pairs_succ (n2 : Nat → Nat) (tst : Nat → Nat → Bool) (i : Nat) : pairs n2 tst (i + 1) = pairs n2 tst i ++ ((List.range (n2 i)).filter (tst i)).map fun j => (i, j) := by
  unfold pairs
  rw [List.range_succ, List.flatMap_append]
  simp
section
open LCg
variable {prog : Program} {w : World} {A : Around} {E : Value → Shared → Prop} {s : Shared} {env : Env} {h₀ : Heap} {L : Addr} {m : Str → Option Value} {elt iter iter2 tg : Expr} {ifs : List Expr} {scope : Scope} {pos : Pos} {cl : List (Str × Addr)} {y : Str} {py : Pos}
noncomputable def PJ2 (news : List (Addr × Obj)) (gs₀ : Array GenState) (n2 : Nat → Nat) (tst : Nat → Nat → Bool) (R : Nat × Nat → Value → Prop) : CInv := fun i ys _ nw gs => nw = news ∧ gs = gs₀ ∧ PkA R (pairs n2 tst i) ys
noncomputable def TgEnd (s : Shared) (h₀ : Heap) (L : Addr) (m : Str → Option Value) (I C D : Addr) (oI : Obj) (ys : List Value) (news : List (Addr × Obj)) (H : (Str → Option Value) → Prop) (s' : Shared) : Prop :=
  ∃ h' tk oC M, s' = { s with heap := h', toks := tk } ∧ s.toks ≤ tk ∧ Fr h₀ L h' m ∧ News h₀ L h' ((I, oI) :: (C, oC) :: (D, lst ys ys.length) :: news) ∧ NsObj oC M ∧ H M
noncomputable def SrcEnd (prog : Program) (w : World) (A : Around) (s : Shared) (h₀ : Heap) (L : Addr) (m : Str → Option Value) (news : List (Addr × Obj)) (n : Nat) (P : Nat → Value → Nat → Prop) (xv : Value) (s' : Shared) : Prop :=
  ∃ h' tk, s' = { s with heap := h', toks := tk } ∧ Fr h₀ L h' m ∧ News h₀ L h' news ∧ Src prog w A h₀ L [] xv s' n P
theorem SrcEnd.intro {news all : List (Addr × Obj)} {h' : Heap} {tk n : Nat} {P : Nat → Value → Nat → Prop} {xv : Value} (F : Fr h₀ L h' m) (N : News h₀ L h' all) (sub : ∀ p ∈ news, p ∈ all) (S : Src prog w A h₀ L [] xv { s with heap := h', toks := tk } n P) :
    SrcEnd prog w A s h₀ L m news n P xv { s with heap := h', toks := tk } := ⟨h', tk, rfl, F, fun p hp => N p (sub p hp), S⟩

theorem comp_two {RR : Value → Addr → Result → Shared → Prop} {xv : Value} {base news : List (Addr × Obj)} {n : Nat} {P : Nat → Value → Nat → Prop}
    (S : Src prog w A h₀ L base xv s n P) (F : Fr h₀ L s.heap m) (N : News h₀ L s.heap news) (n2 : Nat → Nat) (tst : Nat → Nat → Bool) (R : Nat × Nat → Value → Prop) (H : Nat → (Str → Option Value) → Prop) (P2 : Nat → Nat → Value → Prop)
    (hz : ∀ i, i < n → (pairs n2 tst i).length + n2 i < 100000)
    (hH : ∀ i M v, H i M → H i (fun z => if z = y then some v else M z))
    (turn1 : ∀ i v m₂ I C D oI oC ys h tk, i < n → s.toks ≤ tk → P i v tk → NsObj oC m₂ → Fr h₀ L h m → News h₀ L h ((I, oI) :: (C, oC) :: (D, lst ys ys.length) :: news) → Off3' I C D news → (I ≠ C ∧ I ≠ D ∧ C ≠ D) →
      wpAny (model prog w) A (assign tg (compEnvC scope cl C env) v) (fun _ s' => TgEnd { s with heap := h, toks := tk } h₀ L m I C D oI ys news (H i) s') NoE { s with heap := h, toks := tk })
    (turn2 : ∀ i M I C D oI oC ys h tk, i < n → s.toks ≤ tk → NsObj oC M → H i M → Fr h₀ L h m → News h₀ L h ((I, oI) :: (C, oC) :: (D, lst ys ys.length) :: news) →
      wpAny (model prog w) A (eval iter2 (compEnvC scope cl C env)) (SrcEnd prog w A { s with heap := h, toks := tk } h₀ L m ((I, oI) :: (C, oC) :: (D, lst ys ys.length) :: news) (n2 i) (fun j v _ => P2 i j v)) NoE { s with heap := h, toks := tk })
    (turn : ∀ i j v M I J C D oI oJ oC ys h tk, i < n → j < n2 i → s.toks ≤ tk → P2 i j v → NsObj oC M → M y = some v → H i M → Fr h₀ L h m → News h₀ L h ((J, oJ) :: (C, oC) :: (D, lst ys ys.length) :: (I, oI) :: news) →
      wpAny (model prog w) A (tests ifs (compEnvC scope cl C env)) (fun ok s₃ => ok = tst i j ∧
        if ok = true then wpAny (model prog w) A (eval elt (compEnvC scope cl C env)) (fun u s₄ => R (i, j) u ∧ Same s h₀ L m ((J, oJ) :: (C, oC) :: (D, lst ys ys.length) :: (I, oI) :: news) s₄) NoE s₃
        else Same s h₀ L m ((J, oJ) :: (C, oC) :: (D, lst ys ys.length) :: (I, oI) :: news) s₃) NoE { s with heap := h, toks := tk })
    (done : RROk h₀ L m RR s (PJ2 news s.gens n2 tst R) n) (hb : ∀ p ∈ base, p ∈ news)
    (hs : ∀ C x, foldedSetIterable iter2 (compEnvC scope cl C env) x = pure x := by intro _ _; rfl)
    (hcell : ∀ y ∈ scope.names, y.2 ≠ .cell := by decide) (hkind : scope.kind = .function := by rfl) (hx : scope.names.lookup y = some .local := by rfl) :
    CompAt prog w A env elt [⟨tg, iter, [], 0⟩, ⟨.Name y py, iter2, ifs, 0⟩] scope cl pos E RR xv s := by
  refine comp_it rfl S F N (PJ2 news s.gens n2 tst R) (fun m₂ => ⟨rfl, rfl, .nil⟩) ?_ done hb hcell hkind (fun C g' hg' => by cases hg'; exact ⟨rfl, hs C⟩)
  rintro g₁ s₁ C D rfl i v ys m₂ nw I oI oC h tk gs hi ht hP ⟨rfl, rfl, hp⟩ hoC F₁ N₁ off ⟨hIC, hID, hCD⟩ b₁
  refine wpAny_mono (turn1 i v m₂ I C D oI oC ys h tk hi ht hP hoC F₁ N₁ off ⟨hIC, hID, hCD⟩) (fun _ s₂ h₂ => ?_) fun _ _ e => e
  obtain ⟨h₂, tk₂, oC₂, M, rfl, ht₂, F₂, N₂, hoC₂, hM⟩ := h₂
  walk_at "seal24"
  have ht₂' : s.toks ≤ tk₂ := Nat.le_trans ht ht₂
  refine tests_nil ?_
  rw [if_pos rfl]
  show wpAny (model prog w) A (eval iter2 (compEnvC scope cl C env)) (fun x s₄ => wpAny (model prog w) A (pyIter x) (fun it s₅ => codeAny (model prog w) A (.compStart _ (0 + 1) it _ _) _ s₅) NoE s₄) NoE _
  refine wpAny_with_toks (n := s.toks) ht₂' (wpAny_mono (turn2 i M I C D oI oC₂ ys h₂ tk₂ hi ht₂' hoC₂ hM F₂ N₂) (fun xv₂ s₄ h₄ ht₄ => ?_) fun _ _ e => e.elim)
  obtain ⟨h₄, tk₄, rfl, F₄, N₄, S₂⟩ := h₄
  refine S₂ _ _ fun oJ St T hst => ?_
  dsimp only at T hst ⊢
  have hJ₀ : h₀.get? h₄.objs.size = none := next_is_new F₄
  have F₅ : Fr h₀ L (h₄.push oJ) m := F₄.push _
  have N₅ : News h₀ L (h₄.push oJ) ((C, oC₂) :: (D, lst ys ys.length) :: (I, oI) :: nw) := fun p hp => by
    have q : p ∈ (I, oI) :: (C, oC₂) :: (D, lst ys ys.length) :: nw := by
      simp only [List.mem_cons] at hp ⊢
      rcases hp with hp | hp | hp | hp
      · exact .inr (.inl hp)
      · exact .inr (.inr (.inl hp))
      · exact .inl hp
      · exact .inr (.inr (.inr hp))
    exact ⟨Heap.get?_push_of_some _ (N₄ p q).1, (N₄ p q).2⟩
  have neJ : ∀ p ∈ (C, oC₂) :: (D, lst ys ys.length) :: (I, oI) :: nw, p.1 ≠ h₄.objs.size := fun p hp => by
    have q : p ∈ (I, oI) :: (C, oC₂) :: (D, lst ys ys.length) :: nw := by
      simp only [List.mem_cons] at hp ⊢
      rcases hp with hp | hp | hp | hp
      · exact .inr (.inl hp)
      · exact .inr (.inr (.inl hp))
      · exact .inl hp
      · exact .inr (.inr (.inr hp))
    exact Nat.ne_of_lt (Heap.lt_size (N₄ p q).1)
  have nJC : C ≠ h₄.objs.size := neJ (C, oC₂) List.mem_cons_self
  have nJD : D ≠ h₄.objs.size := neJ (D, _) (List.mem_cons_of_mem _ List.mem_cons_self)
  have offJ : Off3' h₄.objs.size C D ((I, oI) :: nw) := fun p hp => by
    refine ⟨neJ p (List.mem_cons_of_mem _ (List.mem_cons_of_mem _ hp)), ?_⟩
    rcases List.mem_cons.mp hp with rfl | hp
    · exact ⟨hIC, hID⟩
    · exact ⟨(off p hp).2.1, (off p hp).2.2⟩
  have loop : codeAny (model prog w) A (.compLoop (.ListComp elt [⟨tg, iter, [], 0⟩, ⟨.Name y py, iter2, ifs, 0⟩] scope pos) 1 (.ref h₄.objs.size) (.ref D) (compEnvC scope cl C env))
      (fun r s₆ => match r with | .ok _ => CEnd h₀ L m { s with heap := h, toks := tk } I C D oI base (PJ2 nw s.gens n2 tst R (i + 1)) s₆ | .error _ => False) { s with heap := h₄.push oJ, toks := tk₄ } := by
    refine codeAny_compIt (s := { s with heap := h₄.push oJ, toks := tk₄ }) (g := ⟨.Name y py, iter2, ifs, 0⟩) (base := []) (by rfl) rfl (fun g' hg' => by cases hg') T hJ₀ hst F₅ hoC₂ N₅ offJ ⟨nJC.symm, nJD.symm, hCD⟩ (fun p hp => (List.not_mem_nil hp).elim)
      (fun j ys' m' nw' gs' => nw' = (I, oI) :: nw ∧ gs' = s.gens ∧ (∀ v, H i (fun z => if z = y then some v else m' z)) ∧ PkA R (pairs n2 tst i ++ ((List.range j).filter (tst i)).map fun j => (i, j)) ys') ⟨rfl, rfl, fun v => hH i M v hM, by simpa using hp⟩ ?_ ?_
    · rintro j v₂ ys' m' nw' J oJ' oC' h' tk' gs' hj ht₅ hP₂ ⟨rfl, rfl, hM₆, hp₆⟩ hoC₆ F₆ N₆ off₆ ⟨hJC, hJD, _⟩ -
      have htt : s.toks ≤ tk' := by
        have e : tk₄ ≤ tk' := ht₅
        have e' : s.toks ≤ tk₄ := ht₄
        omega
      have hyl : ys'.length < 100000 := by
        rw [hp₆.len, List.length_append, List.length_map]
        have := hz i hi
        have := List.length_filter_le (tst i) (List.range j)
        rw [List.length_range] at this
        omega
      have ext : pairs n2 tst i ++ ((List.range (j + 1)).filter (tst i)).map (fun j => (i, j)) = (pairs n2 tst i ++ ((List.range j).filter (tst i)).map fun j => (i, j)) ++ (if tst i j then [(i, j)] else []) := by
        rw [filter_range_succ, List.map_append, List.append_assoc]
        cases tst i j <;> rfl
      refine wpAny_assign_Name (store_C (pre := [(J, oJ')]) (post := (D, lst ys' ys'.length) :: (I, oI) :: nw) F₆ N₆ hoC₆ (fun p hp => by rw [List.mem_singleton.mp hp]; exact hJC) (fun p hp => ?_) hkind hx fun h₇ oC₇ F₇ hoC₇ N₇ => ?_)
      · rcases List.mem_cons.mp hp with rfl | hp
        · exact Ne.symm hCD
        · exact (off₆ p hp).2.1
      have hM₇ : ∀ v, H i (fun z => if z = y then some v else (fun z => if z = y then some v₂ else m' z) z) := fun v => by
        have e : (fun z => if z = y then some v else (fun z => if z = y then some v₂ else m' z) z) = fun z => if z = y then some v else m' z := by
          funext z
          by_cases hzy : z = y <;> simp [hzy]
        rw [e]
        exact hM₆ v
      refine wpAny_mono (turn i j v₂ _ I J C D oI oJ' oC₇ ys' h₇ (tk' + 1) hi hj (Nat.le_succ_of_le htt) hP₂ hoC₇ (by simp) (hM₆ v₂) F₇ N₇) (fun ok s₃ h₃ => ?_) fun _ _ e => e
      obtain ⟨e, h₃⟩ := h₃
      cases ok with
      | false =>
        simp only [Bool.false_eq_true, if_false] at h₃ ⊢
        obtain ⟨h₈, tk₈, rfl, F₈, N₈⟩ := h₃
        exact CEnd.intro (s₁ := { s with heap := h', toks := tk' }) ys' ((I, oI) :: nw) F₈ hoC₇ N₈ (fun p hp => hp) off₆ (fun p hp => (List.not_mem_nil hp).elim) ⟨rfl, rfl, hM₇, by rw [ext, ← e]; simpa using hp₆⟩
      | true =>
        simp only [if_true] at h₃ ⊢
        refine cact_last rfl (wpAny_mono h₃ (fun u s₄ h₄ => ?_) fun _ _ e => e)
        obtain ⟨hR, h₉, tk₉, rfl, F₉, N₉⟩ := h₄
        exact CElt.intro (s₁ := { s with heap := h', toks := tk' }) ys' ((I, oI) :: nw) F₉ hoC₇ N₉ (fun p hp => hp) off₆ (fun p hp => (List.not_mem_nil hp).elim) hyl ⟨hJC, hJD, hCD⟩ ⟨rfl, rfl, hM₇, by rw [ext, ← e, if_pos rfl]; exact hp₆.snoc hR⟩
    · rintro h' tk' gs' ys' oC' m' nw' ht₅ F₆ hoC₆ N₆ off₆ ⟨rfl, rfl, hM₆, hp₆⟩
      refine CEnd.intro (s₁ := { s with heap := h, toks := tk }) (oC := oC') ys' nw F₆ hoC₆ N₆ (fun p hp => ?_) off b₁ ⟨rfl, rfl, by rw [pairs_succ]; exact hp₆⟩
      simp only [List.mem_cons] at hp ⊢
      rcases hp with hp | hp | hp | hp
      · exact .inr (.inr (.inl hp))
      · exact .inl hp
      · exact .inr (.inl hp)
      · exact .inr (.inr (.inr hp))
  obtain ⟨fp, W, _⟩ := T.W
  exact codeAny_compStart_at (g := ⟨.Name y py, iter2, ifs, 0⟩) (by rfl) rfl loop (W.self 0 _ _ _ hst loop)
end
end
section
set_option hygiene false
local macro_rules | `(tactic| walk_at "eval Lambda") => `(tactic| (k_here; refine stop_of ?_))
local macro_rules | `(tactic| walk_at "eval ListComp") => `(tactic| (k_here; refine stop_of ?_))
local macro_rules | `(tactic| walk_at "exec Assign cons ListComp") => `(tactic| (k_here; refine stop_of ?_))
local macro_rules | `(tactic| walk_at "subscriptTail Name Name ref str") => `(tactic| (k_here; refine stop_of ?_))
local macro_rules | `(tactic| walk_at "subscriptTail Name Subscript ref str") => `(tactic| (k_here; refine stop_of ?_))
local macro_rules | `(tactic| walk_at "call type:list") => `(tactic| (k_here; refine stop_of ?_))
local macro_rules | `(tactic| walk_at "eval Name") => `(tactic| (k_here; (with_reducible show wpAny _ _ (eval (Expr.Name _ _) (envX _ _ _ _ _ _)) _ _ _); k_dflt (refine nameX_F (by k_asm) (by exact rfl) (by walk_at "my mem") (by k_asm) ?_)))
local macro_rules | `(tactic| walk_at "eval IfExp") => `(tactic| (k_here; refine stop_of ?_))
local macro_rules | `(tactic| walk_at "subscriptTail Name Slice ref ref") => `(tactic| (k_here; refine stop_of ?_))
local macro_rules | `(tactic| walk_at "binaryOp Add ref ref") => `(tactic| (k_here; refine stop_of ?_))
local macro_rules | `(tactic| walk_at "compareOp Eq ref ref") => `(tactic| (k_here; refine stop_of ?_))
local macro_rules | `(tactic| walk_at "compareOp NotEq ref ref") => `(tactic| (k_here; refine stop_of ?_))
set_option hygiene true
section
set_option hygiene false
local macro_rules | `(tactic| walk_at "eval Name") => `(tactic| (k_here; (with_reducible show wpAny _ _ (eval (Expr.Name _ _) (compEnvC _ _ _ _)) _ _ _); k_dflt (first | refine blkO (by exact ⟨rfl, rfl⟩) (by k_asm) (by walk_at "my mem") (by k_asm) (by k_asm) ?_ | refine blkC (by exact ⟨rfl, rfl, rfl⟩) (by k_asm) (by walk_at "my mem") (by k_asm) ?_ | refine blkK (by exact ⟨rfl, rfl, rfl⟩) (by k_asm) (by k_asm) (by k_asm) (by k_is) ?_ | refine blkB (by exact ⟨rfl, rfl, rfl, rfl⟩) (by k_asm) (by k_asm) (by k_asm) (by k_is) (by boot_by_name) ?_)))
set_option hygiene true
section
set_option hygiene false
local macro_rules | `(tactic| walk_at "my off") => `(tactic| ((try with_reducible apply off_of); (repeat' (first | with_reducible assumption | ((with_reducible apply off_c); (· omega)) | with_reducible apply off_nil | with_reducible apply off_a | (apply off_blw (by assumption); omega) | (apply off_abv (by assumption); omega) | assumption | exact off_nil _ | refine off_c (by omega) ?_ | refine off_a ?_ ?_))))
local macro_rules | `(tactic| walk_at "my blw") => `(tactic| (repeat' (first | with_reducible assumption | with_reducible apply blw_nil | ((with_reducible apply blw_c); (· omega)) | with_reducible apply blw_a | exact blw_le (by assumption) (by omega) | assumption | exact blw_nil _ | refine blw_c (by omega) ?_ | refine blw_a ?_ ?_)))
local macro_rules | `(tactic| walk_at "my units") => `(tactic| ((try simp only [units_in1, units_deeper, Around.mark_units, units_caller] at *); omega))
local macro_rules | `(tactic| walk_at "my upd") => `(tactic| first | ((with_reducible apply upd_h); (walk_at "my off")) | ((with_reducible apply upd_t); (· k_dflt omega); (walk_at "my upd")) | exact upd_h (by (walk_at "my off")) | exact upd_t (by omega) (by (walk_at "my upd")))
set_option hygiene true
local macro_rules | `(tactic| walk_at "storeName") => `(tactic| (k_here; (with_reducible show wpAny _ _ (storeName (envX _ _ _ _ _ _) _ _) _ _ _); k_dflt (refine storeX_C (by k_asm) (by k_asm) (by exact rfl) (by walk_at "my upd") (by assumption) ?_); intro h' o' F' N' d'; (try dsimp only at N')))
section
set_option maxRecDepth 100000
section
open LCg
variable {prog : Program} {w : World} {A : Around} {s : Shared} {env : Env} {h₀ : Heap} {L I C D : Addr} {m : Str → Option Value} {scope : Scope} {cl : List (Str × Addr)} {x y : Str} {px py pt : Pos} {oI oC : Obj} {m₂ : Str → Option Value} {ys : List Value} {news : List (Addr × Obj)} {H : (Str → Option Value) → Prop} {v : Value}
theorem tg_name (F : Fr h₀ L s.heap m) (N : News h₀ L s.heap ((I, oI) :: (C, oC) :: (D, lst ys ys.length) :: news)) (hoC : NsObj oC m₂) (off : Off3' I C D news) (ne : I ≠ C ∧ I ≠ D ∧ C ≠ D) (hH : H (fun z => if z = x then some v else m₂ z))
    (hkind : scope.kind = .function := by rfl) (hx : scope.names.lookup x = some .local := by rfl) :
    wpAny (model prog w) A (assign (.Name x px) (compEnvC scope cl C env) v) (fun _ s' => TgEnd s h₀ L m I C D oI ys news H s') NoE s :=
  wpAny_assign_Name (store_C (pre := [(I, oI)]) (post := (D, lst ys ys.length) :: news) F N hoC (fun p hp => by rw [List.mem_singleton.mp hp]; exact ne.1) (fun p hp => by
    rcases List.mem_cons.mp hp with rfl | hp
    · exact Ne.symm ne.2.2
    · exact (off p hp).2.1) hkind hx fun h₇ oC₇ F₇ hoC₇ N₇ => ⟨_, _, _, _, rfl, Nat.le_succ _, F₇, N₇, hoC₇, hH⟩)
theorem tg_pair {T : Addr} {oT : Obj} {a b : Value} (hh : A.handled = none) (F : Fr h₀ L s.heap m) (N : News h₀ L s.heap ((I, oI) :: (C, oC) :: (D, lst ys ys.length) :: news)) (hT : (T, oT) ∈ news) (hoT : oT.cls = .type "tuple") (hdT : ∃ k, oT.data = .seq #[a, b] k) (hoC : NsObj oC m₂) (off : Off3' I C D news) (ne : I ≠ C ∧ I ≠ D ∧ C ≠ D)
    (hH : H (fun z => if z = y then some b else (fun z => if z = x then some a else m₂ z) z))
    (hkind : scope.kind = .function := by rfl) (hx : scope.names.lookup x = some .local := by rfl) (hy : scope.names.lookup y = some .local := by rfl) {k : Nat} :
    wpAny (model prog w) A (assign (.Tuple [.Name x px, .Name y py] k pt) (compEnvC scope cl C env) (.ref T)) (fun _ s' => TgEnd s h₀ L m I C D oI ys news H s') NoE s := by
  obtain ⟨kk, hdT⟩ := hdT
  have hC : ∀ p ∈ (D, lst ys ys.length) :: news, p.1 ≠ C := fun p hp => by
    rcases List.mem_cons.mp hp with rfl | hp
    · exact Ne.symm ne.2.2
    · exact (off p hp).2.1
  refine unpackN_ F N (items := #[a, b]) ⟨_, N.get (List.mem_cons_of_mem _ (List.mem_cons_of_mem _ (List.mem_cons_of_mem _ hT))), hoT, _, hdT⟩ hh rfl rfl fun h' F' N' => ?_
  show wpAny _ _ (assignInOrder [assign (.Name x px) (compEnvC scope cl C env), assign (.Name y py) (compEnvC scope cl C env)] [a, b]) _ _ _
  refine assignInOrder_cons (wpAny_assign_Name (store_C (pre := [(I, oI)]) (post := (D, lst ys ys.length) :: news) F' N' hoC (fun p hp => by rw [List.mem_singleton.mp hp]; exact ne.1) hC hkind hx fun h₇ oC₇ F₇ hoC₇ N₇ => ?_))
  refine assignInOrder_cons (wpAny_assign_Name (store_C (pre := [(I, oI)]) (post := (D, lst ys ys.length) :: news) F₇ N₇ hoC₇ (fun p hp => by rw [List.mem_singleton.mp hp]; exact ne.1) hC hkind hy fun h₈ oC₈ F₈ hoC₈ N₈ => ?_))
  exact assignInOrder_nil ⟨_, _, _, _, rfl, by show s.toks ≤ s.toks + 1 + 1; omega, F₈, N₈, hoC₈, hH⟩
end
theorem fitsB (a : Nat) (h : a < 10000000) : Builtin.Range.rangeFitsLong (a : Int) = true := by
  unfold Builtin.Range.rangeFitsLong
  rw [Bool.and_eq_true, decide_eq_true_eq, decide_eq_true_eq]
  omega
theorem range_smallB (a b : Nat) (h : b < 10000000) (ha : a < 10000000) : Builtin.Range.small (a : Int) (b : Int) 1 = true := by
  unfold Builtin.Range.small
  rw [range_sz]
  have h1 := fitsB a ha
  have h2 := fitsB b h
  have h3 := fitsB 1 (by decide)
  have h4 := fitsB (b - a) (by omega)
  have h5 : Builtin.Range.rangeFitsLong ((b : Int) + (1 - 1)) = true := by simpa using h2
  have h3' : Builtin.Range.rangeFitsLong 1 = true := h3
  simp [h1, h2, h3', h4, h5]
noncomputable def signsT (sp : List (Nat × Nat)) : List Str := (pairs (fun i => (sp.getD i (0, 0)).2 - (sp.getD i (0, 0)).1) (fun _ _ => true) sp.length).map fun q => one ((sp.getD q.1 (0, 0)).1 + q.2)
set_option maxHeartbeats 4000000 in
theorem signs {w : World} {p : Program} {loose : List Str} {mean : ExcName → Option Value} {mg mb : Str → Option Value} {A : Around} {h₀ : Heap} {L : Addr} {m : Str → Option Value} {news : List (Addr × Obj)} {s : Shared} {Q : Value → Shared → Prop}
    {LS : Addr} {vs : List Value} {n : Nat} {sp : List (Nat × Nat)}
    (F : Fr h₀ L s.heap m) (X : (KK w.params).In h₀) (N : News h₀ L s.heap news) (T : Top p loose mean mg mb h₀) (hd : A.depth + 10 < recursionLimit) (hh : A.handled = none)
    (hm : (LS, lst vs n) ∈ news) (hl : vs.length = sp.length) (hsp : ∀ (i a b : Nat), sp[i]? = some (a, b) → a ≤ b ∧ b ≤ 1114111 ∧ ∃ T o ta tb, vs[i]? = some (Value.ref T) ∧ (T, o) ∈ news ∧ o.cls = .type "tuple" ∧ ∃ k, o.data = .seq #[Value.int ((a : Nat) : Int) ta, Value.int ((b : Nat) : Int) tb] k)
    (hz : ∀ i : Nat, i < sp.length → (pairs (fun i => (sp.getD i (0, 0)).2 - (sp.getD i (0, 0)).1) (fun _ _ => true) i).length + ((sp.getD i (0, 0)).2 - (sp.getD i (0, 0)).1) < 100000)
    (ret : ∀ h' tk D ys n, StrsAre ys (signsT sp) → Off D news → Fr h₀ L h' m → News h₀ L h' ((D, lst ys n) :: news) → Q (.ref D) { s with heap := h', toks := tk }) : wpAny (model PG w) A (call (.ref 184) [.ref LS]) Q NoE s := by
  obtain ⟨ah, ad, af, ag, au⟩ := A
  obtain rfl : ah = none := hh
  replace hd : ad + 10 < recursionLimit := hd
  refine wpAny_call (enterN [(Str.ofString "spans", .ref LS)] F X N T rfl ?cd ?ro ?bd ?lo ?ce rfl rfl rfl ?_)
  case cd => k_is
  case ro => k_room
  case bd => first | exact BindsTo.of_eq rfl | exact binds_K (by k_in) rfl (by k_is) rfl rfl rfl
  case lo => exact locs rfl
  case ce => decide
  intro g' L' h' FG' F' N' X' T' l1
  walk_at "seal24"
  k_steps
  refine of_stop (comp_top (by with_unfolding_all rfl) rfl (by decide) ?_)
  k_steps
  rename Fr g' L' _ _ => F1
  rename News g' L' _ _ => N1
  refine of_stop (comp_two (src_list rfl F1 N1 hm) F1 N1 (fun i => (sp.getD i (0, 0)).2 - (sp.getD i (0, 0)).1) (fun _ _ => true) (fun q v => ∃ t, v = .str (one ((sp.getD q.1 (0, 0)).1 + q.2)) t)
    (fun i M => ∃ ta tb, M (Str.ofString "low") = some (.int (((sp.getD i (0, 0)).1 : Nat) : Int) ta) ∧ M (Str.ofString "high") = some (.int (((sp.getD i (0, 0)).2 : Nat) : Int) tb))
    (fun i j v => ∃ t, v = .int (((sp.getD i (0, 0)).1 : Nat) + (j : Int)) t) (by rw [hl]; exact hz) ?_ ?_ ?_ ?_ ?_ (fun p hp => by rw [List.mem_singleton.mp hp]; exact hm))
  · rintro i M v ⟨ta, tb, ha, hb⟩
    exact ⟨ta, tb, by show (if _ then _ else _) = _; rw [if_neg (by decide +kernel), ha], by show (if _ then _ else _) = _; rw [if_neg (by decide +kernel), hb]⟩
  · intro i v m₂ I C D oI oC ys h tk hi ht hv hoC F2 N2 off ne
    obtain ⟨a, b, hab⟩ : ∃ a b, sp[i]? = some (a, b) := ⟨_, _, List.getElem?_eq_getElem (by omega)⟩
    have hg : sp.getD i (0, 0) = (a, b) := by rw [List.getD_eq_getElem?_getD, hab]; rfl
    obtain ⟨-, -, T, o, ta, tb, hT, hTm, ho, hod⟩ := hsp i a b hab
    rw [hT] at hv
    obtain rfl : Value.ref T = v := Option.some.inj hv
    exact tg_pair rfl F2 N2 hTm ho hod hoC off ne (by rw [hg]; exact ⟨ta, tb, by show (if _ then _ else (if _ then _ else _)) = _; rw [if_neg (by decide +kernel), if_pos rfl], by show (if _ then _ else _) = _; rw [if_pos rfl]⟩)
  · rintro i M I C D oI oC ys h tk hi ht hoC ⟨ta, tb, hMa, hMb⟩ F2 N2
    obtain ⟨a, b, hab⟩ : ∃ a b, sp[i]? = some (a, b) := ⟨_, _, List.getElem?_eq_getElem (by omega)⟩
    have hg : sp.getD i (0, 0) = (a, b) := by rw [List.getD_eq_getElem?_getD, hab]; rfl
    obtain ⟨hle, hmax, -⟩ := hsp i a b hab
    rw [hg] at hMa hMb ⊢
    k_steps
    exact SrcEnd.intro (by assumption) (by assumption) (by walk_at "sub") (src_range rfl (by assumption) (by assumption) (range_smallB _ _ (by omega) (by omega)) (range_sz _ _))
  · rintro i j v M I J C D oI oJ oC ys h tk hi hj ht ⟨tv, rfl⟩ hoC hMy ⟨ta, tb, hMa, hMb⟩ F2 N2
    obtain ⟨a, b, hab⟩ : ∃ a b, sp[i]? = some (a, b) := ⟨_, _, List.getElem?_eq_getElem (by omega)⟩
    have hg : sp.getD i (0, 0) = (a, b) := by rw [List.getD_eq_getElem?_getD, hab]; rfl
    obtain ⟨hle, hmax, -⟩ := hsp i a b hab
    rw [hg] at hMy hj ⊢
    refine tests_nil ⟨rfl, ?_⟩
    rw [if_pos rfl]
    replace hj : j < b - a := hj
    k_steps
    exact Same.intro (by assumption) (by assumption) (by walk_at "sub")
  · refine rr_e ?_
    intro D h tk gs ys m' nw htk F3 N3 hoD
    rintro ⟨rfl, rfl, hp⟩
    rw [hl] at hp
    k_steps
    exact ret _ _ _ _ _ (hp.strs fun q v h => h) hoD (by assumption) (by assumption)
end
section
set_option hygiene false
local macro_rules | `(tactic| walk_at "call builtin:sum") => `(tactic| (k_here; refine stop_of ?_))
local macro_rules | `(tactic| walk_at "call builtin:list.append") => `(tactic| (k_here; refine stop_of ?_))
local macro_rules | `(tactic| walk_at "exec For Name Call cons nil") => `(tactic| (k_here; refine stop_of ?_))
local macro_rules | `(tactic| walk_at "exec For Name Name cons nil") => `(tactic| (k_here; refine stop_of ?_))
local macro_rules | `(tactic| walk_at "exec For Name Tuple cons nil") => `(tactic| (k_here; refine stop_of ?_))
local macro_rules | `(tactic| walk_at "exec For Name Attribute cons nil") => `(tactic| (k_here; refine stop_of ?_))
local macro_rules | `(tactic| walk_at "setItem ref int") => `(tactic| (k_here; refine stop_of ?_))
local macro_rules | `(tactic| walk_at "setItem ref str int") => `(tactic| (k_here; refine stop_of ?_))
local macro_rules | `(tactic| walk_at "call type:tuple") => `(tactic| (k_here; (with_reducible show wpAny _ _ (call (Value.type _) [Value.ref _]) _ _ _); refine stop_of ?_))
local macro_rules | `(tactic| walk_at "call type:ValueError") => `(tactic| (k_here; refine stop_of ?_))
local macro_rules | `(tactic| walk_at "binaryOp Mod str int") => `(tactic| (k_here; refine' modR ?hn ?_; (case hn => first | exact Or.inl rfl | exact Or.inr (Or.inl rfl) | exact Or.inr (Or.inr rfl)); intro t' k'))
local macro_rules | `(tactic| walk_at "call type:str") => `(tactic| (k_here; (with_reducible show wpAny _ _ (call (Value.type _) [Value.ref _]) _ _ _); refine stop_of ?_))
set_option hygiene true
section
set_option maxRecDepth 100000
theorem ints_some {vs : List Value} {ns : List Int} (h : IntsAre vs ns) : ∀ is : List Nat, ∃ ms, IntsAre (is.filterMap (vs.toArray[·]?)) ms
  | [] => ⟨[], .nil⟩
  | i :: is => by
    obtain ⟨ms, hm⟩ := ints_some h is
    cases e : vs.toArray[i]? with
    | none => exact ⟨ms, by rw [List.filterMap_cons_none e]; exact hm⟩
    | some v =>
      obtain ⟨k, t, rfl⟩ : ∃ k t, v = .int k t := by
        have : v ∈ vs := List.mem_of_getElem? (by simpa using e)
        clear e hm
        induction h with
        | nil => cases this
        | cons n t _ ih =>
          rcases List.mem_cons.mp this with rfl | q
          · exact ⟨_, _, rfl⟩
          · exact ih q
      exact ⟨k :: ms, by rw [List.filterMap_cons_some e]; exact .cons k t hm⟩
theorem ints_pick {vs : List Value} {ns : List Int} (h : IntsAre vs ns) (lo hi st : Option Int) : ∃ ms, IntsAre (slicePick vs.toArray lo hi st).toList ms := by
  unfold slicePick
  exact ints_some h _
noncomputable def spM : List (Nat × Nat) := [(832, 834), (8206, 8208), (8234, 8239), (8298, 8304)]
noncomputable def spT : List (Nat × Nat) := [(917505, 917506), (917536, 917632)]
noncomputable def fstN : List Int := [193, 28, 195, 391, 8, 16, 11, 18, 36, 94]
noncomputable def besZ : List Int := [831, 834, 8205, 8208, 8233, 8239, 8297, 8304, 917504, 917506, 917535, 917632]
noncomputable def besN : List Nat := [831, 834, 8205, 8208, 8233, 8239, 8297, 8304, 917504, 917506, 917535, 917632]
theorem bes_ok : ∀ j, j < 12 → 0 ≤ besZ.getD j 0 ∧ besZ.getD j 0 ≤ 1114111 ∧ (besZ.getD j 0).toNat ∈ besN := by decide +kernel
theorem signs_one {sp : List (Nat × Nat)} {x : Str} (h : x ∈ signsT sp) : ∃ d, x = one d := by
  obtain ⟨q, _, e⟩ := List.mem_map.mp h
  exact ⟨_, e.symm⟩
theorem page3 (pg : List Nat) (c d : Nat) : (⟨pg.toArray⟩ : Str) ++ (⟨#[c]⟩ : Str) ++ one d = ⟨(pg ++ [c, d]).toArray⟩ := by
  show Str.mk ((pg.toArray ++ #[c]) ++ #[d]) = _
  simp
inductive PageOf : List Nat → List Bool → Prop
  | nil : PageOf [] []
  | snoc {p : List Nat} {bs : List Bool} {c d : Nat} (b : Bool) : PageOf p bs → c ∈ besN → one d ∈ signsT (if b then spM else spT) → PageOf (p ++ [c, d]) (bs ++ [b])
theorem PageOf.len {p : List Nat} {bs : List Bool} (h : PageOf p bs) : p.length = 2 * bs.length := by
  induction h with
  | nil => rfl
  | snoc b _ _ _ ih => simp [ih]; omega
noncomputable abbrev drwK : List Str := [Str.ofString "place", Str.ofString "game", Str.ofString "cell", Str.ofString "half", Str.ofString "page", Str.ofString "wins", Str.ofString "beside", Str.ofString "tagging", Str.ofString "moving", Str.ofString "firsts", Str.ofString "script"]
noncomputable abbrev drwM (v1 v2 v3 v4 : Option Value) (pg : Value) (WD BD DT DM FD SC : Addr) : Str → Option Value := mp [(Str.ofString "place", v1), (Str.ofString "game", v2), (Str.ofString "cell", v3), (Str.ofString "half", v4), (Str.ofString "page", some pg), (Str.ofString "wins", some (.ref WD)), (Str.ofString "beside", some (.ref BD)), (Str.ofString "tagging", some (.ref DT)), (Str.ofString "moving", some (.ref DM)), (Str.ofString "firsts", some (.ref FD)), (Str.ofString "script", some (.ref SC))]
noncomputable def winsOf (bs : List Bool) : List Str := (List.range bs.length).map fun i => if bs.getD i true then gamesT.getD i default else revT (gamesT.getD i default)
theorem winsOf_snoc (bs : List Bool) (b : Bool) : winsOf (bs ++ [b]) = winsOf bs ++ [if b then gamesT.getD bs.length default else revT (gamesT.getD bs.length default)] := by
  unfold winsOf
  rw [List.length_append, List.length_singleton, List.range_succ, List.map_append]
  congr 1
  · refine List.map_congr_left fun i hi => ?_
    have hi' := List.mem_range.mp hi
    rw [show (bs ++ [b]).getD i true = bs.getD i true by rw [List.getD_eq_getElem?_getD, List.getElem?_append_left hi', ← List.getD_eq_getElem?_getD]]
  · simp [List.getD]
inductive DrwJ (G : Array GenState) (WD BD DT DM FD SC : Addr) (bv yt ym fv : List Value) (nT nM : Nat) (news : List (Addr × Obj)) (i : Nat) (m' : Str → Option Value) (nw : List (Addr × Obj)) (gs : Array GenState) : Prop
  | mk (_ : gs = G) (v1 v2 v3 v4 : Option Value) (pg : List Nat) (tp : Tok) (bs : List Bool) (wv : List Value) (n : Nat) (_ : m' = drwM v1 v2 v3 v4 (.str ⟨pg.toArray⟩ tp) WD BD DT DM FD SC) (_ : nw = (WD, lst wv n) :: (BD, lst bv 0) :: (DT, lst yt nT) :: (DM, lst ym nM) :: (FD, lst fv 0) :: news) (_ : bs.length = i) (_ : PageOf pg bs) (_ : StrsAre wv (winsOf bs)) : DrwJ G WD BD DT DM FD SC bv yt ym fv nT nM news i m' nw gs
set_option maxHeartbeats 4000000 in
theorem drawn {w : World} {p : Program} {loose : List Str} {mean : ExcName → Option Value} {mg mb : Str → Option Value} {A : Around} {h₀ : Heap} {L : Addr} {m : Str → Option Value} {news : List (Addr × Obj)} {s : Shared} {Q : Value → Shared → Prop}
    {SC : Addr} {sv : List Value} {sn : List Int}
    (F : Fr h₀ L s.heap m) (X : (KK w.params).In h₀) (N : News h₀ L s.heap news) (T : Top p loose mean mg mb h₀) (hd : A.depth + 30 < recursionLimit) (hh : A.handled = none)
    (hS : h₀.IsList SC sv.toArray) (hsn : IntsAre sv sn) (hsl : sv.length ≤ 63)
    (ret : ∀ h' tk O oO W wv n page tp bs, bs.length = 10 → PageOf page bs → StrsAre wv (winsOf bs) → oO.cls = .type "tuple" → (∃ k, oO.data = .seq #[.str ⟨page.toArray⟩ tp, .ref W] k) → Blw W news → @LT.lt Nat _ W O → Fr h₀ L h' m → News h₀ L h' ((O, oO) :: (W, lst wv n) :: news) → Q (.ref O) { s with heap := h', toks := tk }) : wpAny (model PG w) A (call (.ref 191) [.ref SC]) Q NoE s := by
  obtain ⟨ah, ad, af, ag, au⟩ := A
  obtain rfl : ah = none := hh
  replace hd : ad + 30 < recursionLimit := hd
  refine wpAny_call (enterN [(Str.ofString "script", .ref SC)] F X N T rfl ?cd ?ro ?bd ?lo ?ce rfl rfl rfl ?_)
  case cd => k_is
  case ro => k_room
  case bd => first | exact BindsTo.of_eq rfl | exact binds_K (by k_in) rfl (by k_is) rfl rfl rfl
  case lo => exact locs rfl
  case ce => decide
  intro g' L' h' FG' F' N' X' T' l1
  have sS : SubAt := trivial
  walk_at "seal24"
  k_steps
  rename Fr g' L' _ _ => F1
  rename News g' L' _ _ => N1
  rename_i FD _ lFD _ D4 _ _ D3 _ _ D2 _ _ D1 _ _ D0 _ _
  obtain ⟨fv, N1', hfv⟩ : ∃ fv, News g' L' _ (_ :: _ :: _ :: _ :: _ :: (FD, lst fv 0) :: news) ∧ IntsAre fv fstN := ⟨_, N1, by repeat constructor⟩
  clear N1
  refine of_stop (signs (vs := _) (n := 0) (sp := spM) F1 X' N1' T' (by k_room) rfl List.mem_cons_self rfl ?hsp ?hz ?_)
  case hsp =>
    intro i a b h
    match i, h with
    | 0, h => cases h; exact ⟨by decide, by decide, _, _, _, _, rfl, by walk_at "my mem", rfl, _, rfl⟩
    | 1, h => cases h; exact ⟨by decide, by decide, _, _, _, _, rfl, by walk_at "my mem", rfl, _, rfl⟩
    | 2, h => cases h; exact ⟨by decide, by decide, _, _, _, _, rfl, by walk_at "my mem", rfl, _, rfl⟩
    | 3, h => cases h; exact ⟨by decide, by decide, _, _, _, _, rfl, by walk_at "my mem", rfl, _, rfl⟩
    | i + 4, h => cases h
  case hz => decide +kernel
  intro h2 tk2 DM ym nM hym oM F2 N2
  replace N2 := News.sub N2 (b := (DM, lst ym nM) :: (FD, lst fv 0) :: news) (by walk_at "sub")
  replace oM : Off DM ((FD, lst fv 0) :: news) := fun q hq => oM q (by revert q; walk_at "sub")
  clear N1'
  as_aux_lemma =>
  (repeat clear ‹Sld›)
  (repeat clear ‹SldP›)
  walk_at "seal24"
  k_steps
  rename Fr g' L' _ _ => F3
  rename News g' L' _ _ => N3
  refine of_stop (signs (vs := _) (n := 0) (sp := spT) F3 X' N3 T' (by k_room) rfl List.mem_cons_self rfl ?hsp ?hz ?_)
  case hsp =>
    intro i a b h
    match i, h with
    | 0, h => cases h; exact ⟨by decide, by decide, _, _, _, _, rfl, by walk_at "my mem", rfl, _, rfl⟩
    | 1, h => cases h; exact ⟨by decide, by decide, _, _, _, _, rfl, by walk_at "my mem", rfl, _, rfl⟩
    | i + 2, h => cases h
  case hz => decide +kernel
  intro h4 tk4 DT yt nT hyt oT F4 N4
  replace N4 := News.sub N4 (b := (DT, lst yt nT) :: (DM, lst ym nM) :: (FD, lst fv 0) :: news) (by walk_at "sub")
  replace oT : Off DT ((DM, lst ym nM) :: (FD, lst fv 0) :: news) := fun q hq => oT q (by revert q; walk_at "sub")
  clear N3
  as_aux_lemma =>
  (repeat clear ‹Sld›)
  (repeat clear ‹SldP›)
  walk_at "seal24"
  k_steps
  refine of_stop (for_top ?_)
  k_steps
  rename Fr g' L' _ _ => F5
  rename News g' L' _ _ => N5
  (try simp only [mp_set] at F5)
  rename_i h8 tkb BD h7 lB h6 tkp WD h5 lW DP h4 lP h3 h2' h1 Fx Nx hf tkf tr ur vr hrng hkp
  obtain ⟨bv, N6, hbv⟩ : ∃ bv, News g' L' _ (_ :: (WD, lst [] 0) :: (BD, lst bv 0) :: (DT, lst yt nT) :: (DM, lst ym nM) :: (FD, lst fv 0) :: news) ∧ IntsAre bv besZ := ⟨_, N5, by repeat constructor⟩
  clear N5 Nx
  replace N6 := News.sub N6 (b := (WD, lst [] 0) :: (BD, lst bv 0) :: (DT, lst yt nT) :: (DM, lst ym nM) :: (FD, lst fv 0) :: news) (by walk_at "sub")
  have lWx := lW.2.2.2.2
  refine of_stop (for_it (n := 10) (src_range rfl F5 hrng (by decide) (by decide)) F5 N6 (DrwJ s.gens WD BD DT DM FD SC bv yt ym fv nT nM news) ⟨rfl, none, none, none, none, [], tkp, [], [], 0, mp_eq (by walk_at "alleq"), rfl, rfl, .nil, .nil⟩ ?_ ?_ (fun p hp => (List.not_mem_nil hp).elim))
  · have hS2 : ∀ {h : Heap} {m : Str → Option Value}, Fr g' L' h m → h.IsList SC sv.toArray := fun F => let ⟨o, e, r⟩ := hS; ⟨o, F.keep _ _ (FG'.keep _ _ e), r⟩
    rintro i v m₁ news₁ h tk gs I oI hi ht ⟨tv, hv⟩ ⟨rfl, v1, v2, v3, v4, pg, tp, bs, wv, n, rfl, rfl, hbl, hpg, hwv⟩ F7 N7 o1 b1
    walk_at "seal24"
    rw [Int.zero_add] at hv
    subst hv
    have hpl := hpg.len
    replace o1 : Off I _ := o1
    simp only [off_cons] at o1
    obtain ⟨oIW, oIB, oIT, oIM, oIF, oIN⟩ := o1
    have lWn : Blw WD news := AllLt.blw lWx
    obtain ⟨lW1, lW2, lW3, lW4, -⟩ := lW
    have hwl : wv.length = i := by rw [StrsAre.length hwv, winsOf, List.length_map, List.length_range, hbl]
    obtain ⟨ga, gb, hgab⟩ := gamesT_two i hi
    have hgm : gamesT[i]? = some ⟨#[ga, gb]⟩ := by
      have h : i < gamesT.length := hi
      rw [← hgab]
      simp [List.getD, List.getElem?_eq_getElem h]
    obtain ⟨tf, hfi⟩ := hfv.get i (fstN.getD i 0) (by
      have h : i < fstN.length := hi
      simp [List.getD, List.getElem?_eq_getElem h])
    k_steps
    refine of_stop (games (by assumption) (by assumption) (by assumption) (by assumption) (by k_room) ?_)
    intro h10 tk10 DG vg ng hvg lG F8 N8
    k_steps
    obtain ⟨tg, hvg9⟩ := hvg.at hgm
    refine of_stop (kba_turn (value' := .Name (Str.ofString "wins") ⟨0, 0, 0, 0⟩) (fun _ => rfl) ?_)
    refine (item_listL (l := vg) ((by assumption : News g' L' _ _).isList (by walk_at "my mem")) (by omega) (by omega) (by rw [Int.toNat_natCast]; exact hvg9) ?_)
    k_steps
    refine of_stop (item_listL (l := fv) ((by assumption : News g' L' _ _).isList (by walk_at "my mem")) (by omega) (by omega) (by rw [Int.toNat_natCast]; exact hfi) ?_)
    k_steps
    rename Fr g' L' _ _ => F9
    rename News g' L' _ _ => N9
    obtain ⟨ms, hms⟩ := ints_pick hsn (some (i : Int)) none (some 10)
    refine of_stop (kmk_slice3_lit (lo := some (i : Int)) (hi := none) (st := some 10) F9 N9 (hS2 F9) (.int _ _) .none (.int _ _) (by decide) rfl ?_ (by with_unfolding_all rfl) (by intro _; with_unfolding_all rfl) (by rw [List.size_toArray]; simp [sizeLine]; omega))
    intro DS h11 F10 N10 lS
    k_steps
    rename Fr g' L' _ _ => F11
    rename News g' L' _ _ => N11
    refine of_stop (LSm.sum_ints F11 N11 rfl (News.isList N11 (by walk_at "my mem")) hms ?_)
    intro h12 tk12 tS F12 N12
    generalize ms.sum = S
    k_steps
    rename Fr g' L' _ _ => F13
    rename News g' L' _ _ => N13
    generalize fstN.getD i 0 + S = cell at *
    have lo12 : 0 ≤ (cell.fdiv 2).fmod 12 := fmod_lo _ (by decide)
    have hi12 : (cell.fdiv 2).fmod 12 < 12 := fmod_hi _ (by decide)
    have hm12 : ((cell.fdiv 2).fmod 12).toNat < 12 := (Int.toNat_lt lo12).mpr hi12
    obtain ⟨q1, q2, q3⟩ := bes_ok _ hm12
    have lo15 : 0 ≤ (cell.fdiv 2).fmod 15 := fmod_lo _ (by decide)
    have hi15 : (cell.fdiv 2).fmod 15 < 15 := fmod_hi _ (by decide)
    have hm15 : ((cell.fdiv 2).fmod 15).toNat < 15 := (Int.toNat_lt lo15).mpr hi15
    have lo97 : 0 ≤ (cell.fdiv 2).fmod 97 := fmod_lo _ (by decide)
    have hi97 : (cell.fdiv 2).fmod 97 < 97 := fmod_hi _ (by decide)
    have hm97 : ((cell.fdiv 2).fmod 97).toNat < 97 := (Int.toNat_lt lo97).mpr hi97
    have hyml : ym.length = 15 := by rw [StrsAre.length hym]; decide +kernel
    have hytl : yt.length = 97 := by rw [StrsAre.length hyt]; decide +kernel
    refine chr_of_range q1 q2 ?_
    generalize (besZ.getD ((cell.fdiv 2).fmod 12).toNat 0).toNat = cb at *
    k_steps
    · obtain ⟨vx, hvx⟩ : ∃ vx, ym[((cell.fdiv 2).fmod 15).toNat]? = some vx := ⟨_, List.getElem?_eq_getElem (by omega)⟩
      obtain ⟨tx, evx, hmem⟩ := StrsAre.get hym hvx
      obtain ⟨d, hd1⟩ := signs_one hmem
      rw [hd1] at evx hmem
      rw [evx] at hvx
      refine of_stop (item_listL (l := ym) ((by assumption : News g' L' _ _).isList (by walk_at "my mem")) (by omega) (by omega) hvx ?_)
      refine SBL.iadd (fun t2 k2 _ => ?_) (hsz := by show (pg.toArray ++ #[cb]).size + (#[d] : Array Nat).size ≤ sizeLine; simp [sizeLine]; omega)
      rw [page3]
      k_steps
      refine of_stop (app_led (rest := (BD, lst bv 0) :: (DT, lst yt nT) :: (DM, lst ym nM) :: (FD, lst fv 0) :: (I, oI) :: news) (vs := wv) (n := n) (by assumption) (by assumption) (by walk_at "sub") (by walk_at "my off") (by omega) ?_)
      intro h21 F21 N21
      k_steps
      rename Fr g' L' _ _ => F22
      rename News g' L' _ _ => N22
      simp only [mp_set] at F22
      exact StepIt.next ((WD, lst (wv ++ [_]) (n + 1)) :: (BD, lst bv 0) :: (DT, lst yt nT) :: (DM, lst ym nM) :: (FD, lst fv 0) :: news) (canon drwK F22 rfl) N22 (by walk_at "sub") (by walk_at "my off") (fun p hp => (List.not_mem_nil hp).elim)
        ⟨rfl, _, _, _, _, _, _, bs ++ [true], wv ++ [_], n + 1, rfl, rfl, by simp [hbl], hpg.snoc true q3 hmem, by rw [winsOf_snoc, hbl, hgab]; exact hwv.append' (.cons _ _ .nil)⟩
    · obtain ⟨vx, hvx⟩ : ∃ vx, yt[((cell.fdiv 2).fmod 97).toNat]? = some vx := ⟨_, List.getElem?_eq_getElem (by omega)⟩
      obtain ⟨tx, evx, hmem⟩ := StrsAre.get hyt hvx
      obtain ⟨d, hd1⟩ := signs_one hmem
      rw [hd1] at evx hmem
      rw [evx] at hvx
      refine of_stop (item_listL (l := yt) ((by assumption : News g' L' _ _).isList (by walk_at "my mem")) (by omega) (by omega) hvx ?_)
      refine SBL.iadd (fun t2 k2 _ => ?_) (hsz := by show (pg.toArray ++ #[cb]).size + (#[d] : Array Nat).size ≤ sizeLine; simp [sizeLine]; omega)
      rw [page3]
      k_steps
      refine of_stop (app_led (rest := (BD, lst bv 0) :: (DT, lst yt nT) :: (DM, lst ym nM) :: (FD, lst fv 0) :: (I, oI) :: news) (vs := wv) (n := n) (by assumption) (by assumption) (by walk_at "sub") (by walk_at "my off") (by omega) ?_)
      intro h21 F21 N21
      k_steps
      rename Fr g' L' _ _ => F22
      rename News g' L' _ _ => N22
      simp only [mp_set] at F22
      exact StepIt.next ((WD, lst (wv ++ [_]) (n + 1)) :: (BD, lst bv 0) :: (DT, lst yt nT) :: (DM, lst ym nM) :: (FD, lst fv 0) :: news) (canon drwK F22 rfl) N22 (by walk_at "sub") (by walk_at "my off") (fun p hp => (List.not_mem_nil hp).elim)
        ⟨rfl, _, _, _, _, _, _, bs ++ [false], wv ++ [_], n + 1, rfl, rfl, by simp [hbl], hpg.snoc false q3 hmem, by rw [winsOf_snoc, hbl, hgab, ← item_rev]; exact hwv.append' (.cons _ _ .nil)⟩
  · rintro h tk gs m' news' ht F7 N7 ⟨rfl, v1, v2, v3, v4, pg, tp, bs, wv, n, rfl, rfl, hbl, hpg, hwv⟩
    walk_at "seal24"
    k_steps
    rename Fr h₀ L _ m => F8
    rename News h₀ L _ _ => N8
    rename_i DO _ _ _ lO _ _
    exact ret _ _ DO _ WD wv n pg tp bs hbl hpg hwv rfl ⟨_, rfl⟩ (AllLt.blw lWx) lO.1 F8 (News.sub N8 (by walk_at "sub"))
end
section
set_option maxRecDepth 100000
theorem bes_out : ∀ c ∈ besN, in8 c = false ∧ in9 c = false := by decide +kernel
theorem mov_in : ∀ x ∈ signsT spM, in8 (x.cps.getD 0 0) = true ∧ in9 (x.cps.getD 0 0) = false := by decide +kernel
theorem tag_in : ∀ x ∈ signsT spT, in8 (x.cps.getD 0 0) = false ∧ in9 (x.cps.getD 0 0) = true := by decide +kernel
theorem sign_in {d : Nat} (b : Bool) (h : one d ∈ signsT (if b then spM else spT)) : in8 d = b ∧ in9 d = !b := by
  cases b with
  | true => exact mov_in _ h
  | false => exact tag_in _ h
theorem winsOf_len (bs : List Bool) : (winsOf bs).length = bs.length := by rw [winsOf, List.length_map, List.length_range]
theorem PageOf.read {p : List Nat} {bs : List Bool} (h : PageOf p bs) : readP p = winsOf bs := by
  induction h with
  | nil => rfl
  | @snoc p bs c d b _ hc hd ih =>
    rw [readP, List.foldl_append, ← readP, ih, winsOf_snoc]
    show readStep (readStep (winsOf bs) c) d = _
    have e1 : readStep (winsOf bs) c = winsOf bs := by rw [readStep, (bes_out c hc).1, (bes_out c hc).2]; rfl
    rw [e1, readStep, (sign_in b hd).1, (sign_in b hd).2, winsOf_len]
    cases b <;> rfl
theorem read_grow (l : List Nat) (acc : List Str) : acc.length ≤ (l.foldl readStep acc).length := by
  induction l generalizing acc with
  | nil => exact Nat.le_refl _
  | cons c l ih =>
    refine Nat.le_trans ?_ (ih _)
    unfold readStep
    split
    · simp
    · split
      · simp
      · exact Nat.le_refl _
theorem read_take (l : List Nat) (i : Nat) : (readP (l.take i)).length ≤ (readP l).length := by
  have e : readP l = (l.drop i).foldl readStep (readP (l.take i)) := by
    rw [readP, readP, ← List.foldl_append, List.take_append_drop]
  rw [e]
  exact read_grow _ _
theorem PageOf.ex {p : List Nat} {bs : List Bool} (h : PageOf p bs) : ∀ c ∈ p, ¬ (in8 c = true ∧ in9 c = true) := by
  induction h with
  | nil => intro c hc; cases hc
  | @snoc p bs c d b _ hc hd ih =>
    intro x hx
    rcases List.mem_append.mp hx with hx | hx
    · exact ih x hx
    · rcases List.mem_cons.mp hx with rfl | hx
      · rw [(bes_out x hc).1]; simp
      · rw [List.mem_singleton.mp hx, (sign_in b hd).1, (sign_in b hd).2]
        cases b <;> simp
end
section
set_option maxRecDepth 100000
theorem StepIt.brk {h₀ : Heap} {L I : Addr} {oI : Obj} {base : List (Addr × Obj)} {Jn : (Str → Option Value) → List (Addr × Obj) → Array GenState → Prop} {s₁ s₂ : Shared} {Qr : Value → Shared → Prop} {Qb : Shared → Prop} (h : Qb s₂) : StepIt h₀ L I oI base Jn s₁ Qr Qb .brk s₂ := h
noncomputable def wsStep (st : Nat × Nat × List Nat × Nat) (c : Nat) : Nat × Nat × List Nat × Nat :=
  if c = 32 then (st.1 + 1, st.2.1, st.2.2.1, st.2.2.2 + 1)
  else (st.1 + 1, st.2.1 + 1, (st.2.2.1 ++ List.replicate (st.2.2.2 + 1 - st.2.2.1.length) 0).set st.2.2.2 ((st.2.2.1 ++ List.replicate (st.2.2.2 + 1 - st.2.2.1.length) 0).getD st.2.2.2 0 + 1), 0)
noncomputable def wsP (l : List Nat) : Nat × Nat × List Nat × Nat := l.foldl wsStep (0, 0, [], 0)
theorem wsP_snoc (l : List Nat) (c : Nat) : wsP (l ++ [c]) = wsStep (wsP l) c := by rw [wsP, List.foldl_append]; rfl
theorem wsP_bdk : ∀ (l : List Nat) (st : Nat × Nat × List Nat × Nat) (k : Nat), st.2.2.1.length ≤ k → st.2.2.2 ≤ k → (l.foldl wsStep st).2.2.1.length ≤ k + l.length ∧ (l.foldl wsStep st).2.2.2 ≤ k + l.length
  | [], _, _, h1, h2 => ⟨h1, h2⟩
  | c :: l, st, k, h1, h2 => by
    have e : (wsStep st c).2.2.1.length ≤ k + 1 ∧ (wsStep st c).2.2.2 ≤ k + 1 := by
      unfold wsStep
      split
      · exact ⟨by show st.2.2.1.length ≤ _; omega, by show st.2.2.2 + 1 ≤ _; omega⟩
      · refine ⟨?_, Nat.zero_le _⟩
        show (List.set _ _ _).length ≤ _
        rw [List.length_set, List.length_append, List.length_replicate]
        omega
    have := wsP_bdk l (wsStep st c) (k + 1) e.1 e.2
    rw [List.foldl_cons, List.length_cons]
    omega
theorem wsP_bd (l : List Nat) : (wsP l).2.2.1.length ≤ l.length ∧ (wsP l).2.2.2 ≤ l.length := by
  have := wsP_bdk l (0, 0, [], 0) 0 (Nat.le_refl _) (Nat.le_refl _)
  rw [Nat.zero_add] at this
  exact this
theorem set_led {w : World} {A : Around} {E : Value → Shared → Prop} {s : Shared} {h₀ : Heap} {L D : Addr} {m : Str → Option Value} {all rest : List (Addr × Obj)} {vs : List Value} {ns : List Int} {n j : Nat} {x : Int} {t u : Tok} {Q : Unit → Shared → Prop} (F : Fr h₀ L s.heap m) (N : News h₀ L s.heap all)
    (sub : ∀ p ∈ (D, lst vs n) :: rest, p ∈ all) (off : Off D rest) (hi : IntsAre vs ns) (h1 : j < ns.length) (hz : j < 100000) (h : ∀ h', Fr h₀ L h' m → News h₀ L h' ((D, lst (vs.set j (.int x u)) n) :: rest) → IntsAre (vs.set j (.int x u)) (ns.set j x) → Q () { s with heap := h' }) :
    wpAny (model PG w) A (setItem (.ref D) (.int (j : Nat) t) (.int x u)) Q E s :=
  ksa_set F (News.sub N sub) (Upd.head off) hi (Int.natCast_nonneg j) (by omega) (by omega) fun h' F' N' hi' _ _ => h h' F' N' hi'
theorem rep_flat {α : Type} {a : α} (n : Nat) : (List.replicate n [a]).flatten = List.replicate n a := by
  induction n with
  | zero => rfl
  | succ n ih => rw [List.replicate_succ, List.flatten_cons, ih]; rfl
theorem cast_set (l : List Nat) (b : Nat) : (l.map fun q : Nat => (q : Int)).set b ((l.map fun q : Nat => (q : Int)).getD b 0 + 1) = (l.set b (l.getD b 0 + 1)).map fun q : Nat => (q : Int) := by
  rw [List.map_set]
  congr 1
  simp only [List.getD_eq_getElem?_getD, List.getElem?_map]
  cases l[b]? <;> rfl
theorem ints_app {vs us : List Value} {ns ms : List Int} (h : IntsAre vs ns) (k : IntsAre us ms) : IntsAre (vs ++ us) (ns ++ ms) := by
  induction h with
  | nil => exact k
  | cons n t _ ih => exact .cons n t ih
theorem grow_ints {cv : List Value} {cs : List Nat} {v : Value} {K k : Nat} (h : IntsAre cv (cs.map fun q : Nat => (q : Int))) (h2 : IntsAre (List.replicate K [v]).flatten (List.replicate K [(0 : Int)]).flatten) (hk : K = k) :
    IntsAre (cv ++ (List.replicate K [v]).flatten) ((cs ++ List.replicate k 0).map fun q : Nat => (q : Int)) := by
  have e := ints_app h h2
  subst hk
  rw [List.map_append, List.map_replicate]
  rw [rep_flat (a := (0 : Int))] at e
  exact e
noncomputable abbrev whiM (v : Option Value) (nt n b : Value) (CD x : Addr) (ws : Str) (tw : Tok) : Str → Option Value := mp [(Str.ofString "nt", some nt), (Str.ofString "n", some n), (Str.ofString "b", some b), (Str.ofString "count", some (.ref CD)), (Str.ofString "S", some (.str (Str.ofString " ") 535)), (Str.ofString "T", some (.str (Str.ofString "\t") 536)), (Str.ofString "ws", some (.str ws tw)), (Str.ofString "self", some (.ref x)), (Str.ofString "ch", v)]
noncomputable abbrev whiK : List Str := [Str.ofString "nt", Str.ofString "n", Str.ofString "b", Str.ofString "count", Str.ofString "S", Str.ofString "T", Str.ofString "ws", Str.ofString "self", Str.ofString "ch"]
noncomputable abbrev wsD (w : World) (ws : Str) (tw : Tok) (n nt : Nat) (NT : Addr) (sb : Bool) (k1 k2 k3 k4 k5 tn tnt : Tok) : Obj :=
  dictOf [{ hash := PyData.keyHash w.params (Str.ofString "raw"), key := .str (Str.ofString "raw") k1, val := .str ws tw },
    { hash := PyData.keyHash w.params (Str.ofString "n"), key := .str (Str.ofString "n") k2, val := .int (n : Nat) tn },
    { hash := PyData.keyHash w.params (Str.ofString "nt"), key := .str (Str.ofString "nt") k3, val := .int (nt : Nat) tnt },
    { hash := PyData.keyHash w.params (Str.ofString "norm"), key := .str (Str.ofString "norm") k4, val := .ref NT },
    { hash := PyData.keyHash w.params (Str.ofString "is_simple"), key := .str (Str.ofString "is_simple") k5, val := .bool sb }] 5
noncomputable def rawD (w : World) (t : Tok) (ws : Str) (tw : Tok) : Obj := dictOf [{ hash := PyData.keyHash w.params (Str.ofString "raw"), key := .str (Str.ofString "raw") t, val := .str ws tw }] 1
theorem sub63 {b v : Nat} (h : b ≤ 1000) : (b : Int) - (v : Int) + 1 < 2 ^ 63 := by omega
theorem sub20 {b v : Nat} (h : b ≤ 1000) : (b : Int) - (v : Int) + 1 ≤ ((1048576 : Nat) : Int) := by omega
theorem addt {b v : Nat} (h : b ≤ 1000) (k : v ≤ 1000) : v + ((b : Int) - (v : Int) + 1).toNat < 100000 := by omega
theorem toNs {b v c : Nat} (e : v = c) : ((b : Int) - (v : Int) + 1).toNat = b + 1 - c := by subst e; rw [← Int.toNat_sub]; congr 1; omega
theorem lt_addsub (b c : Nat) : b < c + (b + 1 - c) := by omega
theorem zsub {b v c : Nat} (e : v = c) (h : ¬ (v : Int) ≤ (b : Int)) : b + 1 - c = 0 := by subst e; omega
inductive WhiJ (k : Nat) (G : Array GenState) (ws : Str) (tw : Tok) (x dx : Addr) (w : World) (tr : Tok) (news : List (Addr × Obj)) (i : Nat) (m' : Str → Option Value) (nw : List (Addr × Obj)) (gs : Array GenState) : Prop
  | mk (_ : i ≤ k) (_ : gs = G) (v : Option Value) (t1 t2 t3 : Tok) (CD : Addr) (cv : List Value) (cn : Nat) (_ : m' = whiM v (.int ((wsP (ws.cps.toList.take i)).2.1 : Nat) t1) (.int ((wsP (ws.cps.toList.take i)).1 : Nat) t2) (.int ((wsP (ws.cps.toList.take i)).2.2.2 : Nat) t3) CD x ws tw) (_ : nw = (CD, lst cv cn) :: (x, instObj 168 dx) :: (dx, rawD w tr ws tw) :: news) (_ : IntsAre cv ((wsP (ws.cps.toList.take i)).2.2.1.map fun q : Nat => (q : Int))) (_ : @LT.lt Nat _ x CD) : WhiJ k G ws tw x dx w tr news i m' nw gs
set_option maxHeartbeats 4000000 in
theorem whiteC {w : World} {p : Program} {loose : List Str} {mean : ExcName → Option Value} {mg mb : Str → Option Value} {A : Around} {h₀ : Heap} {L : Addr} {m : Str → Option Value} {news : List (Addr × Obj)} {s : Shared} {Q : Value → Shared → Prop}
    {ws : Str} {tw : Tok}
    (F : Fr h₀ L s.heap m) (X : (KK w.params).In h₀) (N : News h₀ L s.heap news) (T : Top p loose mean mg mb h₀) (hd : A.depth + 30 < recursionLimit) (hh : A.handled = none) {k : Nat} (hk : k ≤ ws.cps.size) (hsz : ws.cps.size ≤ 1000) (hws : ∀ i c, i < k → ws.cps[i]? = some c → c = 32 ∨ c = 9) (hek : k = ws.cps.size ∨ ∃ c, ws.cps[k]? = some c ∧ c ≠ 32 ∧ c ≠ 9)
    (ret : ∀ h' tk x dx CT NT cv n nt cs b sb tb k1 k2 k3 k4 k5 tn tnt, wsP (ws.cps.toList.take k) = (n, nt, cs, b) → IntsAre cv (cs.map fun q : Nat => (q : Int)) → Fr h₀ L h' m →
      News h₀ L h' ((NT, { cls := .type "tuple", data := .seq #[.ref CT, .int (b : Nat) tb] }) :: (CT, { cls := .type "tuple", data := .seq cv.toArray }) :: (x, instObj 168 dx) :: (dx, wsD w ws tw n nt NT sb k1 k2 k3 k4 k5 tn tnt) :: news) →
      Blw dx news → @LT.lt Nat _ dx x → @LT.lt Nat _ x CT → @LT.lt Nat _ CT NT → Q (.ref x) { s with heap := h', toks := tk }) : wpAny (model PG w) A (call (.ref 168) [.str ws tw]) Q NoE s := by
  obtain ⟨ah, ad, af, ag, au⟩ := A
  obtain rfl : ah = none := hh
  replace hd : ad + 30 < recursionLimit := hd
  refine call_cls F X N (by k_is) (by k_is) (by k_is) ?_
  intro x dx hq Fq Nq lx1 lx2
  refine enterN [(Str.ofString "self", .ref x), (Str.ofString "ws", .str ws tw)] Fq X Nq T rfl ?cd ?ro ?bd ?lo ?ce rfl rfl rfl ?_
  case cd => k_is
  case ro => k_room
  case bd => first | exact BindsTo.of_eq rfl | exact binds_K (by k_in) rfl (by k_is) rfl rfl rfl
  case lo => exact locs rfl
  case ce => decide
  intro g' L' h' FG' F' N' X' T' l1
  walk_at "seal24"
  replace F' : Fr g' L' h' (mp [(Str.ofString "ws", some (.str ws tw)), (Str.ofString "self", some (.ref x))]) := F'
  replace lx2 : @LT.lt Nat _ dx x := lx2
  replace lx1 : Blw dx news := lx1
  k_steps
  refine of_stop (for_top ?_)
  k_steps
  rename Fr g' L' _ _ => F1
  rename News g' L' _ _ => N1
  simp only [mp_set] at F1
  rename_i hA DP hB lP hC hD hE tkx CD hF lC hG h1 h2 h3
  obtain ⟨tr, N2⟩ : ∃ tr, News g' L' _ (_ :: _ :: (x, instObj 168 dx) :: (dx, rawD w tr ws tw) :: news) := ⟨_, N1⟩
  clear N1
  replace N2 := News.sub N2 (b := (CD, lst [] 0) :: (x, instObj 168 dx) :: (dx, rawD w tr ws tw) :: news) (by walk_at "sub")
  refine of_stop (for_it (src_str rfl F1) F1 N2 (WhiJ k s.gens ws tw x dx w tr news) ⟨Nat.zero_le _, rfl, none, tk, tk, tk, CD, [], 0, mp_eq (by walk_at "alleq"), rfl, .nil, lC.2.1⟩ ?_ ?_ (fun p hp => (List.not_mem_nil hp).elim))
  · rintro i v m₁ news₁ h tk gs I oI hi ht ⟨c, t, hc, rfl, ht1, ht2⟩ ⟨hik, rfl, v1, t1, t2, t3, CD, cv, cn, rfl, rfl, hcv, lCx⟩ F3 N3 o1 b1
    replace o1 : Off I _ := o1
    simp only [off_cons] at o1
    obtain ⟨oI1, oI2, oI3, oI4⟩ := o1
    have hik' : c = 32 ∨ c = 9 → i < k := fun h => by
      rcases hek with e | ⟨d, hd, n1, n2⟩
      · omega
      · refine Nat.lt_of_le_of_ne hik fun e => ?_
        subst e
        rw [hc] at hd
        cases hd
        omega
    have htk : ws.cps.toList.take (i + 1) = ws.cps.toList.take i ++ [c] := by
      rw [List.take_add_one, show ws.cps.toList[i]? = some c by simpa using hc]; rfl
    obtain ⟨bd1, bd2⟩ := wsP_bd (ws.cps.toList.take i)
    replace bd1 := Nat.le_trans bd1 (Nat.le_trans (List.length_take_le' _ _) hsz)
    replace bd2 := Nat.le_trans bd2 (Nat.le_trans (List.length_take_le' _ _) hsz)
    have hcl := hcv.length
    rw [List.length_map] at hcl
    have hnx := wsP_snoc (ws.cps.toList.take i) c
    rw [← htk] at hnx
    generalize hst : wsP (ws.cps.toList.take i) = st at *
    obtain ⟨n, nt, cs, b⟩ := st
    dsimp only at *
    have hb5 : b < 100000 := Nat.lt_of_le_of_lt bd2 (by decide)
    have hv0 : cv.length ≤ 1000 := hcl ▸ bd1
    have hv5 : cv.length < 100000 := Nat.lt_of_le_of_lt hv0 (by decide)
    have hb6 : (b : Int) < 2 ^ 63 := lt63 bd2
    have hv6 : (cv.length : Int) < 2 ^ 63 := lt63 hv0
    have hcz : cv.length ≤ 16384 := Nat.le_trans hv0 (by decide)
    have hs8 : (b : Int) - (cv.length : Int) + 1 < 2 ^ 63 := sub63 bd2
    have hs9 : (b : Int) - (cv.length : Int) + 1 ≤ ((1048576 : Nat) : Int) := sub20 bd2
    walk_at "seal24"
    (revert CD_1; intro CD; set_option tactic.hygienic false in intros) --fix
    (revert tk_1; intro tk; set_option tactic.hygienic false in intros) --fix
    k_steps
    · have e32 := (by assumption : (({ cps := #[c] } : Str) == Str.ofString " ") = true)
      rw [show Str.ofString " " = (⟨#[32]⟩ : Str) from rfl, one_eq, decide_eq_true_eq] at e32
      subst e32
      have hlt := hik' (.inl rfl)
      replace hnx := hnx.trans (show wsStep (n, nt, cs, b) 32 = (n + 1, nt, cs, b + 1) from rfl)
      rename Fr g' L' _ _ => F8
      rename News g' L' _ _ => N8
      simp only [mp_set] at F8
      exact StepIt.next ((CD, lst cv cn) :: (x, instObj 168 dx) :: (dx, rawD w tr ws tw) :: news) (canon whiK F8 rfl) N8 (by walk_at "sub") (by walk_at "my off") (fun p hp => (List.not_mem_nil hp).elim)
        ⟨by omega, rfl, _, _, _, _, CD, cv, cn, by rw [hnx]; rfl, rfl, by rw [hnx]; exact hcv, lCx⟩
    · have e9 := (by assumption : (({ cps := #[c] } : Str) == Str.ofString "\t") = true)
      rw [show Str.ofString "\t" = (⟨#[9]⟩ : Str) from rfl, one_eq, decide_eq_true_eq] at e9
      subst e9
      have hlt := hik' (.inr rfl)
      have hge := (by assumption : (cv.length : Int) ≤ (b : Int))
      refine of_stop (add_led (by assumption) (by assumption) (by walk_at "my mem") (by walk_at "my mem") ?hz ?_)
      case hz =>
        rw [rep_flat, List.length_replicate]
        exact addt bd2 hv0
      intro D2 c2 h5 F5 N5 lD2
      rename IntsAre (List.flatten _) _ => hi1
      obtain ⟨cv2, N6, hi2⟩ : ∃ cv2, News g' L' h5 ((D2, lst cv2 c2) :: _) ∧ IntsAre cv2 ((cs ++ List.replicate (b + 1 - cs.length) 0).map fun q : Nat => (q : Int)) := ⟨_, N5, grow_ints hcv hi1 (toNs hcl)⟩
      generalize hcs2 : cs ++ List.replicate (b + 1 - cs.length) 0 = cs2 at hi2
      have hl2 : b < cs2.length := by rw [← hcs2, List.length_append, List.length_replicate]; exact lt_addsub _ _
      clear N5
      replace N6 := News.sub N6 (b := (D2, lst cv2 c2) :: (I, oI) :: (x, instObj 168 dx) :: (dx, rawD w tr ws tw) :: news) (by walk_at "sub")
      simp only [blw_cons] at lD2
      obtain ⟨-, -, k1, k2, k3, k4, k5⟩ := lD2
      clear hi1
      k_steps
      refine of_stop (set_led (vs := cv2) (n := c2) (rest := (I, oI) :: (x, instObj 168 dx) :: (dx, rawD w tr ws tw) :: news) (by assumption) (by assumption) (by walk_at "sub") (by walk_at "my off") hi2 (by rw [List.length_map]; omega) (by omega) ?_)
      intro h6 F6 N6 hi6
      k_steps
      rename Fr g' L' _ _ => F8
      rename News g' L' _ _ => N8
      simp only [mp_set] at F8
      replace hnx := hnx.trans (show wsStep (n, nt, cs, b) 9 = (n + 1, nt + 1, cs2.set b (cs2.getD b 0 + 1), 0) from by rw [← hcs2]; rfl)
      rw [show ((b : Int)).toNat = b from Int.toNat_natCast b] at hi6 N8
      rw [cast_set] at hi6
      exact StepIt.next ((D2, lst (cv2.set b _) c2) :: (x, instObj 168 dx) :: (dx, rawD w tr ws tw) :: news) (canon whiK F8 rfl) N8 (by walk_at "sub") (by walk_at "my off") (fun p hp => (List.not_mem_nil hp).elim)
        ⟨by omega, rfl, _, _, _, _, D2, _, _, by rw [hnx]; rfl, rfl, by rw [hnx]; exact hi6, by omega⟩
    · have e9 := (by assumption : (({ cps := #[c] } : Str) == Str.ofString "\t") = true)
      rw [show Str.ofString "\t" = (⟨#[9]⟩ : Str) from rfl, one_eq, decide_eq_true_eq] at e9
      subst e9
      have hlt := hik' (.inr rfl)
      have hnl := (by assumption : ¬ (cv.length : Int) ≤ (b : Int))
      refine of_stop (set_led (vs := cv) (n := cn) (rest := (I, oI) :: (x, instObj 168 dx) :: (dx, rawD w tr ws tw) :: news) (by assumption) (by assumption) (by walk_at "sub") (by walk_at "my off") hcv (by rw [List.length_map]; omega) (by omega) ?_)
      intro h6 F6 N6 hi6
      k_steps
      rename Fr g' L' _ _ => F8
      rename News g' L' _ _ => N8
      simp only [mp_set] at F8
      replace hnx := hnx.trans (show wsStep (n, nt, cs, b) 9 = (n + 1, nt + 1, cs.set b (cs.getD b 0 + 1), 0) from by simp [wsStep, show b + 1 - cs.length = 0 from zsub hcl hnl])
      rw [show ((b : Int)).toNat = b from Int.toNat_natCast b] at hi6 N8
      rw [cast_set] at hi6
      exact StepIt.next ((CD, lst (cv.set b _) cn) :: (x, instObj 168 dx) :: (dx, rawD w tr ws tw) :: news) (canon whiK F8 rfl) N8 (by walk_at "sub") (by walk_at "my off") (fun p hp => (List.not_mem_nil hp).elim)
        ⟨by omega, rfl, _, _, _, _, CD, _, _, by rw [hnx]; rfl, rfl, by rw [hnx]; exact hi6, by omega⟩
    · have f32 := (by assumption : (({ cps := #[c] } : Str) == Str.ofString " ") = false)
      have f9 := (by assumption : (({ cps := #[c] } : Str) == Str.ofString "\t") = false)
      rw [show Str.ofString " " = (⟨#[32]⟩ : Str) from rfl, one_eq, decide_eq_false_iff_not] at f32
      rw [show Str.ofString "\t" = (⟨#[9]⟩ : Str) from rfl, one_eq, decide_eq_false_iff_not] at f9
      obtain rfl : i = k := by
        refine Nat.le_antisymm hik (Nat.le_of_not_lt fun h => ?_)
        rcases hws i c h hc with e | e
        · exact f32 e
        · exact f9 e
      refine StepIt.brk ?_
      (try dsimp only)
      rename News g' L' _ _ => N4
      replace N4 := News.sub N4 (b := (CD, lst cv cn) :: (x, instObj 168 dx) :: (dx, rawD w tr ws tw) :: news) (by walk_at "sub")
      k_steps
      rename Fr g' L' _ _ => F4
      rename News g' L' _ _ => N4
      have hm4 := News.isList N4 (a := CD) (items := cv.toArray) (n := cn) (d := none) (sl := #[]) (by walk_at "my mem")
      refine of_stop (kde_tupleOf (l := CD) (items := cv.toArray) F4 N4 hm4 (by rw [List.size_toArray]; exact hcz) rfl ?_)
      intro DT h5 F5 N5 lDT
      replace lDT : Blw DT _ := lDT
      simp only [blw_cons] at lDT
      obtain ⟨lD1, lD2, lD3, lD4⟩ := lDT
      k_steps
      rename Fr h₀ L _ m => F9
      rename News h₀ L _ _ => N9
      refine ret _ _ x dx DT _ cv n nt cs b _ t3 tr _ _ _ _ t2 t1 hst hcv F9 (News.sub N9 (by walk_at "sub")) lx1 lx2 lD2 (by omega)
  · rintro h tk gs m' news' ht F3 N3 ⟨hik, rfl, v1, t1, t2, t3, CD, cv, cn, rfl, rfl, hcv, lCx⟩
    obtain rfl : k = ws.cps.size := Nat.le_antisymm hk hik
    have hcl := hcv.length
    rw [List.length_map] at hcl
    obtain ⟨bd1, bd2⟩ := wsP_bd (ws.cps.toList.take ws.cps.size)
    replace bd1 := Nat.le_trans bd1 (Nat.le_trans (List.length_take_le' _ _) hsz)
    replace bd2 := Nat.le_trans bd2 (Nat.le_trans (List.length_take_le' _ _) hsz)
    generalize hst : wsP (ws.cps.toList.take ws.cps.size) = st at *
    obtain ⟨n, nt, cs, b⟩ := st
    dsimp only at *
    have hb5 : b < 100000 := Nat.lt_of_le_of_lt bd2 (by decide)
    have hv0 : cv.length ≤ 1000 := hcl ▸ bd1
    have hv5 : cv.length < 100000 := Nat.lt_of_le_of_lt hv0 (by decide)
    have hb6 : (b : Int) < 2 ^ 63 := lt63 bd2
    have hv6 : (cv.length : Int) < 2 ^ 63 := lt63 hv0
    have hcz : cv.length ≤ 16384 := Nat.le_trans hv0 (by decide)
    have hs8 : (b : Int) - (cv.length : Int) + 1 < 2 ^ 63 := sub63 bd2
    have hs9 : (b : Int) - (cv.length : Int) + 1 ≤ ((1048576 : Nat) : Int) := sub20 bd2
    walk_at "seal24"
    (revert CD_1; intro CD; set_option tactic.hygienic false in intros) --fix
    (revert tk_1; intro tk; set_option tactic.hygienic false in intros) --fix
    k_steps
    rename Fr g' L' _ _ => F4
    rename News g' L' _ _ => N4
    have hm4 := News.isList N4 (a := CD) (items := cv.toArray) (n := cn) (d := none) (sl := #[]) (by walk_at "my mem")
    refine of_stop (kde_tupleOf (l := CD) (items := cv.toArray) F4 N4 hm4 (by rw [List.size_toArray]; exact hcz) rfl ?_)
    intro DT h5 F5 N5 lDT
    replace lDT : Blw DT _ := lDT
    simp only [blw_cons] at lDT
    obtain ⟨lD1, lD2, lD3, lD4⟩ := lDT
    k_steps
    rename Fr h₀ L _ m => F9
    rename News h₀ L _ _ => N9
    refine ret _ _ x dx DT _ cv n nt cs b _ t3 tr _ _ _ _ t2 t1 rfl hcv F9 (News.sub N9 (by walk_at "sub")) lx1 lx2 lD2 (by omega)
end
section
set_option maxRecDepth 100000
section
open PySem.W.X
variable {prog : Program} {w : World} {A : Around} {c : Code} {fs : List Frame} {P : End → Shared → Prop} {s : Shared} {env : Env} {K : Flow → Sem Fin} {H : Value → Sem Fin} {gd : Bool → Bool} {lv : List Value → List Value}
theorem s_wrap {α : Type} {m : Sem α} {K : α → Sem Fin} (h : wpAny (model prog w) (A.over c fs) m (fun a s' => SegX (model prog w) A c (K a) fs s' P) (fun x s' => SegX (model prog w) A c (H x) fs s' P) s) :
    SegX (model prog w) A c (m.wrap K H gd lv) fs s P := by
  rintro Γ p rfl hΓ
  obtain ⟨e, s', hr, hq⟩ := runs_wrap_of_wp (Φ := fun e s' => e.quiet = true ∧ P e s') K H gd lv m (h (Γ.over fs) p (hΓ.over fs)) (fun a p' s' h' => h' Γ p' rfl hΓ) (fun x p' s' h' => h' Γ p' rfl hΓ)
  exact ⟨e, s', hr, hq⟩
theorem s_wrap_bind {α β : Type} {m : Sem α} {k : α → Sem β} {K : β → Sem Fin} (h : wpAny (model prog w) (A.over c fs) m (fun a s' => SegX (model prog w) A c ((k a).wrap K H gd lv) fs s' P) (fun x s' => SegX (model prog w) A c (H x) fs s' P) s) :
    SegX (model prog w) A c ((m >>= k).wrap K H gd lv) fs s P := by
  rw [Sem.bind_eq_wrap', Sem.wrap_wrap]; exact s_wrap h
theorem s_execs {st : Stmt} {rest : List Stmt}
    (h : SegX (model prog w) A c ((exec st env).wrap (fun f => match f with | .next => (execs rest env).wrap K H gd lv | f => K f) H gd lv) fs s P) :
    SegX (model prog w) A c ((execs (st :: rest) env).wrap K H gd lv) fs s P := by rw [execs_cons_wrap]; exact h
theorem s_execs_nil (h : SegX (model prog w) A c (K .next) fs s P) : SegX (model prog w) A c ((execs [] env).wrap K H gd lv) fs s P := h
theorem s_func {body : List Stmt}
    (h : SegX (model prog w) A (.func body env) ((execs body env).wrap (fun f => .pure (.done (.ret (match f with | .ret v => v | _ => .none))))
      (fun e => (leaving env e).wrap (fun _ => .raise e) .raise id id) id id) fs s P) :
    SegX (model prog w) A (.func body env) ((model prog w).den (.func body env)) fs s P := by
  show SegX _ A _ (.point [] fun _ => ((execs body env).onRaise (leaving env)) >>= _) fs s P
  refine s_wrap (m := point) (K := fun _ => ((execs body env).onRaise (leaving env)) >>= _) (H := .raise) (gd := id) (lv := fun _ => []) (wpAny_point ?_)
  rw [Sem.onRaise_eq_wrap, Sem.bind_eq_wrap', Sem.wrap_wrap]
  rw [Sem.wrap_congr (execs body env) _ _ (K' := fun f => .pure (.done (.ret (match f with | .ret v => v | _ => .none))))
    (H' := fun e => (leaving env e).wrap (fun _ => .raise e) .raise id id) (fun f => by cases f <;> rfl)
    (fun e => by rw [Sem.bind_eq_wrap, Sem.wrap_wrap]; rfl)]
  exact h
theorem s_If {test : PySem.Expr} {body orelse : List Stmt} {pos : Pos}
    (h : wpAny (model prog w) (A.over c fs) (isTrue test env (eval test env)) (fun b s₁ => SegX (model prog w) A c (if b = true then (execs body env).wrap K H gd lv else (execs orelse env).wrap K H gd lv) fs s₁ P) (fun x s' => SegX (model prog w) A c (H x) fs s' P) s) :
    SegX (model prog w) A c ((exec (.If test body orelse pos) env).wrap K H gd lv) fs s P := by
  rw [exec_If]
  refine s_wrap_bind (wpAny_standAt (s_wrap_bind (wpAny_mono h (fun b s₁ h₁ => ?_) fun _ _ e => e)))
  cases b <;> exact h₁
theorem s_yieldv {v : Value} {g : Bool} {l : List Value} {k : Resume → Sem Fin} (hfs : splitAtGen fs = none) (hg : g = false) (hfg : fs.any Frame.guarded = false) (h : ∀ p, P (.susp v g l k c p fs) s) : SegX (model prog w) A c (.yield v g l k) fs s P := by
  rintro Γ p rfl _
  exact ⟨_, s, Runs.yield' fs hfs, by simp [End.quiet, hg, hfg], h p⟩
theorem s_Yield {e : PySem.Expr} {ypos pos : Pos} (hfs : splitAtGen fs = none) (hgd : gd false = false) (hfg : fs.any Frame.guarded = false)
    (h : wpAny (model prog w) (A.over c fs) (eval e env) (fun v s' => ∀ l k p, (∀ s'' (P' : End → Shared → Prop), SegX (model prog w) A c (K .next) fs s'' P' → SegX (model prog w) A c (k (.send .none)) fs s'' P') → P (.susp v false l k c p fs) s')
      (fun x s' => SegX (model prog w) A c (H x) fs s' P) s) (hco : env.scope.isCoroutine = false := by rfl) (hi : interactive env = false := by rfl) :
    SegX (model prog w) A c ((exec (.Expr (.Yield (some e) ypos) pos) env).wrap K H gd lv) fs s P := by
  rw [exec_Expr env _ pos hi rfl]
  have hy : ∀ v, yieldOut env v = yieldValue v := fun v => by simp only [yieldOut, hco, Bool.false_eq_true, if_false]
  show SegX (model prog w) A c (.at pos fun _ => ((eval e env >>= fun v => (standAt ypos >>= fun _ => yieldOut env v)) >>= fun x =>
    dropValue (.Yield (some e) ypos) pos x).wrap K H gd lv) fs s P
  simp only [hy]
  refine s_cmd prog w A c fs P (m := standAt pos) (k := fun _ => ((eval e env >>= fun v => (standAt ypos >>= fun _ => yieldValue v)) >>= fun x => dropValue (.Yield (some e) ypos) pos x).wrap K H gd lv) (wpAny_standAt ?_)
  rw [Sem.bind_eq_wrap', Sem.bind_eq_wrap', Sem.wrap_wrap, Sem.wrap_wrap]
  refine s_wrap (wpAny_mono h (fun v s' h' => ?_) fun _ _ x => x)
  refine s_cmd prog w A c fs P (m := standAt ypos) (k := fun _ => _) (wpAny_standAt ?_)
  refine s_yieldv hfs hgd hfg fun p => ?_
  show P (.susp v (gd false) (lv []) _ c p fs) s'
  rw [hgd]
  exact h' _ _ p (fun s'' P' hk => hk)
theorem s_For {tg iter : PySem.Expr} {body : List Stmt} {pos : Pos}
    (h : wpAny (model prog w) (A.over c fs) (eval iter env) (fun x s₁ => wpAny (model prog w) (A.over c fs) (pyIter x) (fun it s₂ => ∀ p, SegX (model prog w) A (.forLoop tg it body [] env) ((model prog w).den (.forLoop tg it body [] env))
        (.ret (fun r => ((match r with | .ok f => (.pure f : Sem Flow) | .error e => .raise e).onRaise fun (x : Value) => do
          if (← field x 1) == Value.none then unsupported "frame.own-activation:exception-without-traceback"
          setFlight x env.frame).wrap K H gd lv) none (gd false) (lv []) c p [] :: fs) s₂ P)
      (fun x s' => SegX (model prog w) A c (H x) fs s' P) s₁) (fun x s' => SegX (model prog w) A c (H x) fs s' P) s) (hs : ∀ x, foldedSetIterable iter env x = pure x := by intro _; rfl) :
    SegX (model prog w) A c ((exec (.For tg iter body [] pos) env).wrap K H gd lv) fs s P := by
  rw [exec_For]
  refine s_wrap_bind (wpAny_standAt (s_wrap_bind (wpAny_mono h (fun x s₁ h₁ => ?_) fun _ _ e => e)))
  refine s_wrap_bind (wpAny_of_eq (hs x) (s_wrap_bind (wpAny_standAt (s_wrap_bind (wpAny_holding (wpAny_mono h₁ (fun it s₂ h₂ => ?_) fun _ _ e => e))))))
  exact s_call prog w A c fs P s₂ _ _ _ _ _ h₂
theorem s_forLoop {tg : PySem.Expr} {it : Value} {body : List Stmt}
    (h : wpAny (model prog w) (A.over (.forLoop tg it body [] env) fs) (pyNext it) (fun r s₁ => match r with
      | none => SegX (model prog w) A (.forLoop tg it body [] env) (.pure (.again (.block [] env))) fs s₁ P
      | some v => wpAny (model prog w) (A.over (.forLoop tg it body [] env) fs) (letOwnedTupleGo tg it v) (fun _ s₂ => wpAny (model prog w) (A.over (.forLoop tg it body [] env) fs) (assign tg env v) (fun _ s₃ =>
          SegX (model prog w) A (.forLoop tg it body [] env) ((execs body env).wrap (fun f => match f with
            | .next | .cont => .pure (.again (.forLoop tg it body [] env))
            | .brk => .pure (.done .next)
            | .ret v => .pure (.done (.ret v))) (fun e => (do noteFrame e env; theTreesLotGoes e : Sem Unit).bind fun _ => .raise e) id id) fs s₃ P) NoE s₂) NoE s₁) NoE s) :
    SegX (model prog w) A (.forLoop tg it body [] env) ((model prog w).den (.forLoop tg it body [] env)) fs s P := by
  show SegX _ A _ ((forTurn tg it body [] env).onRaise (fun x => do noteFrame x env; theTreesLotGoes x)) fs s P
  unfold forTurn
  rw [Sem.onRaise_eq_wrap]
  refine s_wrap_bind (wpAny_standAt (s_wrap_bind (wpAny_onRaise (wpAny_mono h (fun r s₁ h₁ => ?_) fun _ _ e => e.elim))))
  cases r with
  | none => exact h₁
  | some v =>
    refine s_wrap_bind (wpAny_mono h₁ (fun _ s₂ h₂ => s_wrap_bind (wpAny_mono h₂ (fun _ s₃ h₃ => ?_) fun _ _ e => e.elim)) fun _ _ e => e.elim)
    rw [Sem.bind_eq_wrap', Sem.wrap_wrap]
    rw [Sem.wrap_congr (execs body env) _ _ (K' := fun f => match f with
            | .next | .cont => .pure (.again (.forLoop tg it body [] env))
            | .brk => .pure (.done .next)
            | .ret v => .pure (.done (.ret v))) (H' := fun e => (do noteFrame e env; theTreesLotGoes e : Sem Unit).bind fun _ => .raise e)
        (fun f => by cases f <;> rfl) (fun e => by rfl)]
    exact h₃
theorem s_block_nil (h : SegX (model prog w) A (.block [] env) (.pure (.done .next)) fs s P) : SegX (model prog w) A (.block [] env) ((model prog w).den (.block [] env)) fs s P := h
end
end
section
set_option maxRecDepth 100000
section
open PySem.W.X
variable {prog : Program} {w : World} {A : Around} {s : Shared} {E : Value → Shared → Prop}
noncomputable def GenRun (prog : Program) (w : World) (A : Around) (gs : GenState) (s : Shared) (P : End → Shared → Prop) : Prop := match gs with
  | .fresh c => SegX (model prog w) A c ((model prog w).den c) [] s P
  | .suspended k _ c _ fs _ => SegX (model prog w) A c (k (.send .none)) fs s P
  | _ => False
theorem setGen_setGen (s : Shared) (g : Nat) (x y : GenState) : (s.setGen g x).setGen g y = s.setGen g y := by
  unfold Shared.setGen
  simp [Array.setIfInBounds_setIfInBounds]
theorem next_gen {a : Addr} {g : Nat} {gs : GenState} {P : End → Shared → Prop} {Q : Option Value → Shared → Prop} (hh : A.handled = none)
    (hl : s.heap.NoLimit) (hroom : A.depth < recursionLimit) (hg : s.heap.IsGen a g) (hgs : s.gens[g]? = some gs)
    (hgo : GenRun prog w A.in1 gs (s.setGen g .running) P)
    (hY : ∀ e s₁, P e s₁ → (∃ v g₀ l k c p fs, e = .susp v g₀ l k c p fs ∧ Q (some v) (s₁.setGen g e.genState)) ∨
      (e = .ret (.ok (.ret .none)) ∧ ∀ h', (∀ b o, s₁.heap.get? b = some o → h'.get? b = some o) → Q none { s₁.setGen g .finished with heap := h' }) ∨
      (∃ x, e = .ret (.error x) ∧ wpAny (model prog w) A.in1 (Builtin.Generator.genLeft (α := Fin) (.ref a) x) (fun _ _ => False) (fun y s' => wpAny (model prog w) A (isInstance y (.type "StopIteration")) (fun b s'' => b = false ∧ E y s'') E s') (s₁.setGen g .finished))) :
    wpAny (model prog w) A (pyNext (.ref a)) Q E s := by
  unfold pyNext
  refine wpAny_bind (wpAny_attempt (wpAny_callSpecial?_slot (name := Str.ofString "__next__") hg.typeIs slot_gen_next
    (wpAny_call_entry slot_gen_next hg.typeIs entry_gen_next ?_ (args_gen_next _))))
  show wpAny _ _ (Builtin.Generator.genWake (.ref a) (.send .none)) _ _ s
  unfold Builtin.Generator.genWake
  refine wpAny_bind (wpAny_holding (wpAny_genNumber hg (wpAny_bind (wpAny_genState hgs ?_))))
  have key : ∀ (c₀ : Code) (t₀ : Sem Fin) (fs₀ : List Frame), ((gs = .fresh c₀ ∧ Resume.send Value.none = .send .none ∧ t₀ = denote table c₀ ∧ fs₀ = []) ∨ (∃ k₀ l₀ p₀ cl, gs = .suspended k₀ l₀ c₀ p₀ fs₀ cl ∧ t₀ = k₀ (.send .none))) →
      SegX (model prog w) A.in1 c₀ t₀ fs₀ (s.setGen g .running) P → ∀ (k : GenResult → Sem Fin) (R : Fin → Shared → Prop) (E' : Value → Shared → Prop), (∀ e s₁, P e s₁ → wpAny (model prog w) A.in1 (k e.result) R E' (s₁.setGen g e.genState)) →
      wpAny (model prog w) A.in1 (.resume g (.send .none) [] k) R E' s := by
    intro c₀ t₀ fs₀ h₀ x k R E' hk Γ p hΓ
    exact wake_any Fin prog w hgs h₀ (fun Γ => Γ.In A.in1) (fun _ h => h) (x.mono fun e s₁ he Γ p hΓ => hk e s₁ he Γ p hΓ) Γ p hΓ
  have fin : ∀ e s₁, P e s₁ → wpAny (model prog w) A.in1 (match e.result with
      | .yielded v => ret v
      | .returned v => (do
        if v == .none then raiseNew (← newExc (.type "StopIteration") [])
        rule "generator.return-value"; throw (← newExc (.type "StopIteration") [v]))
      | .raised e => (do
        if let .throw _ := Resume.send Value.none then
          if gs.status == GenStatus.fresh then rule "generator.throw.into-fresh"; throw e
        Builtin.Generator.genLeft (.ref a) e)
      | .running => (do rule "generator.already-executing"; raiseError "ValueError" "generator already executing")
      | .justStarted => (do rule "generator.send-to-fresh"; raiseError "TypeError" "can't send non-None value to a just-started generator")
      | .finished =>
        match Resume.send Value.none with
        | .send _ => (do raiseNew (← newExc (.type "StopIteration") []))
        | .throw e => throw e) (fun fin s' => ∃ v, fin = .done (.ret v) ∧ wpAny (model prog w) A (do
            match (Except.ok (some v) : Except Value (Option Value)) with
            | .ok (some v) => pure (some v)
            | .ok none => unsupported "iter:the-iterator's-class-has-lost-its-__next__-amid-the-walk"
            | .error e => if ← isInstance e (.type "StopIteration") then pure none else throw e) Q E s')
          (fun x s' => wpAny (model prog w) A (do
            match (Except.error x : Except Value (Option Value)) with
            | .ok (some v) => pure (some v)
            | .ok none => unsupported "iter:the-iterator's-class-has-lost-its-__next__-amid-the-walk"
            | .error e => if ← isInstance e (.type "StopIteration") then pure none else throw e) Q E s') (s₁.setGen g e.genState) := by
    intro e s₁ he
    rcases hY e s₁ he with ⟨v, g₀, l, k, c, p, fs, rfl, hq⟩ | ⟨rfl, hq⟩ | ⟨x, rfl, hq⟩
    · exact wpAny_pure ⟨v, rfl, wpAny_pure hq⟩
    · show wpAny _ _ (newExc (.type "StopIteration") [] >>= _) _ _ _
      refine wpAny_bind ?_
      simp only [newExc, newTuple]
      refine wpAny_bind (wpAny_newObj_type ?_ (by size_fits))
      refine wpAny_bind (m := firstArgMember _ _) (wpAny_of_eq (a := Value.none) (by first | rfl | (simp only [firstArgMember]; rfl)) ?_)
      refine wpAny_newObj_type ?_ (by size_fits)
      simp only [raiseNew]
      refine wpAny_bind (wpAny_bind (wpAny_handled ?_))
      rw [show A.in1.handled = none from hh]
      refine wpAny_throw ?_
      refine wpAny_bind (wpAny_isInstance (T := "StopIteration") (b := true) ⟨_, Heap.get?_push_size _ rfl, rfl⟩ isSubtype_stop ?_)
      exact wpAny_pure (hq _ fun b o hb => Heap.get?_push_of_some _ (Heap.get?_push_of_some _ hb))
    · show wpAny _ _ (Builtin.Generator.genLeft (.ref a) x) _ _ _
      refine wpAny_mono hq (fun _ _ h => h.elim) fun y s' h => ?_
      refine wpAny_bind (wpAny_mono h (fun b s'' h => ?_) fun _ _ e => e)
      obtain ⟨rfl, h⟩ := h
      exact wpAny_throw h
  cases gs with
  | running => exact hgo.elim
  | finished => exact hgo.elim
  | fresh c =>
    refine wpAny_bind (wpAny_roomToWake hl hroom ?_)
    exact key c _ [] (.inl ⟨rfl, rfl, rfl, rfl⟩) hgo _ _ _ fin
  | suspended k₀ l₀ c₀ p₀ fs₀ cl =>
    refine wpAny_bind (wpAny_roomToWake hl hroom ?_)
    exact key c₀ _ fs₀ (.inr ⟨k₀, l₀, p₀, cl, rfl, rfl⟩) hgo _ _ _ fin
end
end
section
set_option maxRecDepth 100000
noncomputable abbrev resB : List Stmt := dBody (stmtAt 7)
noncomputable abbrev resE (C : Addr) : Env := envX (Str.ofString "restore") (dScope (stmtAt 7)) C 64 (.ref 63) []
noncomputable def genO (g : Nat) (t u : Tok) : Obj := { cls := .type "generator", data := .fields #[.int g 0, .str (Str.ofString "restore") t, .str (Str.ofString "restore") u] }
noncomputable abbrev resM (v1 v2 v3 : Option Value) (wh : Value) (DL : Addr) : Str → Option Value := mp [(Str.ofString "line", v1), (Str.ofString "prefixes", v2), (Str.ofString "tag", v3), (Str.ofString "which", some wh), (Str.ofString "delta", some (.ref DL))]
section
open LCg PySem.W.X
variable {w : World} {p : Program} {loose : List Str} {mean : ExcName → Option Value} {mg mb : Str → Option Value} {A : Around} {h₀ : Heap} {L : Addr} {m : Str → Option Value} {news : List (Addr × Obj)} {s : Shared} {Q : Value → Shared → Prop}
theorem restoreG {DL : Addr} {wh : Value} (F : Fr h₀ L s.heap m) (X : (KK w.params).In h₀) (N : News h₀ L s.heap news) (T : Top p loose mean mg mb h₀) (hd : A.depth + 10 < recursionLimit)
    (ret : ∀ h' tk a C oC t u, Fr h₀ L h' m → News h₀ L h' ((a, genO s.gens.size t u) :: (C, oC) :: news) → NsObj oC (mp [(Str.ofString "which", some wh), (Str.ofString "delta", some (.ref DL))]) → Blw C news → @LT.lt Nat _ C a → @LT.lt Nat _ L C →
      Q (.ref a) { s with heap := h', toks := tk, gens := s.gens.push (.fresh (.func resB (resE C))) }) :
    wpAny (model PG w) A (call (.ref 64) [.ref DL, wh]) Q NoE s := by
  have hs := F.keep _ _ (X 64 _ rfl)
  refine wpAny_call (codeAny_call_generator (body := resB) (by k_room) hs rfl rfl rfl rfl ((codeRec_of X (by k_is)).keeps F.keep) ?_)
  refine wpAny_of_eq (show bindArgs _ _ = pure [(Str.ofString "delta", .ref DL), (Str.ofString "which", wh)] from rfl) ?_
  refine wpAny_newFunctionEnv (by decide) (locs rfl) (fun h₁ hns hsb => ⟨((T.nolimit).keeps F.keep).fresh _ hsb, ?_⟩) rfl
  obtain ⟨oC, eC, hoC⟩ := ns_obj hns
  have hk₁ : ∀ b o, s.heap.get? b = some o → h₁.get? b = some o := fun b o e => hsb.extBut b o (Nat.ne_of_lt (Heap.lt_size e)) (Heap.get?_push_of_some _ e)
  have hsz : h₁.objs.size = s.heap.objs.size + 1 := by rw [hsb.1, Heap.size_push]
  have hLs : @LT.lt Nat _ L s.heap.objs.size := F.ns.lt
  have new₀ : ∀ a, s.heap.objs.size ≤ a → h₀.get? a = none := fun a ha => by
    cases e : h₀.get? a with
    | none => rfl
    | some o' => exact absurd (Heap.lt_size (F.keep a o' e)) (Nat.not_lt.mpr ha)
  refine ret (h₁.push (genO s.gens.size (s.toks + 2) (s.toks + 2 + 1))) _ h₁.objs.size s.heap.objs.size oC (s.toks + 2) (s.toks + 2 + 1) ((F.keeps hk₁).push _) (fun q hq => ?_) ?_ (fun q hq => Heap.lt_size (N q hq).1) (by show @LT.lt Nat _ _ _; omega) hLs
  · rcases List.mem_cons.mp hq with rfl | hq
    · exact ⟨Heap.get?_push_size _ rfl, by show @Ne Nat _ _; omega, new₀ _ (by show @LE.le Nat _ _ _; omega)⟩
    · rcases List.mem_cons.mp hq with rfl | hq
      · exact ⟨Heap.get?_push_of_some _ eC, by show @Ne Nat _ _; omega, new₀ _ (Nat.le_refl _)⟩
      · exact ⟨Heap.get?_push_of_some _ (hk₁ _ _ (N q hq).1), (N q hq).2⟩
  · refine (funext fun y => ?_ : (fun y => List.lookup y _) = mp _) ▸ hoC
    exact lk_mp [(Str.ofString "which", wh), (Str.ofString "delta", .ref DL)] y
noncomputable def withL (h₀ : Heap) (L : Addr) (oL : Obj) : Heap := ⟨(Array.range (L + 1)).map fun i => if i = L then oL else (h₀.get? i).getD { cls := .none, data := .freed }, h₀.life⟩
theorem withL_get {h₀ : Heap} {L : Addr} {oL : Obj} (hL : h₀.objs.size ≤ L) (eL : oL.isFreed = false) (b : Addr) (o : Obj) : (withL h₀ L oL).get? b = some o ↔ (b = L ∧ o = oL) ∨ h₀.get? b = some o := by
  rw [Heap.get?_some_iff]
  have e : (withL h₀ L oL).objs[b]? = if @LT.lt Nat _ b (L + 1) then some (if b = L then oL else (h₀.get? b).getD { cls := .none, data := .freed }) else none := by
    show ((Array.range (L + 1)).map fun i => if i = L then oL else (h₀.get? i).getD { cls := .none, data := .freed })[b]? = _
    rw [Array.getElem?_map, Array.getElem?_range]
    split <;> rfl
  rw [e]
  constructor
  · rintro ⟨e1, e2⟩
    split at e1
    · split at e1
      · rename_i hb
        exact .inl ⟨hb, (Option.some.inj e1).symm⟩
      · cases hg : h₀.get? b with
        | none =>
          rw [hg] at e1
          obtain rfl := Option.some.inj e1
          cases e2
        | some o' =>
          rw [hg] at e1
          exact .inr e1
    · cases e1
  · rintro (⟨rfl, rfl⟩ | h)
    · exact ⟨by rw [if_pos (Nat.lt_succ_self _), if_pos rfl], eL⟩
    · have hlt : @LT.lt Nat _ b L := Nat.lt_of_lt_of_le (Heap.lt_size h) hL
      exact ⟨by rw [if_pos (Nat.lt_succ_of_lt hlt), if_neg (Nat.ne_of_lt hlt), h]; rfl, (Heap.get?_some_iff.mp h).2⟩
theorem withL_size (h₀ : Heap) (L : Addr) (oL : Obj) : (withL h₀ L oL).objs.size = L + 1 := by
  show ((Array.range (L + 1)).map _).size = _
  rw [Array.size_map, Array.size_range]
theorem frame_obj {h : Heap} (F : Fr h₀ L h m) : ∃ oL, h.get? L = some oL ∧ oL.isFreed = false ∧ NsObj oL m := by
  obtain ⟨oL, e, r⟩ := ns_obj F.ns
  exact ⟨oL, e, (Heap.get?_some_iff.mp e).2, r⟩
theorem to_gen {h : Heap} {C : Addr} {oL oC : Obj} {mC : Str → Option Value} (F : Fr h₀ L h m) (eL : h.get? L = some oL) (hC : @LT.lt Nat _ L C) (eC : h.get? C = some oC) (nC : NsObj oC mC) : Fr (withL h₀ L oL) C h mC :=
  ⟨nC.ns eC, fun b o e => by
    rcases (withL_get F.above (Heap.get?_some_iff.mp eL).2 b o).mp e with ⟨rfl, rfl⟩ | e
    · exact eL
    · exact F.keep b o e, by rw [withL_size]; exact hC⟩
theorem to_gen_news {h : Heap} {C : Addr} {oL : Obj} {nw : List (Addr × Obj)} (F : Fr h₀ L h m) (eL : h.get? L = some oL) (N : News h₀ L h nw) (off : Off C nw) : News (withL h₀ L oL) C h nw := fun q hq => ⟨(N q hq).1, off q hq, by
  cases e : (withL h₀ L oL).get? q.1 with
  | none => rfl
  | some o =>
    rcases (withL_get F.above (Heap.get?_some_iff.mp eL).2 _ _).mp e with ⟨h1, -⟩ | e
    · exact absurd h1 (N q hq).2.1
    · rw [(N q hq).2.2] at e; cases e⟩
theorem gen_keeps {h₀ : Heap} {L : Addr} {oL : Obj} (hL : h₀.objs.size ≤ L) (eL : oL.isFreed = false) : ∀ b o, h₀.get? b = some o → (withL h₀ L oL).get? b = some o := fun b o e => (withL_get hL eL b o).mpr (.inr e)
theorem of_gen {h h' : Heap} {C : Addr} {oL : Obj} {mC : Str → Option Value} {nw : List (Addr × Obj)} (F : Fr h₀ L h m) (eL : h.get? L = some oL) (hC : @LT.lt Nat _ L C) (FC : Fr (withL h₀ L oL) C h' mC) (NC : News (withL h₀ L oL) C h' nw) :
    Fr h₀ L h' m ∧ News h₀ L h' nw ∧ ∃ oC, NsObj oC mC ∧ News h₀ L h' [(C, oC)] := by
  have fr := (Heap.get?_some_iff.mp eL).2
  obtain ⟨oC, eC, nC⟩ := ns_obj FC.ns
  have eL' : h'.get? L = some oL := FC.keep _ _ ((withL_get F.above fr L oL).mpr (.inl ⟨rfl, rfl⟩))
  refine ⟨⟨F.ns.at' fun o e => by rw [eL] at e; cases e; exact eL', fun b o e => FC.keep b o (gen_keeps F.above fr b o e), F.above⟩, fun q hq => ⟨(NC q hq).1, fun e => ?_, ?_⟩, oC, nC, fun q hq => ?_⟩
  · have := (NC q hq).2.2
    rw [e, (withL_get F.above fr L oL).mpr (.inl ⟨rfl, rfl⟩)] at this
    cases this
  · cases e : h₀.get? q.1 with
    | none => rfl
    | some o => have := (NC q hq).2.2; rw [gen_keeps F.above fr _ _ e] at this; cases this
  · rw [List.mem_singleton.mp hq]
    refine ⟨eC, Nat.ne_of_gt hC, ?_⟩
    cases e : h₀.get? C with
    | none => rfl
    | some o => exact absurd (Heap.lt_size e) (Nat.not_lt.mpr (Nat.le_trans F.above (Nat.le_of_lt hC)))
end
end
section
set_option maxRecDepth 100000
noncomputable abbrev tstE (p1 p2 p3 p4 p5 p6 : Pos) : Expr := ((Expr.Name (Str.ofString "line") p1).Subscript (Expr.Slice none (some (Expr.Constant (Const.int 2) 0 p2)) none p3) p4).Compare [CmpOp.In] [Expr.Name (Str.ofString "prefixes") p5] p6
noncomputable abbrev cutE (p1 p2 p3 p4 : Pos) : Expr := (Expr.Name (Str.ofString "line") p1).Subscript (Expr.Slice (some (Expr.Constant (Const.int 2) 0 p2)) none none p3) p4
theorem resB_eq : ∃ tr as p1 p2 p3 p4 p5 p6 q1 q2 q3 q4 y1 y2 i1 f1 n1 n2, resB = [tr, as, .For (.Name (Str.ofString "line") n1) (.Name (Str.ofString "delta") n2) [.If (tstE p1 p2 p3 p4 p5 p6) [.Expr (.Yield (some (cutE q1 q2 q3 q4)) y1) y2] [] i1] [] f1] := ⟨_, _, _, _, _, _, _, _, _, _, _, _, _, _, _, _, _, _, rfl⟩
noncomputable def tstR (tag x : Str) : Bool := [Str.ofString "  ", tag].any (· == Txt.slice x none (some 2))
section
variable {w : World} {p : Program} {loose : List Str} {mean : ExcName → Option Value} {mg mb : Str → Option Value} {A : Around} {h₀ : Heap} {C : Addr} {m : Str → Option Value} {news : List (Addr × Obj)} {s : Shared}
set_option maxHeartbeats 1000000 in
theorem tst_walk {Q : Bool → Shared → Prop} {x tag : Str} {t ta tb : Tok} {v3 : Option Value} {wh : Value} {DL T2 : Addr} {oT : Obj} {p1 p2 p3 p4 p5 p6 : Pos}
    (F : Fr h₀ C s.heap (resM (some (.str x t)) (some (.ref T2)) v3 wh DL)) (X : (KK w.params).In h₀) (N : News h₀ C s.heap ((T2, oT) :: news)) (T : Top p loose mean mg mb h₀) (hd : A.depth + 10 < recursionLimit) (hh : A.handled = none)
    (hc : oT.cls = .type "tuple") (hT : ∃ k, oT.data = .seq #[.str (Str.ofString "  ") ta, .str tag tb] k) (hx : x.cps.size ≤ 1000)
    (ret : ∀ h' tk, Fr h₀ C h' (resM (some (.str x t)) (some (.ref T2)) v3 wh DL) → News h₀ C h' ((T2, oT) :: news) → Q (tstR tag x) { s with heap := h', toks := tk }) :
    wpAny (model PG w) A (isTrue (tstE p1 p2 p3 p4 p5 p6) (resE C) (eval (tstE p1 p2 p3 p4 p5 p6) (resE C))) Q NoE s := by
  obtain ⟨ah, ad, af, ag, au⟩ := A
  obtain rfl : ah = none := hh
  replace hd : ad + 10 < recursionLimit := hd
  k_steps
  obtain ⟨oc, od, odt, osl⟩ := oT
  obtain ⟨k, hT⟩ := hT
  dsimp only at hc hT
  subst hc hT
  refine of_stop (in_tuple_strs (t := T2) (ys := [Str.ofString "  ", tag]) ⟨_, News.get (by assumption : News h₀ C _ ((T2, _) :: news)) List.mem_cons_self, rfl, _, rfl⟩ (.cons _ _ (.cons _ _ .nil)) ?_)
  k_steps
  exact ret _ _ (by assumption) (by assumption)
set_option maxHeartbeats 1000000 in
theorem cut_walk {Q : Value → Shared → Prop} {x : Str} {t : Tok} {v2 v3 : Option Value} {wh : Value} {DL : Addr} {p1 p2 p3 p4 : Pos}
    (F : Fr h₀ C s.heap (resM (some (.str x t)) v2 v3 wh DL)) (X : (KK w.params).In h₀) (N : News h₀ C s.heap news) (T : Top p loose mean mg mb h₀) (hd : A.depth + 10 < recursionLimit) (hh : A.handled = none) (hx : x.cps.size ≤ 1000)
    (ret : ∀ h' tk t', Fr h₀ C h' (resM (some (.str x t)) v2 v3 wh DL) → News h₀ C h' news → Q (.str (Txt.slice x (some 2) none) t') { s with heap := h', toks := tk }) :
    wpAny (model PG w) A (eval (cutE p1 p2 p3 p4) (resE C)) Q NoE s := by
  obtain ⟨ah, ad, af, ag, au⟩ := A
  obtain rfl : ah = none := hh
  replace hd : ad + 10 < recursionLimit := hd
  k_steps
  exact ret _ _ _ (by assumption) (by assumption)
end
end
section
set_option maxRecDepth 100000
section
open LCg PySem.W.X
structure GenI (w : World) (sR : Shared) (g0 : Heap) (C DL I2 T2 : Addr) (dv : List Value) (nD : Nat) (tag : Str) (wh : Value) (i : Nat) (X : List (Addr × Obj)) (s : Shared) : Prop where
  ex : ∃ h tk v1 v3 oI oT ta tb k, s = { sR with heap := h, toks := tk } ∧ Fr g0 C h (resM v1 (some (.ref T2)) v3 wh DL) ∧ News g0 C h ((I2, oI) :: (T2, oT) :: X) ∧ h.IsListIter I2 DL i ∧ oT.cls = .type "tuple" ∧ oT.data = .seq #[.str (Str.ofString "  ") ta, .str tag tb] k
  off : Off I2 ((T2, default) :: X)
  dl : (DL, lst dv nD) ∈ X
noncomputable def GenF (sR : Shared) (g0 : Heap) (C : Addr) (X : List (Addr × Obj)) (s : Shared) : Prop := ∃ h tk m, s = { sR with heap := h, toks := tk } ∧ Fr g0 C h m ∧ News g0 C h X
noncomputable def GEnd (M : Model) (A : Around) (Iv : Nat → List (Addr × Obj) → Shared → Prop) (Fn : List (Addr × Obj) → Shared → Prop) (tag : Str) : List Str → Nat → List (Addr × Obj) → End → Shared → Prop
  | [], _, X => fun e s' => e = .ret (.ok (.ret .none)) ∧ Fn X s'
  | x :: r, i, X => fun e s' => if tstR tag x = true then (∃ t l k c p fs, e = .susp (.str (Txt.slice x (some 2) none) t) false l k c p fs ∧ fs.any Frame.guarded = false ∧ Iv (i + 1) X s' ∧ ∀ X' s'', Iv (i + 1) X' s'' → SegX M A c (k (.send .none)) fs s'' (GEnd M A Iv Fn tag r (i + 1) X'))
      else GEnd M A Iv Fn tag r (i + 1) X e s'
variable {w : World} {p : Program} {loose : List Str} {mean : ExcName → Option Value} {mg mb : Str → Option Value} {A : Around} {sR : Shared} {g0 : Heap} {C DL I2 T2 : Addr} {dv : List Value} {nD : Nat} {tag : Str} {wh : Value}
set_option maxHeartbeats 1000000 in
theorem gen_loop {k : Result → Sem Fin} {l : List Value} {c₁ : Code} {p₁ : Pos} {kp : List Value} {p1 p2 p3 p4 p5 p6 q1 q2 q3 q4 y1 y2 i1 n1 : Pos} {lines : List Str}
    (hk : k (.ok .next) = .pure (.done (.ret .none))) (Xc : (KK w.params).In g0) (T : Top p loose mean mg mb g0) (hd : A.depth + 20 < recursionLimit) (hh : A.handled = none) (hw : c₁.weight ≤ 1)
    (hlines : StrsAre dv lines) (hlen : ∀ x ∈ lines, x.cps.size ≤ 1000) (hID : DL ≠ I2) :
    ∀ (ls : List Str) (i : Nat) (X : List (Addr × Obj)) (s : Shared), lines.drop i = ls → i ≤ lines.length → GenI w sR g0 C DL I2 T2 dv nD tag wh i X s →
      SegX (model PG w) A (.forLoop (.Name (Str.ofString "line") n1) (.ref I2) [.If (tstE p1 p2 p3 p4 p5 p6) [.Expr (.Yield (some (cutE q1 q2 q3 q4)) y1) y2] [] i1] [] (resE C))
        ((model PG w).den (.forLoop (.Name (Str.ofString "line") n1) (.ref I2) [.If (tstE p1 p2 p3 p4 p5 p6) [.Expr (.Yield (some (cutE q1 q2 q3 q4)) y1) y2] [] i1] [] (resE C)))
        [.ret k none false l c₁ p₁ kp] s (GEnd (model PG w) A (GenI w sR g0 C DL I2 T2 dv nD tag wh) (GenF sR g0 C) tag ls i X) := by
  have hO1 : (A.over (.forLoop (.Name (Str.ofString "line") n1) (.ref I2) [.If (tstE p1 p2 p3 p4 p5 p6) [.Expr (.Yield (some (cutE q1 q2 q3 q4)) y1) y2] [] i1] [] (resE C)) [.ret k none false l c₁ p₁ kp]).handled = none := by
    obtain ⟨ah, ad, af, ag, au⟩ := A
    obtain rfl : ah = none := hh
    rfl
  have hO2 : (A.over (.forLoop (.Name (Str.ofString "line") n1) (.ref I2) [.If (tstE p1 p2 p3 p4 p5 p6) [.Expr (.Yield (some (cutE q1 q2 q3 q4)) y1) y2] [] i1] [] (resE C)) [.ret k none false l c₁ p₁ kp]).depth + 10 < recursionLimit := by
    show A.depth + frameCount [(c₁, p₁)] + 0 + 10 < recursionLimit
    rw [frameCount_cons]
    show A.depth + (c₁.weight + 0) + 0 + 10 < recursionLimit
    omega
  have hdl' : dv.length = lines.length := hlines.length
  have nextF : ∀ {h h₁ : Heap} {m : Str → Option Value}, g0.get? I2 = none → C ≠ I2 → Fr g0 C h m → (∀ b o, b ∉ [I2] → h.get? b = some o → h₁.get? b = some o) → Fr g0 C h₁ m := fun hI hCI F hk₁ =>
    ⟨F.ns.at' fun o e => hk₁ _ o (by simpa using hCI) e, fun b o e => hk₁ b o (fun q => by rw [List.mem_singleton.mp q, hI] at e; cases e) (F.keep b o e), F.above⟩
  have nextN : ∀ {h h₁ : Heap} {nw : List (Addr × Obj)}, Off I2 nw → News g0 C h nw → (∀ b o, b ∉ [I2] → h.get? b = some o → h₁.get? b = some o) → News g0 C h₁ nw := fun off N hk₁ q hq =>
    ⟨hk₁ _ _ (by simpa using off q hq) (N q hq).1, (N q hq).2⟩
  intro ls
  induction ls with
  | nil =>
    rintro i X s hdr hi ⟨⟨h, tk, v1, v3, oI, oT, ta, tb, kk, rfl, F, N, hit, hTc, hTd⟩, off, hdl⟩
    have hin : i = dv.toArray.size := by
      have := congrArg List.length hdr
      rw [List.length_drop] at this
      simp at this ⊢
      omega
    have zI := N (I2, oI) List.mem_cons_self
    refine s_forLoop ?_
    subst hin
    refine (Walks.list hO1 I2 DL hID dv.toArray).done _ _ _ ⟨hit, News.isList N (List.mem_cons_of_mem _ (List.mem_cons_of_mem _ hdl))⟩ fun h₁ tk₁ hk₁ => ?_
    refine s_again _ _ _ _ _ _ _ _ rfl (s_block_nil (s_pop _ _ _ _ _ _ _ (.ok .next) _ rfl _ _ _ _ _ _ _ ?_))
    rw [hk]
    exact s_end _ _ _ _ _ _ (.ok (.ret .none)) _ rfl ⟨rfl, h₁, tk₁, _, rfl, nextF zI.2.2 (Ne.symm zI.2.1) F hk₁, nextN (off_cons.mp off).2 (fun q hq => N q (List.mem_cons_of_mem _ (List.mem_cons_of_mem _ hq))) hk₁⟩
  | cons x r ih =>
    rintro i X s hdr hi ⟨⟨h, tk, v1, v3, oI, oT, ta, tb, kk, rfl, F, N, hit, hTc, hTd⟩, off, hdl⟩
    have hix : lines[i]? = some x := by
      have := congrArg List.head? hdr
      simpa [List.head?_drop] using this
    have hlt : i < lines.length := (List.getElem?_eq_some_iff.mp hix).1
    have hdr' : lines.drop (i + 1) = r := by
      have := congrArg List.tail hdr
      simpa using this
    have zI := N (I2, oI) List.mem_cons_self
    have zT := N (T2, oT) (List.mem_cons_of_mem _ List.mem_cons_self)
    have off' := (off_cons.mp off)
    walk_at "seal24"
    refine s_forLoop ?_
    refine (Walks.list hO1 I2 DL hID dv.toArray).item i _ _ _ (by simpa [hdl'] using hlt) ⟨hit, News.isList N (List.mem_cons_of_mem _ (List.mem_cons_of_mem _ hdl))⟩ fun v h₁ tk₁ hv st₁ hk₁ => ?_
    have F₁ := nextF zI.2.2 (Ne.symm zI.2.1) F hk₁
    have N₁ : News g0 C h₁ ((T2, oT) :: X) := nextN (off_cons.mpr ⟨off'.1, off'.2⟩) (fun q hq => N q (List.mem_cons_of_mem _ hq)) hk₁
    obtain ⟨oI', eI', hc', hd'⟩ := st₁.1
    have N₂ : News g0 C h₁ ((I2, oI') :: (T2, oT) :: X) := fun q hq => by
      rcases List.mem_cons.mp hq with rfl | hq
      · exact ⟨eI', zI.2⟩
      · exact N₁ q hq
    refine letOwned_plain eI' ⟨_, _, hc', hd', by decide⟩ ?_
    obtain ⟨t, rfl, -⟩ := StrsAre.get hlines (show dv[i]? = some v by simpa using hv)
    rw [show lines.getD i default = x by simp [List.getD, hix]]
    refine wpAny_assign_Name (wpAny_storeName_local rfl F₁.ns (fun h₂ hn₂ hs₂ => ?_) rfl)
    have F₂ := F₁.set hn₂ hs₂
    have N₃ := N₂.set hs₂
    simp only [mp_set] at F₂
    have F₃ : Fr g0 C h₂ (resM (some (.str x t)) (some (.ref T2)) v3 wh DL) := canon [Str.ofString "line", Str.ofString "prefixes", Str.ofString "tag", Str.ofString "which", Str.ofString "delta"] F₂ rfl
    have hxl : x.cps.size ≤ 1000 := hlen x (List.mem_of_getElem? hix)
    have N₄ : News g0 C h₂ ((T2, oT) :: (I2, oI') :: X) := News.sub N₃ (by walk_at "sub")
    have hit2 : ∀ {h' : Heap}, News g0 C h' ((T2, oT) :: (I2, oI') :: X) → h'.IsListIter I2 DL (i + 1) := fun N' => ⟨oI', (N' _ (List.mem_cons_of_mem _ List.mem_cons_self)).1, hc', hd'⟩
    refine s_execs (s_If (wpAny_mono (tst_walk (tag := tag) F₃ Xc N₄ T hO2 hO1 hTc ⟨_, hTd⟩ hxl fun h₄ tk₄ F₄ N₅ => ?_) (fun _ _ q => q) fun _ _ e => e.elim))
    cases htst : tstR tag x with
    | false =>
      rw [if_neg Bool.false_ne_true]
      refine s_execs_nil (s_execs_nil (s_again _ _ _ _ _ _ _ _ rfl (SegX.mono (ih (i + 1) X _ hdr' hlt ⟨⟨h₄, tk₄, _, _, oI', oT, ta, tb, kk, rfl, F₄, News.sub N₅ (by walk_at "sub"), hit2 N₅, hTc, hTd⟩, off, hdl⟩) fun e s' he => ?_)))
      rw [GEnd]; (try dsimp only); rw [if_neg (by rw [htst]; exact Bool.false_ne_true)]
      exact he
    | true =>
      rw [if_pos rfl]
      refine s_execs (s_Yield rfl rfl rfl (wpAny_mono (cut_walk F₄ Xc N₅ T hO2 hO1 hxl fun h₅ tk₅ t₅ F₅ N₆ => ?_) (fun _ _ q => q) fun _ _ e => e.elim))
      intro l' k' p' hk'
      rw [GEnd]; (try dsimp only); rw [if_pos htst]
      refine ⟨t₅, l', k', _, p', _, rfl, rfl, ⟨⟨h₅, tk₅, _, _, oI', oT, ta, tb, kk, rfl, F₅, News.sub N₆ (by walk_at "sub"), hit2 N₆, hTc, hTd⟩, off, hdl⟩, fun X' s'' hI => ?_⟩
      exact hk' s'' _ (s_execs_nil (s_execs_nil (s_again _ _ _ _ _ _ _ _ rfl (ih (i + 1) X' s'' hdr' hlt hI))))
end
end
section
set_option maxRecDepth 100000
section
open LCg PySem.W.X
variable {w : World} {p : Program} {loose : List Str} {mean : ExcName → Option Value} {mg mb : Str → Option Value} {A : Around} {g0 : Heap} {C : Addr} {m : Str → Option Value} {X : List (Addr × Obj)} {s : Shared}
theorem try_noE {prog : Program} {env : Env} {body orelse : List Stmt} {h₀ : ExceptHandler} {hs : List ExceptHandler} {pos : Pos} {Q : Flow → Shared → Prop}
    (h : wpAny (model prog w) A (execs body env) (fun f s₁ => match f with | .next => wpAny (model prog w) A (execs orelse env) Q NoE s₁ | f => Q f s₁) NoE s) :
    wpAny (model prog w) A (exec (.Try body (h₀ :: hs) orelse [] pos) env) Q NoE s :=
  wpAny_Try_except (wpAny_mono h (fun _ _ q => q) fun _ _ e => e.elim)
noncomputable abbrev resTry : Stmt := resB.head (List.cons_ne_nil _ _)
noncomputable def tagOf (wh : Value) (tag : Str) : Prop := (∃ t, wh = .int 1 t ∧ tag = Str.ofString "- ") ∨ (∃ t, wh = .int 2 t ∧ tag = Str.ofString "+ ") ∨ (∃ t, wh = .str (Str.ofString "1") t ∧ tag = Str.ofString "- ") ∨ (∃ t, wh = .str (Str.ofString "2") t ∧ tag = Str.ofString "+ ")
set_option maxHeartbeats 1000000 in
theorem try_walk {st : Stmt} (hst : st = resTry) {Q : Flow → Shared → Prop} {DL : Addr} {wh : Value} {tag : Str} (htag : tagOf wh tag)
    (F : Fr g0 C s.heap (mp [(Str.ofString "which", some wh), (Str.ofString "delta", some (.ref DL))])) (Xc : (KK w.params).In g0) (N : News g0 C s.heap X) (T : Top p loose mean mg mb g0) (hd : A.depth + 10 < recursionLimit) (hh : A.handled = none)
    (ret : ∀ h' tk t, Fr g0 C h' (mp [(Str.ofString "tag", some (.str tag t)), (Str.ofString "which", some wh), (Str.ofString "delta", some (.ref DL))]) → News g0 C h' X → Q .next { s with heap := h', toks := tk }) :
    wpAny (model PG w) A (exec st (resE C)) Q NoE s := by
  subst hst
  obtain ⟨ah, ad, af, ag, au⟩ := A
  obtain rfl : ah = none := hh
  replace hd : ad + 10 < recursionLimit := hd
  have e : resTry = Stmt.Try _ _ _ _ _ := rfl
  rw [e]
  refine try_noE ?_
  rcases htag with ⟨t, rfl, rfl⟩ | ⟨t, rfl, rfl⟩ | ⟨t, rfl, rfl⟩ | ⟨t, rfl, rfl⟩
  all_goals (
    k_steps
    rename Fr g0 C _ _ => F9
    rename News g0 C _ _ => N9
    simp only [mp_set] at F9
    exact ret _ _ _ (canon [Str.ofString "tag", Str.ofString "which", Str.ofString "delta"] F9 rfl) (News.sub N9 (by walk_at "sub")))
noncomputable abbrev resPre : Stmt := (resB.drop 1).head (List.cons_ne_nil _ _)
set_option maxHeartbeats 1000000 in
theorem pre_walk {st : Stmt} (hst : st = resPre) {Q : Flow → Shared → Prop} {DL : Addr} {wh : Value} {tag : Str} {tt : Tok}
    (F : Fr g0 C s.heap (mp [(Str.ofString "tag", some (.str tag tt)), (Str.ofString "which", some wh), (Str.ofString "delta", some (.ref DL))])) (Xc : (KK w.params).In g0) (N : News g0 C s.heap X) (T : Top p loose mean mg mb g0) (hd : A.depth + 10 < recursionLimit) (hh : A.handled = none)
    (ret : ∀ h' tk T2 oT ta, Fr g0 C h' (resM none (some (.ref T2)) (some (.str tag tt)) wh DL) → News g0 C h' ((T2, oT) :: X) → Blw T2 X → oT.cls = .type "tuple" → (∃ k, oT.data = .seq #[.str (Str.ofString "  ") ta, .str tag tt] k) → Q .next { s with heap := h', toks := tk }) :
    wpAny (model PG w) A (exec st (resE C)) Q NoE s := by
  subst hst
  obtain ⟨ah, ad, af, ag, au⟩ := A
  obtain rfl : ah = none := hh
  replace hd : ad + 10 < recursionLimit := hd
  have e : resPre = Stmt.Assign _ _ _ := rfl
  rw [e]
  k_steps
  rename Fr g0 C _ _ => F9
  rename News g0 C _ _ => N9
  rename (∀ q ∈ X, q.1 < _) => l9
  simp only [mp_set] at F9
  exact ret _ _ _ _ _ (canon [Str.ofString "line", Str.ofString "prefixes", Str.ofString "tag", Str.ofString "which", Str.ofString "delta"] F9 rfl) N9 l9 rfl ⟨_, rfl⟩
theorem resB_eq2 : ∃ tr pr p1 p2 p3 p4 p5 p6 q1 q2 q3 q4 y1 y2 i1 f1 n1 n2, tr = resTry ∧ pr = resPre ∧ resB = [tr, pr, .For (.Name (Str.ofString "line") n1) (.Name (Str.ofString "delta") n2) [.If (tstE p1 p2 p3 p4 p5 p6) [.Expr (.Yield (some (cutE q1 q2 q3 q4)) y1) y2] [] i1] [] f1] := ⟨_, _, _, _, _, _, _, _, _, _, _, _, _, _, _, _, _, _, rfl, rfl, rfl⟩
set_option maxHeartbeats 400000 in
theorem gen_start {sR : Shared} (hsR : s = { sR with heap := s.heap, toks := s.toks }) {DL : Addr} {dv : List Value} {nD : Nat} {wh : Value} {tag : Str} {lines : List Str} (htag : tagOf wh tag)
    (F : Fr g0 C s.heap (mp [(Str.ofString "which", some wh), (Str.ofString "delta", some (.ref DL))])) (Xc : (KK w.params).In g0) (N : News g0 C s.heap X) (T : Top p loose mean mg mb g0) (hd : A.depth + 40 < recursionLimit) (hh : A.handled = none)
    (hdl : (DL, lst dv nD) ∈ X) (hlines : StrsAre dv lines) (hlen : ∀ x ∈ lines, x.cps.size ≤ 1000) :
    SegX (model PG w) A (.func resB (resE C)) ((model PG w).den (.func resB (resE C))) [] s (fun e s' => ∃ I2 T2, GEnd (model PG w) A (GenI w sR g0 C DL I2 T2 dv nD tag wh) (GenF sR g0 C) tag lines 0 X e s') := by
  obtain ⟨sh, sg, sd, st, so⟩ := s
  obtain ⟨sh', sg', sd', st', so'⟩ := sR
  simp only [Shared.mk.injEq, true_and, and_true] at hsR
  obtain ⟨rfl, rfl, rfl⟩ := hsR
  have hO1 : (A.over (.func resB (resE C)) []).handled = none := by
    obtain ⟨ah, ad, af, ag, au⟩ := A
    obtain rfl : ah = none := hh
    rfl
  have hO2 : (A.over (.func resB (resE C)) []).depth + 10 < recursionLimit := by
    show A.depth + 0 + 1 + 10 < recursionLimit
    omega
  obtain ⟨tr, pr, p1, p2, p3, p4, p5, p6, q1, q2, q3, q4, y1, y2, i1, f1, n1, n2, htr, hpr, eB⟩ := resB_eq2
  refine s_func ?_
  rw [show execs resB (resE C) = execs [tr, pr, _] (resE C) from congrArg (fun b => execs b (resE C)) eB]
  have W1 : wpAny (model PG w) (A.over (.func resB (resE C)) []) (exec tr (resE C)) (fun f s₁ => f = .next ∧ ∃ h₁ tk₁ tt, s₁ = ⟨h₁, sg, sd, tk₁, so⟩ ∧ Fr g0 C h₁ (mp [(Str.ofString "tag", some (.str tag tt)), (Str.ofString "which", some wh), (Str.ofString "delta", some (.ref DL))]) ∧ News g0 C h₁ X) NoE ⟨sh, sg, sd, st, so⟩ :=
    try_walk htr htag F Xc N T hO2 hO1 fun h₁ tk₁ tt F₁ N₁ => ⟨rfl, h₁, tk₁, tt, rfl, F₁, N₁⟩
  refine s_execs ?_
  refine s_wrap ?_
  refine wpAny_mono W1 (fun f s₁ hf => ?_) fun _ _ e => e.elim
  obtain ⟨rfl, h₁, tk₁, tt, rfl, F₁, N₁⟩ := hf
  have W2 : wpAny (model PG w) (A.over (.func resB (resE C)) []) (exec pr (resE C)) (fun f s₁ => f = .next ∧ ∃ h₂ tk₂ T2 oT ta, s₁ = ⟨h₂, sg, sd, tk₂, so⟩ ∧ Fr g0 C h₂ (resM none (some (.ref T2)) (some (.str tag tt)) wh DL) ∧ News g0 C h₂ ((T2, oT) :: X) ∧ Blw T2 X ∧ oT.cls = .type "tuple" ∧ ∃ k, oT.data = .seq #[.str (Str.ofString "  ") ta, .str tag tt] k) NoE ⟨h₁, sg, sd, tk₁, so⟩ :=
    pre_walk hpr F₁ Xc N₁ T hO2 hO1 fun h₂ tk₂ T2 oT ta F₂ N₂ l₂ hTc hTd => ⟨rfl, h₂, tk₂, T2, oT, ta, rfl, F₂, N₂, l₂, hTc, hTd⟩
  refine s_execs ?_
  refine s_wrap ?_
  refine wpAny_mono W2 (fun f s₂ hf => ?_) fun _ _ e => e.elim
  obtain ⟨rfl, h₂, tk₂, T2, oT, ta, rfl, F₂, N₂, l₂, hTc, hTd⟩ := hf
  obtain ⟨kk, hTd⟩ := hTd
  refine s_execs (s_For ?_)
  refine wpAny_mono (E := NoE) (Q := fun x s₁ => x = .ref DL ∧ s₁ = ⟨h₂, sg, sd, tk₂, so⟩) ?_ ?_ fun _ _ e => e.elim
  · have F' := F₂
    k_steps
  · rintro _ _ ⟨rfl, rfl⟩
    refine wpAny_pyIter_list (News.isList N₂ (List.mem_cons_of_mem _ hdl)) fun pp => ?_
    have hz : ∀ q ∈ (T2, oT) :: X, @Ne Nat q.1 h₂.objs.size := fun q hq => Nat.ne_of_lt (Heap.lt_size (N₂ q hq).1)
    refine SegX.mono (gen_loop (c₁ := .func resB (resE C)) (sR := ⟨sh', sg, sd, st', so⟩) (I2 := h₂.objs.size) (T2 := T2) (dv := dv) (nD := nD) (tag := tag) (wh := wh) rfl Xc T (by omega) hh (Nat.le_refl 1) hlines hlen (hz (DL, lst dv nD) (List.mem_cons_of_mem _ hdl)) lines 0 X _ rfl (Nat.zero_le _)
      ⟨⟨_, tk₂, none, _, { cls := .type "list_iterator", data := .fields #[.ref DL, .int 0 0] }, oT, ta, _, kk, rfl, F₂.push _, fun q hq => ?_, ⟨_, Heap.get?_push_size _ rfl, rfl, rfl⟩, hTc, hTd⟩, fun q hq => ?_, hdl⟩) fun e s' he => ⟨_, _, he⟩
    · rcases List.mem_cons.mp hq with rfl | hq
      · exact ⟨Heap.get?_push_size _ rfl, Nat.ne_of_gt F₂.ns.lt, next_is_new F₂⟩
      · exact ⟨Heap.get?_push_of_some _ (N₂ q hq).1, (N₂ q hq).2⟩
    · rcases List.mem_cons.mp hq with rfl | hq
      · exact hz (T2, oT) List.mem_cons_self
      · exact hz q (List.mem_cons_of_mem _ hq)
end
end
section
set_option maxRecDepth 100000
section
open LCg PySem.W.X
theorem list_drain {prog : Program} {w : World} {A : Around} {s : Shared} {Q : Value → Shared → Prop} {E : Value → Shared → Prop} {I : Addr} {g : Nat} (hg : s.heap.IsGen I g)
    (loop : ∀ h₁ c, (∀ b o, s.heap.get? b = some o → h₁.get? b = some o) → h₁.get? s.heap.objs.size = some (Mine.lst [] c) → codeAny (model prog w) A.in1 (.builtin "list.extend.loop" ⟨[.ref s.heap.objs.size, .ref I, .none], []⟩) (wants (fun r s₂ => r = .none ∧ Q (.ref s.heap.objs.size) s₂) E) { s with heap := h₁ }) :
    wpAny (model prog w) A (call (.type "list") [.ref I]) Q E s := by
  have hI : @LT.lt Nat _ I s.heap.objs.size := let ⟨_, _, _, ho, _⟩ := hg; Heap.lt_size ho
  walk_at "seal24"
  refine callType_codes (Q₁ := fun obj s₁ => obj = .ref s.heap.objs.size ∧ s₁ = { s with heap := s.heap.push { cls := .type "list", data := .seq #[] } }) F.called_list (F.typeCall_list_1 _) F.entry_list_init
    (code_list_new _ ⟨rfl, rfl⟩) fun obj s₁ h₁ => ?_
  obtain ⟨rfl, rfl⟩ := h₁
  have hS : (s.heap.push { cls := .type "list", data := .seq #[] }).get? s.heap.objs.size = some { cls := .type "list", data := .seq #[] } := Heap.get?_push_size _ rfl
  refine ⟨⟨_, hS, rfl⟩, F.args_list_init_2 _ _, ?_⟩
  generalize hSz : s.heap.objs.size = S at hS loop ⊢
  have up0 : ∀ b o, s.heap.get? b = some o → (s.heap.push { cls := .type "list", data := .seq #[] }).get? b = some o := fun b o e => Heap.get?_push_of_some _ e
  have nS : ∀ b o, s.heap.get? b = some o → S ≠ b := fun b o e q => by
    have z : @LT.lt Nat _ b s.heap.objs.size := Heap.lt_size e
    rw [hSz, q] at z
    exact Nat.lt_irrefl _ z
  show wpAny _ A.in1.in1 (do let old ← Builtin.List.listItems (.ref S); Builtin.List.listUpdate (.ref S) (fun _ => #[]); letGo old.toList.reverse; Builtin.List.listExtendWith (.ref S) (.ref I) .none) _ _ _
  refine wpAny_bind ?_
  unfold Builtin.List.listItems
  refine wpAny_bind (wpAny_seqItems hS rfl (wpAny_pure ?_))
  show wpAny _ A.in1.in1 (updateSeq S (fun _ => #[]) >>= fun _ => letGo (#[] : Array Value).toList.reverse >>= fun _ => Builtin.List.listExtendWith (.ref S) (.ref I) .none) _ _ _
  refine wpAny_bind (wpAny_updateSeq hS rfl ?_)
  have hS₂ := Heap.get?_update_self (Obj.mapSeq (fun _ => (#[] : Array Value))) hS rfl
  refine wpAny_bind (wpAny_letGo ?_)
  have up1 : ∀ b o, s.heap.get? b = some o → ((s.heap.push { cls := .type "list", data := .seq #[] }).update S (Obj.mapSeq (fun _ => (#[] : Array Value)))).get? b = some o :=
    fun b o e => (Heap.get?_update_other _ _ (nS b o e)).trans (up0 b o e)
  generalize hH : (s.heap.push { cls := .type "list", data := .seq #[] }).update S (Obj.mapSeq (fun _ => (#[] : Array Value))) = H at hS₂ up1 ⊢
  have hgH : H.IsGen I g := hg.keeps up1
  have hSI : S ≠ I := by let ⟨_, _, _, ho, _⟩ := hg; exact nS _ _ ho
  unfold Builtin.List.listExtendWith
  refine wpAny_bind (wpAny_typeOf (T := "generator") (v := .ref I) (let ⟨o, _, _, ho, hc, _⟩ := hgH; ⟨o, ho, hc⟩) ?_)
  have h1 : Builtin.List.listSameRef (.ref S) (.ref I) = false := by simp [Builtin.List.listSameRef, hSI]
  have h2 : (Value.type "generator" == Value.type "list") = false := by decide
  have h3 : (Value.type "generator" == Value.type "tuple") = false := by decide
  simp only [h1, h2, h3, Bool.or_false, Bool.false_eq_true, if_false]
  refine wpAny_bind (wpAny_pyIter_gen hgH ?_)
  refine wpAny_bind (wpAny_holding ?_)
  unfold Builtin.List.listLengthHint
  refine wpAny_bind (wpAny_specialOf (let ⟨o, _, _, ho, hc, _⟩ := hgH; ⟨o, ho, hc⟩) F.gen_no_len ?_)
  show wpAny _ A.in1.in1 (specialOf (Value.ref I) (Str.ofString "__length_hint__") >>= _) _ _ _
  refine wpAny_bind (wpAny_specialOf (let ⟨o, _, _, ho, hc, _⟩ := hgH; ⟨o, ho, hc⟩) F.gen_no_hint ?_)
  refine wpAny_pure ?_
  show wpAny _ A.in1.in1 (rule "list.extend.makes-room" >>= fun _ => Builtin.List.listTouch (.ref S) >>= fun _ =>
    again (.builtin "list.extend.loop" ⟨[.ref S, .ref I, .none], []⟩)) _ _ _
  refine wpAny_bind (wpAny_rule ?_)
  refine wpAny_bind ?_
  show wpAny _ A.in1.in1 (updateSeq S (·.push .none) >>= fun _ => updateSeq S (·.pop)) _ _ _
  refine wpAny_bind (wpAny_updateSeq hS₂ rfl ?_)
  have hS₃ := Heap.get?_update_self (Obj.mapSeq (·.push Value.none)) hS₂ rfl
  refine wpAny_updateSeq (hz := by seq_fits) hS₃ rfl ?_
  have hS₄ := Heap.get?_update_self (Obj.mapSeq (·.pop)) hS₃ rfl
  refine wpAny_pure ⟨plainId_quiet F.plain_extend_loop _, ?_⟩
  exact loop _ _ (fun b o e => (Heap.get?_update_other _ _ (nS b o e)).trans ((Heap.get?_update_other _ _ (nS b o e)).trans (up1 b o e))) hS₄
end
end
section
set_option maxRecDepth 100000
section
open LCg PySem.W.X
theorem GEnd.split {M : Model} {A : Around} {Iv : Nat → List (Addr × Obj) → Shared → Prop} {Fn : List (Addr × Obj) → Shared → Prop} {tag : Str} {e : End} {X : List (Addr × Obj)} {s' : Shared} : ∀ {ls : List Str} {i : Nat}, GEnd M A Iv Fn tag ls i X e s' →
    (∃ x r j t l k c p fs, ls.filter (tstR tag) = x :: r.filter (tstR tag) ∧ r.length < ls.length ∧ e = .susp (.str (Txt.slice x (some 2) none) t) false l k c p fs ∧ Iv j X s' ∧ ∀ X' s'', Iv j X' s'' → SegX M A c (k (.send .none)) fs s'' (GEnd M A Iv Fn tag r j X')) ∨
    (ls.filter (tstR tag) = [] ∧ e = .ret (.ok (.ret .none)) ∧ Fn X s')
  | [], i, h => .inr ⟨rfl, h.1, h.2⟩
  | x :: r, i, h => by
    rw [GEnd] at h
    cases ht : tstR tag x with
    | true =>
      rw [if_pos ht] at h
      obtain ⟨t, l, k, c, p, fs, he, -, hI, hk⟩ := h
      exact .inl ⟨x, r, i + 1, t, l, k, c, p, fs, List.filter_cons_of_pos ht, Nat.lt_succ_self _, he, hI, hk⟩
    | false =>
      rw [if_neg (by rw [ht]; exact Bool.false_ne_true)] at h
      rw [List.filter_cons_of_neg (by rw [ht]; exact Bool.false_ne_true)]
      rcases GEnd.split h with ⟨x', r', j, t, l, k, c, p, fs, h1, h2, h3⟩ | h
      · exact .inl ⟨x', r', j, t, l, k, c, p, fs, h1, Nat.lt_succ_of_lt h2, h3⟩
      · exact .inr h
variable {w : World} {p : Program} {loose : List Str} {mean : ExcName → Option Value} {mg mb : Str → Option Value} {A : Around} {sR : Shared} {g0 : Heap} {C DL S I : Addr} {dv : List Value} {nD g : Nat} {tag : Str} {wh : Value} {oG : Obj} {news : List (Addr × Obj)}
noncomputable abbrev upd (h : Heap) (S : Addr) (x : Str) (t : Tok) : Heap := h.update S (Obj.mapSeq (·.push (Value.str (Txt.slice x (some 2) none) t)))
noncomputable def cutR (x : Str) : Str := Txt.slice x (some 2) none
set_option maxHeartbeats 1000000 in
theorem drain_loop {R : Result → Shared → Prop} (Xc : (KK w.params).In g0) (T : Top p loose mean mg mb g0) (hd : A.depth + 60 < recursionLimit) (hh : A.handled = none)
    (hG : ∃ t u, oG = genO g t u) (hdl : (DL, lst dv nD) ∈ news) (offS : Off S ((I, oG) :: news)) (hgz : g < sR.gens.size) (hnl : ∀ h : Heap, (∀ b o, g0.get? b = some o → h.get? b = some o) → h.NoLimit) :
    ∀ (n : Nat) (ls : List Str) (s : Shared) (gs : GenState) (m : Str → Option Value) (vs : List Value) (c : Nat) (us : List Str), ls.length = n → s = { sR with heap := s.heap, toks := s.toks, gens := sR.gens.setIfInBounds g gs } → StrsAre vs us → vs.length + ls.length < 10000 →
      Fr g0 C s.heap m → News g0 C s.heap ((S, lst vs c) :: (I, oG) :: news) →
      (∀ s' : Shared, s' = { sR with heap := s.heap, toks := s'.toks, gens := sR.gens.setIfInBounds g .running } → GenRun PG w A.in1.in1 gs s' (fun e s'' => ∃ I2 T2 i, GEnd (model PG w) A.in1.in1 (GenI w { sR with gens := sR.gens.setIfInBounds g .running } g0 C DL I2 T2 dv nD tag wh) (GenF { sR with gens := sR.gens.setIfInBounds g .running } g0 C) tag ls i ((S, lst vs c) :: (I, oG) :: news) e s'')) →
      (∀ h' tk vs' c' m', StrsAre vs' (us ++ (ls.filter (tstR tag)).map cutR) → Fr g0 C h' m' → News g0 C h' ((S, lst vs' c') :: (I, oG) :: news) → R (.ok (.ret .none)) { sR with heap := h', toks := tk, gens := sR.gens.setIfInBounds g .finished }) →
      codeAny (model PG w) A (.builtin "list.extend.loop" ⟨[.ref S, .ref I, .none], []⟩) R s := by
  intro n
  induction n using Nat.strongRecOn with
  | _ n ih =>
    intro ls s gs m vs c us hn hs hvs hz F₀ N hrun done
    have zS := N (S, lst vs c) List.mem_cons_self
    have zI := N (I, oG) (List.mem_cons_of_mem _ List.mem_cons_self)
    obtain ⟨t0, u0, rfl⟩ := hG
    walk_at "seal24"
    refine codeAny_builtin F.entry_extend_loop ?_
    rw [Around.under_plainId F.plain_extend_loop _]
    show wpAny _ A.in1 (pyNext (.ref I) >>= _) _ _ s
    have hgs : s.gens[g]? = some gs := by
      rw [hs]
      show (sR.gens.setIfInBounds g gs)[g]? = _
      rw [Array.getElem?_setIfInBounds_self_of_lt hgz]
    refine wpAny_bind (next_gen (A := A.in1) (g := g) hh (hnl _ F₀.keep) (by show A.depth < recursionLimit; omega) ⟨_, _, _, zI.1, rfl, rfl, rfl⟩ hgs (hrun (s.setGen g .running) (by
      rw [hs]
      simp [Shared.setGen, Array.setIfInBounds_setIfInBounds])) ?_)
    rintro e s₁ ⟨I2, T2, i, he⟩
    rcases GEnd.split he with ⟨x, r, j, t, l, k, cc, pp, fs, h1, h2, rfl, hI, hk⟩ | ⟨h1, rfl, hF⟩
    · refine .inl ⟨_, _, _, _, _, _, _, rfl, ?_⟩
      obtain ⟨⟨h', tk', v1, v3, oI, oT, ta, tb, kk, rfl, F', N', hit, hTc, hTd⟩, hoff, hdl'⟩ := hI
      have zS' := N' (S, lst vs c) (List.mem_cons_of_mem _ (List.mem_cons_of_mem _ List.mem_cons_self))
      have hoff' := off_cons.mp hoff
      have hoff'' := off_cons.mp hoff'.2
      have nTS : @Ne Nat T2 S := fun q => by
        have z1 := (N' (T2, oT) (List.mem_cons_of_mem _ List.mem_cons_self)).1
        have z2 := zS'.1
        dsimp only at z1 z2
        rw [show T2 = S from q, z2] at z1
        have z3 := Option.some.inj z1
        rw [← z3] at hTc
        exact absurd (show Value.type "list" = Value.type "tuple" from hTc) (by decide)
      have nIS : @Ne Nat I2 S := fun q => hoff''.1 q.symm
      refine wpAny_bind ?_
      show wpAny _ A.in1 (updateSeq S (·.push (.str (Txt.slice x (some 2) none) t))) _ _ _
      refine wpAny_updateSeq zS'.1 rfl (wpAny_pure ⟨plainId_quiet F.plain_extend_loop _, ?_⟩) (by rw [List.size_toArray]; simp [sizeLine]; omega) (by show (vs.toArray.push _).size ≤ sizeLine + 1; rw [Array.size_push, List.size_toArray]; simp [sizeLine]; omega)
      have hS₂ := Heap.get?_update_self (Obj.mapSeq (·.push (Value.str (Txt.slice x (some 2) none) t))) zS'.1 rfl
      obtain ⟨c', ec'⟩ : ∃ c', Obj.mapSeq (·.push (Value.str (Txt.slice x (some 2) none) t)) (lst vs c) = lst (vs ++ [Value.str (Txt.slice x (some 2) none) t]) c' := ⟨_, by
        show ({ cls := .type "list", data := .seq (vs.toArray.push _) _ } : Obj) = _
        rw [List.push_toArray]⟩
      rw [ec'] at hS₂
      have hsb : Heap.SameBut S h' (upd h' S x t) := Heap.SameBut.update ..
      have F₃ := F'.change hsb zS'.2.1 zS'.2.2
      have keepN : ∀ q : Addr × Obj, q ∈ (I2, oI) :: (T2, oT) :: (S, lst vs c) :: (I, genO g t0 u0) :: news → q.1 ≠ S → (upd h' S x t).get? q.1 = some q.2 ∧ q.1 ≠ C ∧ g0.get? q.1 = none := fun q hq hne => ⟨hsb.extBut _ _ hne (N' q hq).1, (N' q hq).2⟩
      have N₃ : News g0 C (upd h' S x t) ((I2, oI) :: (T2, oT) :: (S, lst (vs ++ [Value.str (Txt.slice x (some 2) none) t]) c') :: (I, genO g t0 u0) :: news) := fun q hq => by
        rcases List.mem_cons.mp hq with rfl | hq
        · exact keepN _ List.mem_cons_self nIS
        · rcases List.mem_cons.mp hq with rfl | hq
          · exact keepN _ (List.mem_cons_of_mem _ List.mem_cons_self) nTS
          · rcases List.mem_cons.mp hq with rfl | hq
            · exact ⟨hS₂, zS'.2⟩
            · exact keepN q (List.mem_cons_of_mem _ (List.mem_cons_of_mem _ (List.mem_cons_of_mem _ hq))) (offS q hq)
      refine ih r.length (by omega) r _ (.suspended k l cc pp fs (false || fs.any Frame.guarded)) _ (vs ++ [Value.str (Txt.slice x (some 2) none) t]) c' (us ++ [cutR x]) rfl ?_ (hvs.append' (.cons _ _ .nil)) (by rw [List.length_append, List.length_singleton]; omega) F₃ (fun q hq => N₃ q (List.mem_cons_of_mem _ (List.mem_cons_of_mem _ hq))) (fun s' hs' => ?_) (fun h₄ tk₄ vs' c₄ m' h5 h6 h7 => done h₄ tk₄ vs' c₄ m' (by rw [h1]; simpa using h5) h6 h7)
      · show Shared.mk _ ((sR.gens.setIfInBounds g .running).setIfInBounds g _) _ _ _ = _
        rw [Array.setIfInBounds_setIfInBounds]
        rfl
      · refine SegX.mono (hk _ s' ⟨⟨upd h' S x t, s'.toks, v1, v3, oI, oT, ta, tb, kk, hs', F₃, N₃, ⟨oI, (N₃ _ List.mem_cons_self).1, ?_⟩, hTc, hTd⟩, off_cons.mpr ⟨hoff'.1, off_cons.mpr ⟨hoff''.1, hoff''.2⟩⟩, List.mem_cons_of_mem _ (List.mem_cons_of_mem _ hdl)⟩) fun e s'' he => ⟨I2, T2, j, he⟩
        obtain ⟨o', eo, hh1, hh2⟩ := hit
        rw [(N' _ List.mem_cons_self).1] at eo
        cases eo
        exact ⟨hh1, hh2⟩
    · refine .inr (.inl ⟨rfl, fun h' hk' => ?_⟩)
      obtain ⟨h₂, tk₂, m₂, rfl, F₂, N₂⟩ := hF
      refine wpAny_pure ?_
      have q := done h' tk₂ vs c m₂ (by rw [h1]; simpa using hvs) (F₂.keeps hk') (fun q hq => ⟨hk' _ _ (N₂ q hq).1, (N₂ q hq).2⟩)
      simpa [Shared.setGen, Array.setIfInBounds_setIfInBounds] using q
end
end
section
set_option maxRecDepth 100000
theorem set_back {α : Type} {a : Array α} {g : Nat} {x : α} (h : a[g]? = some x) : a.setIfInBounds g x = a := by
  apply Array.ext_getElem?
  intro i
  rw [Array.getElem?_setIfInBounds]
  by_cases e : g = i
  · subst e
    rw [if_pos rfl, h]
    split
    · rfl
    · rename_i hn
      rw [Array.getElem?_eq_none (Nat.le_of_not_lt hn)] at h
      cases h
  · rw [if_neg e]
section
open LCg PySem.W.X
variable {w : World} {p : Program} {loose : List Str} {mean : ExcName → Option Value} {mg mb : Str → Option Value} {A : Around} {h₀ : Heap} {L : Addr} {m : Str → Option Value} {news : List (Addr × Obj)} {s : Shared} {Q : Value → Shared → Prop}
set_option maxHeartbeats 1000000 in
theorem drainC {DL C a : Addr} {dv : List Value} {nD g : Nat} {wh : Value} {tag : Str} {lines : List Str} {oC : Obj} {t u : Tok}
    (F₀ : Fr h₀ L s.heap m) (X : (KK w.params).In h₀) (N : News h₀ L s.heap ((a, genO g t u) :: (C, oC) :: news)) (T : Top p loose mean mg mb h₀) (hd : A.depth + 70 < recursionLimit) (hh : A.handled = none)
    (nC : NsObj oC (mp [(Str.ofString "which", some wh), (Str.ofString "delta", some (.ref DL))])) (htag : tagOf wh tag) (hdl : (DL, lst dv nD) ∈ news) (hlines : StrsAre dv lines) (hlen : ∀ x ∈ lines, x.cps.size ≤ 1000) (hll : lines.length < 1000)
    (hLC : @LT.lt Nat _ L C) (offC : Blw C news) (hCa : @LT.lt Nat _ C a) (hgs : s.gens[g]? = some (.fresh (.func resB (resE C))))
    (ret : ∀ h' tk S ys n, Fr h₀ L h' m → News h₀ L h' ((S, lst ys n) :: news) → StrsAre ys ((lines.filter (tstR tag)).map cutR) → Blw S news → Q (.ref S) { s with heap := h', toks := tk, gens := s.gens.setIfInBounds g .finished }) :
    wpAny (model PG w) A (call (.type "list") [.ref a]) Q NoE s := by
  obtain ⟨oL, eL, fL, nL⟩ := frame_obj F₀
  have za := N (a, genO g t u) List.mem_cons_self
  have zC := N (C, oC) (List.mem_cons_of_mem _ List.mem_cons_self)
  have hgz : g < s.gens.size := by
    rcases Nat.lt_or_ge g s.gens.size with h | h
    · exact h
    · rw [Array.getElem?_eq_none h] at hgs; cases hgs
  refine list_drain (g := g) ⟨_, _, _, za.1, rfl, rfl, rfl⟩ fun h₁ c keep hS => ?_
  generalize hSz : s.heap.objs.size = S at hS
  have F₁ := F₀.keeps keep
  have nlt : ∀ {q : Addr × Obj}, q ∈ (a, genO g t u) :: (C, oC) :: news → @LT.lt Nat _ q.1 S := fun hq => hSz ▸ Heap.lt_size (N _ hq).1
  have hLS : @LT.lt Nat _ L S := hSz ▸ F₀.ns.lt
  have N₁ : News h₀ L h₁ ((S, lst [] c) :: (a, genO g t u) :: news) := fun q hq => by
    rcases List.mem_cons.mp hq with rfl | hq
    · refine ⟨hS, Nat.ne_of_gt hLS, ?_⟩
      rw [← hSz]; exact next_is_new F₀
    · have hq' : q ∈ (a, genO g t u) :: (C, oC) :: news := by
        rcases List.mem_cons.mp hq with rfl | hq
        · exact List.mem_cons_self
        · exact List.mem_cons_of_mem _ (List.mem_cons_of_mem _ hq)
      exact ⟨keep _ _ (N q hq').1, (N q hq').2⟩
  have hCS : @LT.lt Nat _ C S := nlt (List.mem_cons_of_mem _ List.mem_cons_self)
  have FC := to_gen F₁ (keep _ _ eL) hLC (keep _ _ zC.1) nC
  have NC := to_gen_news (C := C) F₁ (keep _ _ eL) N₁ (off_cons.mpr ⟨Nat.ne_of_gt hCS, off_cons.mpr ⟨Nat.ne_of_gt hCa, off_blw offC (Nat.le_refl _)⟩⟩)
  have gk := gen_keeps (L := L) F₀.above fL
  refine drain_loop (A := A.in1) (I := a) (sR := { s with heap := h₁ }) (C := C) (DL := DL) (dv := dv) (nD := nD) (g := g) (tag := tag) (wh := wh) (oG := genO g t u) (news := news) (X.keeps gk) (T.keeps gk) (by show A.depth + 60 < recursionLimit; omega) hh ⟨_, _, rfl⟩ hdl
    (off_cons.mpr ⟨Nat.ne_of_lt (nlt List.mem_cons_self), fun q hq => Nat.ne_of_lt (nlt (List.mem_cons_of_mem _ (List.mem_cons_of_mem _ hq)))⟩) hgz (fun h hk => ((T.keeps gk).nolimit).keeps hk) lines.length lines { s with heap := h₁ } (.fresh (.func resB (resE C))) _ [] c [] rfl ?_ .nil (by simp; omega) FC NC ?_ ?_
  · rw [set_back hgs]
  · intro s' hs'
    rw [hs']
    refine SegX.mono (gen_start (sR := { s with heap := h₁, gens := s.gens.setIfInBounds g .running }) rfl (X := (S, lst [] c) :: (a, genO g t u) :: news) htag FC (X.keeps gk) NC (T.keeps gk) (by show A.depth + 40 < recursionLimit; omega) hh (List.mem_cons_of_mem _ (List.mem_cons_of_mem _ hdl)) hlines hlen) fun e s'' he => ?_
    obtain ⟨I2, T2, he⟩ := he
    exact ⟨I2, T2, 0, he⟩
  · intro h' tk vs' c' m' hvs F₂ N₂
    obtain ⟨F₃, N₃, -⟩ := of_gen F₁ (keep _ _ eL) hLC F₂ N₂
    refine ⟨rfl, ?_⟩
    exact ret h' tk S vs' c' F₃ (fun q hq => N₃ q (by
      rcases List.mem_cons.mp hq with rfl | hq
      · exact List.mem_cons_self
      · exact List.mem_cons_of_mem _ (List.mem_cons_of_mem _ hq))) (by simpa using hvs) (fun q hq => nlt (List.mem_cons_of_mem _ (List.mem_cons_of_mem _ hq)))
end
end
section
set_option maxRecDepth 100000
section
open LCg PySem.W.X
variable {M : Model} {prog : Program} {w : World} {A : Around} {E : Value → Shared → Prop} {s : Shared} {env : Env}
theorem entry_unchain : entryFor table "proto.unchain" = some Builtin.«proto.unchain» := entryFor_of_tree (by kernel_rfl)
theorem exc_from {cls : String} (G : ExcRaiseFacts cls) {e : Addr} {fs : Array Value} {msg : String} {Q : Value → Shared → Prop} (he : s.heap.get? e = some { cls := .type cls, data := .fields fs }) (h : Q (.ref e) s) :
    wpAny M A (excFromValue (.ref e) msg) Q E s := by
  obtain ⟨hp, g, d, tk, os⟩ := s
  have hsub := G.isExc
  have hmeta := G.plainMeta
  unfold excFromValue
  repeat (first | refine wpAny_loadPart he ?_ | wp_step)
  exact h
theorem exc_noType {cls : String} (G : ExcRaiseFacts cls) {e : Addr} {fs : Array Value} {Q : Bool → Shared → Prop} (he : s.heap.get? e = some { cls := .type cls, data := .fields fs }) (h : Q false s) :
    wpAny M A (isType (.ref e)) Q E s := by
  obtain ⟨hp, g, d, tk, os⟩ := s
  have hsub := G.isExc
  have hmeta := G.plainMeta
  repeat (first | refine wpAny_loadPart he ?_ | wp_step)
  exact h
theorem exc_raised {cls : String} (G : ExcRaiseFacts cls) {e : Addr} {fs : Array Value} {Q : Value → Shared → Prop} (he : s.heap.get? e = some { cls := .type cls, data := .fields fs }) (h : Q (.ref e) s) :
    wpAny M A (raisedInstance (.ref e)) Q E s := by
  obtain ⟨hp, g, d, tk, os⟩ := s
  have hsub := G.isExc
  have hmeta := G.plainMeta
  unfold raisedInstance
  repeat (first | refine wpAny_loadPart he ?_ | wp_step)
  exact h
theorem unchain_one {e e1 : Addr} {o1 : Obj} {vs1 : Array Value} {Q : Value → Shared → Prop} (he1 : s.heap.get? e1 = some o1) (hd1 : o1.data = .fields vs1) (h12 : vs1[2]? = some .none) (h : Q .none s) :
    wpAny (model prog w) A (runValue (.builtin "proto.unchain" ⟨[.ref e, .ref e1, .ref e1, .bool false], []⟩)) Q E s := by
  refine wpAny_runValue (codeAny_builtin entry_unchain ?_)
  show wpAny _ _ (Builtin.«proto.unchain» _) _ _ _
  unfold Builtin.«proto.unchain»
  refine wpAny_bind (wpAny_field he1 hd1 h12 ?_)
  rw [if_pos (by decide)]
  show wpAny (model prog w) _ (pure (Fin.done (.ret .none))) _ _ _
  exact wpAny_pure h
theorem raise_from {cls : String} (G : ExcRaiseFacts cls) {x c : Expr} {pos : Pos} {Q : Flow → Shared → Prop} {e1 : Addr} (hh : A.handled = some (.ref e1))
    (hc : ∀ (s : Shared) (Q : Value → Shared → Prop), Q .none s → wpAny (model prog w) A (eval c env) Q E s)
    (h : wpAny (model prog w) A (eval x env) (fun v s₁ => ∃ e t o1 vs1, v = .ref e ∧ s₁.heap.get? e = some { cls := .type cls, data := .fields #[.ref t, .none, .none, .none, .bool false, .none] } ∧ e ≠ e1 ∧
      s₁.heap.get? e1 = some o1 ∧ o1.data = .fields vs1 ∧ vs1[2]? = some .none ∧
      ∀ h', Heap.SameBut e s₁.heap h' → h'.get? e = some { cls := .type cls, data := .fields #[.ref t, .none, .ref e1, .none, .bool true, .none] } → E (.ref e) { s₁ with heap := h' }) E s) :
    wpAny (model prog w) A (exec (.Raise (some x) (some c) pos) env) Q E s := by
  rw [arm_exec_Raise]
  refine wpAny_bind (wpAny_standAt ?_)
  simp only [evalOpt, Option.map]
  unfold raiseStmt
  refine wpAny_bind (wpAny_bind (wpAny_mono h (fun v s₁ h₁ => wpAny_bind (wpAny_standAt (wpAny_pure ?_))) fun _ _ x => x))
  obtain ⟨e, t, o1, vs1, rfl, he, hne, he1, hd1, h12, hE⟩ := h₁
  refine wpAny_bind (wpAny_holding (wpAny_bind (hc _ _ (wpAny_bind (wpAny_standAt (wpAny_pure ?_))))))
  refine wpAny_bind (wpAny_pure ?_)
  refine wpAny_bind (wpAny_holding (exc_from G he ?_))
  dsimp only
  rw [if_pos (by decide)]
  refine wpAny_bind (wpAny_pure ?_)
  refine wpAny_bind (wpAny_setField he rfl (by show 3 < 6; decide) ?_)
  have he3 := Heap.get?_update_self (Obj.mapFields (·.setIfInBounds 3 Value.none)) he rfl
  refine wpAny_bind (wpAny_setField he3 rfl (by show 4 < 6; decide) ?_)
  have he4 := Heap.get?_update_self (Obj.mapFields (·.setIfInBounds 4 (Value.bool true))) he3 rfl
  have sb : Heap.SameBut e s₁.heap ((s₁.heap.update e (Obj.mapFields (·.setIfInBounds 3 Value.none))).update e (Obj.mapFields (·.setIfInBounds 4 (Value.bool true)))) := (Heap.SameBut.update ..).trans (Heap.SameBut.update ..)
  generalize hH : (s₁.heap.update e (Obj.mapFields (·.setIfInBounds 3 Value.none))).update e (Obj.mapFields (·.setIfInBounds 4 (Value.bool true))) = H at he4 sb ⊢
  replace he4 : H.get? e = some { cls := .type cls, data := .fields #[.ref t, .none, .none, .none, .bool true, .none] } := he4
  refine wpAny_bind (exc_noType G he4 ?_)
  rw [if_neg (by decide)]
  refine wpAny_bind (exc_raised G he4 ?_)
  refine wpAny_bind ?_
  unfold setFlight
  refine wpAny_bind (wpAny_field he4 rfl (x := .none) rfl ?_)
  rw [if_neg (by decide)]
  refine wpAny_pure ?_
  unfold raiseNew
  refine wpAny_bind (wpAny_handled ?_)
  rw [hh]
  dsimp only
  rw [if_pos (show (Value.ref e1 != Value.ref e) = true from by simp [Ne.symm hne])]
  refine wpAny_bind (wpAny_holding (unchain_one ((sb.2 e1 (Ne.symm hne)).trans he1) hd1 h12 ?_))
  refine wpAny_bind ?_
  show wpAny (model prog w) A (setField (.ref e) 2 (.ref e1)) _ _ _
  refine wpAny_setField he4 rfl (by show 2 < 6; decide) ?_
  refine wpAny_throw ?_
  exact hE _ (sb.trans (Heap.SameBut.update ..)) (Heap.get?_update_self (Obj.mapFields (·.setIfInBounds 2 (Value.ref e1))) he4 rfl)
theorem note_entry {base : Heap} {env : Env} {outer : List Env} {L e : Addr} {oe : Obj} {vs : Array Value} {head : Value} {hadNext : Bool} {Q : Unit → Shared → Prop}
    (hfr : A.frames = some (env :: outer)) (hl : s.heap.FunFrames base (env :: outer)) (hf : env.frame = some L)
    (he : s.heap.get? e = some oe) (hd : oe.data = .fields vs) (hsz : 1 < vs.size)
    (h : ∀ h' T oT ts, s.heap.get? T = none → T ≠ e → h'.get? e = some (oe.mapFields (·.setIfInBounds 1 (.ref T))) → h'.get? T = some oT → oT.data = .fields ts → 3 < ts.size →
      (∀ b o, b ∉ (env :: outer).filterMap (·.frame) → b ≠ e → s.heap.get? b = some o → h'.get? b = some o) → (∀ b o, b ≠ e → s.heap.get? b = some o → ∃ sl, h'.get? b = some { o with slots := sl }) → Q () { s with heap := h' }) :
    wpAny M A (do let a ← frameOf env; let pl ← entryPlaceOf L hadNext; let b ← EntryCells.newEntry head a .none (rawInt L) .none pl; setField (.ref e) 1 b) Q E s := by
  have hene : e ∉ (env :: outer).filterMap (·.frame) := fun hm => by
    obtain ⟨_, o, ho, hnf⟩ := hl.mem hm
    rw [he] at ho; injection ho with ho; subst ho; exact hnf vs hd
  refine wpAny_bind (wpAny_frameOf_fun hfr hl hf fun h₁ hs₁ => ?_)
  refine wpAny_bind (wpAny_entryPlaceOf fun pl hpl => ?_)
  unfold EntryCells.newEntry newFields
  refine wpAny_bind (wpAny_newObj_type ?_ (hpl.sizeOk5 _ _ _ _ _))
  have he₁ : h₁.get? e = some oe := (hs₁.2.1 e hene).trans he
  have he₂ := Heap.get?_push_of_some (h := h₁) { cls := .type "traceback", dict := none, data := .fields ([head, .ref L, .none, rawInt L, .none] ++ (if pl.isEmpty then List.replicate 6 Value.none else pl)).toArray } he₁
  have hTe : h₁.objs.size ≠ e := Nat.ne_of_gt (Heap.lt_size he₁)
  have hd₃ := Obj.data_mapFields hd (·.setIfInBounds 1 (Value.ref h₁.objs.size))
  have keep : ∀ b o, b ≠ e → h₁.get? b = some o →
      ((h₁.push { cls := .type "traceback", dict := none, data := .fields ([head, .ref L, .none, rawInt L, .none] ++ (if pl.isEmpty then List.replicate 6 Value.none else pl)).toArray }).update e (Obj.mapFields (·.setIfInBounds 1 (Value.ref h₁.objs.size)))).get? b = some o := fun b o hbe hb => by
    rw [Heap.get?_update_other _ _ (Ne.symm hbe)]
    exact Heap.get?_push_of_some _ hb
  refine wpAny_setField he₂ hd hsz (h _ h₁.objs.size _ _ (Heap.get?_none_of_le (by rw [hs₁.1]; exact Nat.le_refl _)) hTe (Heap.get?_update_self _ he₂ (Obj.isFreed_of_fields hd₃)) ((Heap.get?_update_other _ _ (Ne.symm hTe)).trans (Heap.get?_push_size h₁ rfl)) rfl ?_ (fun b o hb hbe ho => keep b o hbe ((hs₁.2.1 b hb).trans ho)) fun b o hbe ho => ?_)
  · simp only [List.size_toArray, List.length_append, List.length_cons, List.length_nil] <;> omega
  · obtain ⟨sl, hs⟩ := hs₁.2.2 b o ho
    exact ⟨sl, keep b _ hbe hs⟩
variable {g0 : Heap} {C L : Addr} {m : Str → Option Value} {X frs : List (Addr × Obj)} {l : List Env}
theorem note_led {e : Addr} {oe : Obj} {vs : Array Value} {head : Value} {hadNext : Bool} {Q : Unit → Shared → Prop}
    (hfr : A.frames = some (env :: l)) (hk : env.scope.kind ≠ .module) (hf : env.frame = some C) (Fs : TI.Frs l frs) (F : Fr g0 C s.heap m) (N : News g0 C s.heap ((e, oe) :: (frs ++ X)))
    (ox : ∀ q ∈ X, q.1 ≠ e ∧ ∀ p ∈ frs, q.1 ≠ p.1) (of : ∀ p ∈ frs, p.1 ≠ e) (hd : oe.data = .fields vs) (hsz : 1 < vs.size)
    (k : ∀ h' T oT ts frs', TI.SameUp frs frs' → TI.Frs l frs' → Fr g0 C h' m → News g0 C h' ((e, oe.mapFields (·.setIfInBounds 1 (.ref T))) :: (T, oT) :: (frs' ++ X)) → T ≠ e → Off T (frs' ++ X) → oT.data = .fields ts → 3 < ts.size → Q () { s with heap := h' }) :
    wpAny M A (do let a ← frameOf env; let pl ← entryPlaceOf C hadNext; let b ← EntryCells.newEntry head a .none (rawInt C) .none pl; setField (.ref e) 1 b) Q E s := by
  have ze := N (e, oe) List.mem_cons_self
  have zf : ∀ p ∈ frs, s.heap.get? p.1 = some p.2 ∧ p.1 ≠ C ∧ g0.get? p.1 = none := fun p hp => N p (List.mem_cons_of_mem _ (List.mem_append_left _ hp))
  have zx : ∀ p ∈ X, s.heap.get? p.1 = some p.2 ∧ p.1 ≠ C ∧ g0.get? p.1 = none := fun p hp => N p (List.mem_cons_of_mem _ (List.mem_append_right _ hp))
  have gC : g0.get? C = none := Heap.get?_none_of_le F.above
  have hff : s.heap.FunFrames g0 (env :: l) := Heap.FunFrames.cons hk hf F.ns gC (Fs.fun fun p hp => ⟨(zf p hp).1, (zf p hp).2.2⟩)
  have hads : (env :: l).filterMap (·.frame) = C :: frs.map (·.1) := by rw [List.filterMap_cons, hf]; simp only [Fs.addrs]
  refine note_entry (base := g0) hfr hff hf ze.1 hd hsz fun h' T oT ts nT neT he' hT hdT hsz' keep up => ?_
  rw [hads] at keep
  obtain ⟨frs', SU, ht⟩ := TI.sameUp_of (h' := h') (frs := frs) fun p hp => up p.1 p.2 (of p hp) (zf p hp).1
  have nTo : ∀ b o, s.heap.get? b = some o → T ≠ b := fun b o hb q => by rw [q, hb] at nT; cases nT
  refine k h' T oT ts frs' SU (Fs.up SU) ⟨?_, fun b o hb => keep b o (fun hm => ?_) (fun q => ?_) (F.keep b o hb), F.above⟩ (fun q hq => ?_) neT (fun q hq => ?_) hdT hsz'
  · obtain ⟨o, es, ep, ho, r⟩ := F.ns
    obtain ⟨sl, hs⟩ := up C o (fun q => ze.2.1 q.symm) ho
    exact ⟨_, es, ep, hs, r⟩
  · rcases List.mem_cons.mp hm with rfl | hm
    · rw [gC] at hb; cases hb
    · obtain ⟨p, hp, rfl⟩ := List.mem_map.mp hm
      rw [(zf p hp).2.2] at hb; cases hb
  · rw [q, ze.2.2] at hb; cases hb
  · rcases List.mem_cons.mp hq with rfl | hq
    · exact ⟨he', ze.2⟩
    rcases List.mem_cons.mp hq with rfl | hq
    · obtain ⟨o, es, ep, ho, r⟩ := F.ns
      exact ⟨hT, nTo C o ho, TI.none_of F.keep nT⟩
    rcases List.mem_append.mp hq with hq | hq
    · obtain ⟨x, hx, e'⟩ := SU.fwd q hq
      exact ⟨ht q hq, by rw [e']; exact (zf x hx).2⟩
    · refine ⟨keep q.1 q.2 (fun hm => ?_) (ox q hq).1 (zx q hq).1, (zx q hq).2⟩
      rcases List.mem_cons.mp hm with e' | hm
      · exact (zx q hq).2.1 e'
      · obtain ⟨p, hp, e'⟩ := List.mem_map.mp hm
        exact (ox q hq).2 p hp e'.symm
  · rcases List.mem_append.mp hq with hq | hq
    · obtain ⟨x, hx, e'⟩ := SU.fwd q hq
      rw [e']
      exact (nTo x.1 x.2 (zf x hx).1).symm
    · exact (nTo q.1 q.2 (zx q hq).1).symm
theorem led_write {e : Addr} {oe : Obj} {vs : Array Value} {i : Nat} {v : Value} {Q : Unit → Shared → Prop} (F : Fr g0 C s.heap m) (N : News g0 C s.heap X) (hm : (e, oe) ∈ X) (hd : oe.data = .fields vs) (hi : i < vs.size)
    (k : ∀ h', Fr g0 C h' m → (∀ q ∈ X, q.1 ≠ e → News g0 C h' [q]) → News g0 C h' [(e, oe.mapFields (·.setIfInBounds i v))] → Q () { s with heap := h' }) :
    wpAny M A (setField (.ref e) i v) Q E s := by
  have ze := N (e, oe) hm
  have hsb : Heap.SameBut e s.heap (s.heap.update e (Obj.mapFields (·.setIfInBounds i v))) := Heap.SameBut.update ..
  refine wpAny_setField ze.1 hd hi (k _ (F.change hsb ze.2.1 ze.2.2) (fun q hq hne p hp => ?_) fun p hp => ?_)
  · rw [List.mem_singleton.mp hp]
    exact ⟨hsb.extBut _ _ hne (N q hq).1, (N q hq).2⟩
  · rw [List.mem_singleton.mp hp]
    exact ⟨Heap.get?_update_self _ ze.1 (Obj.isFreed_of_fields (Obj.data_mapFields hd _)), ze.2⟩
theorem led_flight {e T : Addr} {oe oT : Obj} {vs ts : Array Value} {Y : List (Addr × Obj)} {fl : Option Addr} {Q : Unit → Shared → Prop} (F : Fr g0 C s.heap m) (N : News g0 C s.heap ((e, oe) :: (T, oT) :: Y)) (hd : oe.data = .fields vs) (h1 : vs[1]? = some (.ref T))
    (hdT : oT.data = .fields ts) (hsz : 3 < ts.size) (neT : T ≠ e) (offT : Off T Y)
    (k : ∀ h' oT' ts', Fr g0 C h' m → News g0 C h' ((e, oe) :: (T, oT') :: Y) → oT'.data = .fields ts' → 3 < ts'.size → ts'[3]? = some (fl.elim .none fun f => rawInt f) → Q () { s with heap := h' }) :
    wpAny M A (setFlight (.ref e) fl) Q E s := by
  unfold setFlight
  refine wpAny_bind (wpAny_field (N (e, oe) List.mem_cons_self).1 hd h1 ?_)
  rw [if_pos (show (Value.ref T != Value.none) = true from by simp)]
  refine led_write F N (List.mem_cons_of_mem _ List.mem_cons_self) hdT hsz fun h' F' k1 k2 => ?_
  refine k h' (oT.mapFields (·.setIfInBounds 3 (fl.elim Value.none fun f => rawInt f))) (ts.setIfInBounds 3 (fl.elim Value.none fun f => rawInt f)) F' (fun q hq => ?_) (Obj.data_mapFields hdT _) (by simpa using hsz) (by simp [hsz])
  rcases List.mem_cons.mp hq with rfl | hq
  · exact k1 _ List.mem_cons_self neT.symm _ (List.mem_singleton.mpr rfl)
  rcases List.mem_cons.mp hq with rfl | hq
  · exact k2 _ (List.mem_singleton.mpr rfl)
  · exact k1 q (List.mem_cons_of_mem _ (List.mem_cons_of_mem _ hq)) (offT q hq) _ (List.mem_singleton.mpr rfl)
end
end
section
set_option maxRecDepth 100000
noncomputable def badMsg (i : Int) : Str := Str.ofString "unknown delta choice (must be 1 or 2): " ++ Str.ofString (toString i)
section
open LCg PySem.W.X PySem.W.KPc PySem.F
variable {M : Model} {prog : Program} {w : World} {A : Around} {E : Value → Shared → Prop} {s : Shared}
theorem reprUnder_int {b : Nat} {n : Int} {u : Tok} {Q : Value → Shared → Prop} (ha : n.natAbs.log2 < 1920) (h : Q (.str (Str.ofString (toString n)) s.toks) { s with toks := s.toks + 1 }) :
    wpAny (model prog w) A (pyReprObjUnder b (.int n u)) Q E s := by
  unfold pyReprObjUnder pyReprObjBy
  refine wpAny_bind (wpAny_of_eq (a := ()) rfl ?_)
  refine wpAny_bind (wpAny_specialOf (name := Str.ofString "__repr__") (typeIs_int s n u) PySem.F.slot_int_repr.lookup ?_)
  refine wpAny_bind (wpAny_callSpecialIfBoundBy?_slotG (name := Str.ofString "__repr__") (typeIs_int s n u) PySem.F.slot_int_repr.toG ?_)
  show wpAny _ _ (call (.builtin "int.__repr__") ([Value.int n u] ++ [])) _ _ _
  refine call_gives PySem.F.slot_int_repr (typeIs_int s n u) PySem.F.entry_int_repr (PySem.F.args_int_repr_1 _) (gives_int_repr n u ha) ⟨int_text_fits ha, ?_⟩
  exact wpAny_bind (wpAny_isInstance (T := "str") (b := true) rfl isSubtype_str_str (wpAny_pure h))
set_option maxHeartbeats 2000000 in
theorem mod_r {n : Int} {t u : Tok} (hn : n = 0 ∨ n = 3 ∨ n = -1) :
    Meets (Builtin.«str.__mod__» ⟨[.str ⟨#[117, 110, 107, 110, 111, 119, 110, 32, 100, 101, 108, 116, 97, 32, 99, 104, 111, 105, 99, 101, 32, 40, 109, 117, 115, 116, 32, 98, 101, 32, 49, 32, 111, 114, 32, 50, 41, 58, 32, 37, 114]⟩ t, .int n u], []⟩) (fun _ R s => ∀ t' k, R (.ok (.ret (.str (Str.ofString "unknown delta choice (must be 1 or 2): " ++ Str.ofString (toString n)) t'))) { s with toks := k }) := by
  have hlog : n.natAbs.log2 < 1920 := by rcases hn with rfl | rfl | rfl <;> decide +kernel
  have hlen : (Str.ofString (toString n)).length ≤ 10 := by rcases hn with rfl | rfl | rfl <;> decide +kernel
  apply KPc.meets_of
  intro _ _ _ _ _ _ _
  rw [KPc.entry_is]
  unfold Builtin.Str.percentFormat
  refine wpAny_bind (wpAny_isInstance (typeIs_int _ _ _) F.sub_int_tuple ?_)
  refine wpAny_bind (wpAny_of_eq (a := none) rfl ?_)
  refine wpAny_bind (wpAny_of_eq (KPc.fills _ _) ?_)
  kpc_if
  refine wpAny_bind (wpAny_pure ?_)
  refine wpAny_bind ?_
  rw [KPc.range_list]
  refine KPc.start ?_
  intro _ _
  refine KPc.turn ?_
  kpc_check
  repeat kpc_if
  refine wpAny_pure ?_
  kpc_piece
  refine KPc.turn ?_
  kpc_check
  repeat kpc_if
  refine wpAny_bind ?_
  refine wpAny_holding ?_
  repeat kpc_if
  refine wpAny_bind (reprUnder_int hlog ?_)
  refine wpAny_bind (wpAny_of_eq (a := some _) rfl ?_)
  refine wpAny_pure ?_
  refine wpAny_pure ?_
  first | (refine KPc.after_str (by kpc_g) (by kpc_len) (by kpc_obj) ?_; intro _ _) | (refine KPc.after_str0 (by kpc_g) (by kpc_len) (by kpc_obj) ?_; intro _ _)
  kpc_turns
theorem modR {n : Int} {t u : Tok} {Q : Value → Shared → Prop} (hn : n = 0 ∨ n = 3 ∨ n = -1) (h : ∀ t' k, Q (.str (badMsg n) t') { s with toks := k }) :
    wpAny (model prog w) A (binaryOp .Mod (.str (Str.ofString "unknown delta choice (must be 1 or 2): %r") t) (.int n u)) Q E s :=
  KPc.mod_lit (by decide +kernel) (by rcases hn with rfl | rfl | rfl <;> decide +kernel) (fun _ _ => mod_r hn) h
end
end
section
set_option maxRecDepth 100000
set_option backward.match.sparseCases false
noncomputable def resHs : List ExceptHandler := match resTry with | .Try _ hs _ _ _ => hs | _ => []
theorem sub_KK : isSubtype (.type "KeyError") (.type "KeyError") = pure true := by rw [isSubtype_type]; kernel_rfl
noncomputable def tup1 (x : Str) (u : Tok) : Obj := { cls := .type "tuple", data := .seq #[.str x u] }
noncomputable def excV (t2 T2 e1 : Addr) : Obj := { cls := .type "ValueError", data := .fields #[.ref t2, .ref T2, .ref e1, .none, .bool true, .none] }
noncomputable def resX : Expr := match resHs with | [.ExceptHandler _ _ [.Raise (some x) _ _] _] => x | _ => .Constant .none 0 default
noncomputable def resP : Pos := match resHs with | [.ExceptHandler _ _ [.Raise _ (some (.Constant _ _ p)) _] _] => p | _ => default
noncomputable abbrev whM (i : Int) (t : Tok) (DL : Addr) : Str → Option Value := mp [(Str.ofString "which", some (.int i t)), (Str.ofString "delta", some (.ref DL))]
section
open LCg PySem.W.X
variable {w : World} {p : Program} {loose : List Str} {mean : ExcName → Option Value} {mg mb : Str → Option Value} {A : Around} {g0 : Heap} {C L : Addr} {m : Str → Option Value} {X : List (Addr × Obj)} {s : Shared} {oL : Obj} {env2 : Env}
noncomputable def ExcP (s : Shared) (msg : Str) (v : Value) (s' : Shared) : Prop := ∃ e2 tk u h', v = .ref e2 ∧ Heap.MadeExc s.heap h' e2 "ValueError" [.str msg u] ∧ s' = { s with heap := h', toks := tk }
set_option maxHeartbeats 1000000 in
theorem bad_exc {x : Expr} (hx : x = resX) {DL : Addr} {t : Tok} {i : Int} (hi : i = 0 ∨ i = 3 ∨ i = -1) {E : Value → Shared → Prop}
    (F : Fr g0 C s.heap (whM i t DL)) (Xc : (KK w.params).In g0) (N : News g0 C s.heap X) (T : Top p loose mean mg mb g0) (hd : A.depth + 10 < recursionLimit) :
    wpAny (model PG w) A (eval x (resE C)) (ExcP s (badMsg i)) E s := by
  obtain ⟨ah, ad, af, ag, au⟩ := A
  replace hd : ad + 10 < recursionLimit := hd
  have e : resX = Expr.Call _ _ _ _ := rfl
  rw [hx, e]
  rcases hi with rfl | rfl | rfl
  all_goals (
    k_steps
    refine of_stop (wpAny_call_exc PySem.F.excCall_ValueError (fun h' e2 hm => ?_) (hrest := by show 1 ≤ sizeLine; decide))
    exact ⟨e2, _, _, h', rfl, hm, rfl⟩)
end
section
open LCg PySem.W.X
variable {w : World} {p : Program} {loose : List Str} {mean : ExcName → Option Value} {mg mb : Str → Option Value} {A : Around} {g0 : Heap} {C L : Addr} {m : Str → Option Value} {X : List (Addr × Obj)} {s : Shared} {oL : Obj} {env2 : Env}
set_option maxHeartbeats 1000000 in
theorem bad_caught {hs : List ExceptHandler} (hhs : hs = resHs) {h : Heap} {e DL : Addr} {t : Tok} {i : Int} (hi : i = 0 ∨ i = 3 ∨ i = -1) {Q : Flow → Shared → Prop} {E : Value → Shared → Prop} (hx : Heap.NewExc h s.heap e "KeyError")
    (hfr : A.frames = some [resE C, env2]) (Fs : TI.Frs [env2] [(L, oL)]) (oX : Off L X)
    (F : Fr g0 C h (whM i t DL)) (Xc : (KK w.params).In g0) (N : News g0 C h ((L, oL) :: X)) (T : Top p loose mean mg mb g0) (hd : A.depth + 10 < recursionLimit) (hh : A.handled = none)
    (ret : ∀ h' tk e2 T2 t2 oT2 ts sl u, Fr g0 C h' (whM i t DL) → News g0 C h' ((e2, excV t2 T2 e) :: (T2, oT2) :: (L, { oL with slots := sl }) :: (t2, tup1 (badMsg i) u) :: X) →
      oT2.data = .fields ts → 3 < ts.size → ts[3]? = some (rawInt C) → T2 ≠ e2 → Off T2 ((L, { oL with slots := sl }) :: (t2, tup1 (badMsg i) u) :: X) → Off e2 ((L, oL) :: (t2, tup1 (badMsg i) u) :: X) → @Ne Nat t2 L → E (.ref e2) { s with heap := h', toks := tk }) :
    wpAny (model PG w) A (noteFrame (.ref e) (resE C)) (fun _ s₂ => wpAny (model PG w) A (setFlight (.ref e) none) (fun _ s₃ => wpAny (model PG w) A (handleBy (.ref e) (resE C) hs) Q E s₃) E s₂) E s := by
  subst hhs
  obtain ⟨ob, tt, he, hcls, hdat⟩ := hx.there
  have zL := N (L, oL) List.mem_cons_self
  have neL : L ≠ e := fun q => by have := hx.new; rw [← q, zL.1] at this; cases this
  have oXe : Off e X := fun q hq q' => by have := hx.new; rw [← q', (N q (List.mem_cons_of_mem _ hq)).1] at this; cases this
  have Fx : Fr g0 C s.heap (whM i t DL) := F.keeps hx.keeps
  have Nx : News g0 C s.heap ((e, ob) :: ([(L, oL)] ++ X)) := fun q hq => by
    rcases List.mem_cons.mp hq with rfl | hq
    · refine ⟨he, fun q' => ?_, TI.none_of F.keep hx.new⟩
      obtain ⟨o, es, ep, ho, -⟩ := F.ns
      have := hx.new
      rw [show e = C from q', ho] at this; cases this
    · exact ⟨hx.keeps _ _ (N q hq).1, (N q hq).2⟩
  unfold noteFrame
  simp only [show (resE C).frame = some C from rfl]
  refine wpAny_bind (wpAny_field he hdat (x := .none) rfl ?_)
  rw [if_neg (by decide)]
  refine note_led hfr (show (dScope (stmtAt 7)).kind ≠ .module by decide) rfl Fs Fx Nx (fun q hq => ⟨oXe q hq, fun p hp => by rw [List.mem_singleton.mp hp]; exact oX q hq⟩) (fun p hp => by rw [List.mem_singleton.mp hp]; exact neL) hdat (by show 1 < 6; decide) fun h3 T1 oT1 ts1 frs' SU Fs' F3 N3 neT offT hdT hsz => ?_
  obtain ⟨sl, rfl⟩ := TLg.one_up SU
  have hd3 := Obj.data_mapFields hdat (·.setIfInBounds 1 (Value.ref T1))
  have hc3 := (Obj.cls_mapFields ob (·.setIfInBounds 1 (Value.ref T1))).trans hcls
  generalize ob.mapFields (·.setIfInBounds 1 (.ref T1)) = o3 at N3 hd3 hc3
  refine led_flight F3 N3 hd3 (by simp) hdT hsz neT offT fun h4 oT4 ts4 F4 N4 hd4 hz4 _ => ?_
  obtain ⟨x, c, p1, p2, p3, eh, ex, ec⟩ : ∃ x c p1 p2 p3, resHs = [ExceptHandler.ExceptHandler (some (.Name (Str.ofString "KeyError") p1)) none [Stmt.Raise (some x) (some c) p2] p3] ∧ x = resX ∧ c = .Constant .none 0 resP := ⟨_, _, _, _, _, rfl, rfl, rfl⟩
  rw [eh]
  refine wpAny_handleBy_builtin (X := "KeyError") (T := "KeyError") (b := true) kr_isExc_KeyError kr_notTuple_KeyError sub_KK (nameX_B F4 Xc (topRead_of T) (by k_is) (by boot_by_name) (by decide) ⟨rfl, ⟨_, (N4 _ List.mem_cons_self).1, hc3⟩, ?_⟩)
  rw [if_pos rfl]
  refine led_flight F4 N4 hd3 (by simp) hd4 hz4 neT offT fun h5 oT5 ts5 F5 N5 hd5 hz5 _ => ?_
  refine wpAny_execs_cons (raise_from PySem.F.excRaise_ValueError (e1 := e) rfl (fun s Q hq => ?_) ?_)
  · subst ec
    exact wpAny_of_eq (a := Value.none) rfl hq
  subst ex
  refine wpAny_mono (bad_exc rfl hi F5 Xc N5 T hd) (fun v s' hv => ?_) fun _ _ e => e
  obtain ⟨e2, tk, u, h6, rfl, hm, rfl⟩ := hv
  obtain ⟨t2, he2, nt2, ht2⟩ := hm.there
  have z5 := N5 (e, o3) List.mem_cons_self
  have k5 : ∀ {b : Addr} {o : Obj}, h5.get? b = some o → b ≠ e2 := fun {b o} ho q => by have := hm.new; rw [← q] at this; exact absurd (this.symm.trans ho) (by simp)
  have kt : ∀ {b : Addr} {o : Obj}, h5.get? b = some o → b ≠ t2 := fun {b o} ho q => by rw [← q] at nt2; exact absurd (nt2.symm.trans ho) (by simp)
  have g5 : ∀ {b : Addr}, h5.get? b = none → b ≠ C ∧ g0.get? b = none := fun {b} hb => by
    refine ⟨fun q => ?_, TI.none_of F5.keep hb⟩
    obtain ⟨o, es, ep, ho, -⟩ := F5.ns
    rw [q, ho] at hb; cases hb
  refine ⟨e2, t2, o3, _, rfl, he2, fun q => k5 z5.1 q.symm, hm.keeps _ _ z5.1, hd3, by simp, fun h7 sb he7 => ?_⟩
  have net : t2 ≠ e2 := fun q => by
    rw [q] at ht2
    rw [he2] at ht2
    exact absurd (show Value.type "ValueError" = Value.type "tuple" from congrArg PySem.Obj.cls (Option.some.inj ht2)) (by decide)
  have F7 : Fr g0 C h7 (whM i t DL) := (F5.keeps hm.keeps).change sb (g5 hm.new).1 (g5 hm.new).2
  have up7 : ∀ {b : Addr} {o : Obj}, h5.get? b = some o → h7.get? b = some o := fun {b o} ho => sb.extBut _ _ (k5 ho) (hm.keeps _ _ ho)
  have N7 : News g0 C h7 ((e2, { cls := .type "ValueError", data := .fields #[.ref t2, .none, .ref e, .none, .bool true, .none] }) :: ([(L, { oL with slots := sl })] ++ ((t2, tup1 (badMsg i) u) :: X))) := fun q hq => by
    rcases List.mem_cons.mp hq with rfl | hq
    · exact ⟨he7, g5 hm.new⟩
    rcases List.mem_append.mp hq with hq | hq
    · have z := N5 q (List.mem_cons_of_mem _ (List.mem_cons_of_mem _ (List.mem_append_left _ hq)))
      exact ⟨up7 z.1, z.2⟩
    rcases List.mem_cons.mp hq with rfl | hq
    · exact ⟨sb.extBut _ _ net ht2, g5 nt2⟩
    · have z := N5 q (List.mem_cons_of_mem _ (List.mem_cons_of_mem _ (List.mem_append_right _ hq)))
      exact ⟨up7 z.1, z.2⟩
  have zL5 := N5 (L, { oL with slots := sl }) (List.mem_cons_of_mem _ (List.mem_cons_of_mem _ List.mem_cons_self))
  have zX5 : ∀ q ∈ X, h5.get? q.1 = some q.2 := fun q hq => (N5 q (List.mem_cons_of_mem _ (List.mem_cons_of_mem _ (List.mem_append_right _ hq)))).1
  show wpAny (model PG w) (A.mark _) (noteFrame (.ref e2) (resE C)) _ _ _
  unfold noteFrame
  simp only [show (resE C).frame = some C from rfl]
  refine wpAny_bind (wpAny_field he7 rfl (x := .none) rfl ?_)
  rw [if_neg (by decide)]
  refine note_led (A := A.mark (some (.ref e))) hfr (show (dScope (stmtAt 7)).kind ≠ .module by decide) rfl Fs' F7 N7 (fun q hq => ?_) (fun p hp => by rw [List.mem_singleton.mp hp]; exact k5 zL5.1) rfl (by show 1 < 6; decide) fun h8 T2 oT2 ts2 frs'' SU2 Fs2 F8 N8 neT2 offT2 hdT2 hsz2 => ?_
  · rcases List.mem_cons.mp hq with rfl | hq
    · exact ⟨net, fun p hp => by rw [List.mem_singleton.mp hp]; exact fun q => kt zL5.1 q.symm⟩
    · exact ⟨k5 (zX5 q hq), fun p hp => by rw [List.mem_singleton.mp hp]; exact oX q hq⟩
  obtain ⟨sl2, rfl⟩ := TLg.one_up SU2
  show wpAny (model PG w) A _ _ _ _
  refine wpAny_bind (wpAny_field (N8 _ List.mem_cons_self).1 rfl (x := .ref T2) rfl ?_)
  rw [if_neg (by simp)]
  refine led_flight (fl := some C) F8 N8 rfl rfl hdT2 hsz2 neT2 offT2 fun h9 oT9 ts9 F9 N9 hd9 hz9 h39 => ?_
  exact ret h9 _ e2 T2 t2 oT9 ts9 sl2 u F9 N9 hd9 hz9 h39 neT2 offT2 (off_cons.mpr ⟨k5 zL5.1, off_cons.mpr ⟨net, fun q hq => k5 (zX5 q hq)⟩⟩) fun q => kt zL5.1 q.symm
end
end
section
set_option maxRecDepth 100000
section
open LCg PySem.W.X
variable {w : World} {p : Program} {loose : List Str} {mean : ExcName → Option Value} {mg mb : Str → Option Value} {A : Around} {g0 : Heap} {C L : Addr} {m : Str → Option Value} {X : List (Addr × Obj)} {s : Shared} {oL : Obj} {env2 : Env}
set_option maxHeartbeats 1000000 in
theorem bad_try {st : Stmt} (hst : st = resTry) {Q : Flow → Shared → Prop} {E : Value → Shared → Prop} {DL : Addr} {t : Tok} {i : Int} (hi : i = 0 ∨ i = 3 ∨ i = -1)
    (hfr : A.frames = some [resE C, env2]) (Fs : TI.Frs [env2] [(L, oL)]) (oX : Off L X)
    (F : Fr g0 C s.heap (whM i t DL)) (Xc : (KK w.params).In g0) (N : News g0 C s.heap ((L, oL) :: X)) (T : Top p loose mean mg mb g0) (hd : A.depth + 10 < recursionLimit) (hh : A.handled = none)
    (ret : ∀ h' tk e e2 T2 t2 oT2 ts sl u, Fr g0 C h' (whM i t DL) → News g0 C h' ((e2, excV t2 T2 e) :: (T2, oT2) :: (L, { oL with slots := sl }) :: (t2, tup1 (badMsg i) u) :: X) →
      oT2.data = .fields ts → 3 < ts.size → ts[3]? = some (rawInt C) → T2 ≠ e2 → Off T2 ((L, { oL with slots := sl }) :: (t2, tup1 (badMsg i) u) :: X) → Off e2 ((L, oL) :: (t2, tup1 (badMsg i) u) :: X) → @Ne Nat t2 L → E (.ref e2) { s with heap := h', toks := tk }) :
    wpAny (model PG w) A (exec st (resE C)) Q E s := by
  subst hst
  obtain ⟨ah, ad, af, ag, au⟩ := A
  obtain rfl : ah = none := hh
  replace hd : ad + 10 < recursionLimit := hd
  obtain rfl : af = some [resE C, env2] := hfr
  have e : resTry = Stmt.Try _ _ _ _ _ := rfl
  rw [e]
  walk_at "seal24"
  refine wpAny_Try_except ?_
  rcases hi with rfl | rfl | rfl
  all_goals (
    k_steps
    rename Heap.NewExc _ _ _ _ => hx
    rename News g0 C _ (_ :: (L, oL) :: X) => N1
    rename Fr g0 C _ _ => F1
    exact bad_caught rfl (by first | exact Or.inl rfl | exact Or.inr (Or.inl rfl) | exact Or.inr (Or.inr rfl)) hx rfl Fs oX F1 Xc (News.sub N1 (fun q hq => List.mem_cons_of_mem _ hq)) T hd rfl (fun h' tk e2 T2 t2 oT2 ts sl u k1 k2 k3 k4 k5 k6 k7 k8 k9 => ret h' tk _ e2 T2 t2 oT2 ts sl u k1 k2 k3 k4 k5 k6 k7 k8 k9))
set_option maxHeartbeats 400000 in
theorem bad_start {DL : Addr} {t : Tok} {i : Int} (hi : i = 0 ∨ i = 3 ∨ i = -1)
    (hfr : A.frames = some [env2]) (Fs : TI.Frs [env2] [(L, oL)]) (oX : Off L X)
    (F : Fr g0 C s.heap (whM i t DL)) (Xc : (KK w.params).In g0) (N : News g0 C s.heap ((L, oL) :: X)) (T : Top p loose mean mg mb g0) (hd : A.depth + 40 < recursionLimit) (hh : A.handled = none) :
    SegX (model PG w) A (.func resB (resE C)) ((model PG w).den (.func resB (resE C))) [] s (fun en s' => ∃ h' tk e e2 T2 t2 oT2 ts sl u, en = .ret (.error (.ref e2)) ∧ s' = { s with heap := h', toks := tk } ∧ Fr g0 C h' (whM i t DL) ∧
      News g0 C h' ((e2, excV t2 T2 e) :: (T2, oT2) :: (L, { oL with slots := sl }) :: (t2, tup1 (badMsg i) u) :: X) ∧
      oT2.data = .fields ts ∧ 3 < ts.size ∧ ts[3]? = some .none ∧ T2 ≠ e2 ∧ Off T2 ((L, oL) :: (t2, tup1 (badMsg i) u) :: X) ∧ Off e2 ((L, oL) :: (t2, tup1 (badMsg i) u) :: X) ∧ @Ne Nat t2 L) := by
  obtain ⟨ah, ad, af, ag, au⟩ := A
  obtain rfl : ah = none := hh
  obtain rfl : af = some [env2] := hfr
  have hO2 : ((⟨none, ad, some [env2], ag, au⟩ : Around).over (.func resB (resE C)) []).depth + 10 < recursionLimit := by
    show ad + 0 + 1 + 10 < recursionLimit
    replace hd : ad + 40 < recursionLimit := hd
    omega
  obtain ⟨tr, pr, p1, p2, p3, p4, p5, p6, q1, q2, q3, q4, y1, y2, i1, f1, n1, n2, htr, hpr, eB⟩ := resB_eq2
  refine s_func ?_
  rw [show execs resB (resE C) = execs [tr, pr, _] (resE C) from congrArg (fun b => execs b (resE C)) eB]
  refine s_execs ?_
  refine s_wrap ?_
  refine bad_try (X := X) htr hi rfl Fs oX F Xc N T hO2 rfl ?_
  intro h' tk e e2 T2 t2 oT2 ts sl u F1 N1 hd1 hz1 h31 ne1 off1 off2 ne2
  refine s_wrap ?_
  unfold leaving
  refine wpAny_bind (wpAny_noteFrame_inFlight (L := C) rfl (N1 _ List.mem_cons_self).1 rfl rfl (N1 _ (List.mem_cons_of_mem _ List.mem_cons_self)).1 hd1 h31 ?_)
  refine led_flight (fl := none) F1 N1 rfl rfl hd1 hz1 ne1 off1 fun h2 oT' ts' F2 N2 hd2 hz2 h32 => ?_
  refine s_end _ _ _ _ _ _ (.error (.ref e2)) _ rfl ⟨h2, tk, e, e2, T2, t2, oT', ts', sl, u, rfl, rfl, F2, N2, hd2, hz2, h32, ne1, ?_, off2, ne2⟩
  obtain ⟨o1, o2⟩ := off_cons.mp off1
  exact off_cons.mpr ⟨o1, o2⟩
end
end
section
set_option maxRecDepth 100000
theorem sub_VS : isSubtype (.type "ValueError") (.type "StopIteration") = pure false := by rw [isSubtype_type]; kernel_rfl
section
open LCg PySem.W.X
variable {w : World} {p : Program} {loose : List Str} {mean : ExcName → Option Value} {mg mb : Str → Option Value} {A : Around} {h₀ : Heap} {L : Addr} {m : Str → Option Value} {news : List (Addr × Obj)} {s : Shared} {env2 : Env}
theorem left_VS {a e2 : Addr} {o2 : Obj} {g : Nat} {t u : Tok} {E : Value → Shared → Prop} (ha : s.heap.get? a = some (genO g t u)) (he : s.heap.get? e2 = some o2) (hc : o2.cls = .type "ValueError") (h : E (.ref e2) s) :
    wpAny (model PG w) A (Builtin.Generator.genLeft (α := Fin) (.ref a) (.ref e2)) (fun _ _ => False) E s := by
  unfold Builtin.Generator.genLeft Builtin.Generator.madeByALambda
  refine wpAny_bind (wpAny_bind (wpAny_load ha (wpAny_pure ?_)))
  refine wpAny_bind (wpAny_isInstance (T := "ValueError") (b := false) ⟨o2, he, hc⟩ sub_VS ?_)
  rw [if_neg (by simp)]
  unfold Builtin.Generator.genEscaped
  refine wpAny_bind (wpAny_isInstance (T := "ValueError") (b := false) ⟨o2, he, hc⟩ sub_VS ?_)
  rw [if_pos (by simp)]
  exact wpAny_throw h
set_option maxHeartbeats 1000000 in
theorem bad_drain {DL C a : Addr} {g : Nat} {oC : Obj} {t u v : Tok} {i : Int} {Q : Value → Shared → Prop} {E : Value → Shared → Prop} (hi : i = 0 ∨ i = 3 ∨ i = -1)
    (F₀ : Fr h₀ L s.heap m) (X : (KK w.params).In h₀) (N : News h₀ L s.heap ((a, genO g t u) :: (C, oC) :: news)) (T : Top p loose mean mg mb h₀) (hd : A.depth + 70 < recursionLimit) (hh : A.handled = none)
    (hfr : A.frames = some [env2]) (hk2 : env2.scope.kind ≠ .module) (hf2 : env2.frame = some L)
    (nC : NsObj oC (whM i v DL)) (hLC : @LT.lt Nat _ L C) (offC : Blw C news) (hCa : @LT.lt Nat _ C a) (hgs : s.gens[g]? = some (.fresh (.func resB (resE C))))
    (ret : ∀ h' tk e e2 T2 t2 oT2 ts u, Fr h₀ L h' m → News h₀ L h' ((e2, excV t2 T2 e) :: (T2, oT2) :: (t2, tup1 (badMsg i) u) :: news) → oT2.data = .fields ts → 3 < ts.size → ts[3]? = some .none → T2 ≠ e2 →
      Off T2 ((t2, tup1 (badMsg i) u) :: news) → Off e2 ((t2, tup1 (badMsg i) u) :: news) → E (.ref e2) { s with heap := h', toks := tk, gens := s.gens.setIfInBounds g .finished }) :
    wpAny (model PG w) A (call (.type "list") [.ref a]) Q E s := by
  obtain ⟨oL, eL, fL, nL⟩ := frame_obj F₀
  have za := N (a, genO g t u) List.mem_cons_self
  have zC := N (C, oC) (List.mem_cons_of_mem _ List.mem_cons_self)
  have hgz : g < s.gens.size := by
    rcases Nat.lt_or_ge g s.gens.size with h | h
    · exact h
    · rw [Array.getElem?_eq_none h] at hgs; cases hgs
  walk_at "seal24"
  refine list_drain (g := g) ⟨_, _, _, za.1, rfl, rfl, rfl⟩ fun h₁ c keep hS => ?_
  have F₁ := F₀.keeps keep
  have FC : Fr h₀ C h₁ (whM i v DL) := ⟨nC.ns (keep _ _ zC.1), F₁.keep, Nat.le_trans F₀.above (Nat.le_of_lt hLC)⟩
  have hLn : h₀.get? L = none := Heap.get?_none_of_le F₀.above
  have oX : Off L ((a, genO g t u) :: news) := off_cons.mpr ⟨za.2.1, fun q hq => (N q (List.mem_cons_of_mem _ (List.mem_cons_of_mem _ hq))).2.1⟩
  have NC : News h₀ C h₁ ((L, oL) :: (a, genO g t u) :: news) := fun q hq => by
    rcases List.mem_cons.mp hq with rfl | hq
    · exact ⟨keep _ _ eL, Nat.ne_of_lt hLC, hLn⟩
    rcases List.mem_cons.mp hq with rfl | hq
    · exact ⟨keep _ _ za.1, Nat.ne_of_gt hCa, za.2.2⟩
    · have z := N q (List.mem_cons_of_mem _ (List.mem_cons_of_mem _ hq))
      exact ⟨keep _ _ z.1, Nat.ne_of_lt (offC q hq), z.2.2⟩
  have Fs : TI.Frs [env2] [(L, oL)] := ⟨hk2, hf2, by obtain ⟨es, ep, r, -⟩ := nL; exact ⟨es, ep, r⟩, trivial⟩
  refine codeAny_builtin F.entry_extend_loop ?_
  rw [Around.under_plainId F.plain_extend_loop _]
  show wpAny _ A.in1.in1 (pyNext (.ref a) >>= _) _ _ _
  refine wpAny_bind (next_gen (A := A.in1.in1) (g := g) hh (T.nolimit.keeps F₁.keep) (by show A.depth < recursionLimit; omega) ⟨_, _, _, keep _ _ za.1, rfl, rfl, rfl⟩ hgs (bad_start (s := { s with heap := h₁, gens := s.gens.setIfInBounds g .running }) hi hfr Fs oX FC X NC T (by show A.depth + 40 < recursionLimit; omega) hh) ?_)
  rintro en s₁ ⟨h', tk, e, e2, T2, t2, oT2, ts, sl, u', rfl, rfl, F2, N2, hd2, hz2, h32, ne2, off1, off2, net⟩
  refine .inr (.inr ⟨_, rfl, ?_⟩)
  have ze := N2 _ List.mem_cons_self
  refine left_VS (a := a) (g := g) (t := t) (u := u) (N2 (a, genO g t u) (by walk_at "my mem")).1 ze.1 rfl ?_
  refine wpAny_isInstance (T := "ValueError") (b := false) ⟨_, ze.1, rfl⟩ sub_VS ⟨rfl, ?_⟩
  have zL := N2 (L, { oL with slots := sl }) (by walk_at "my mem")
  obtain ⟨f1, f2⟩ := off_cons.mp off1
  obtain ⟨g1, g2⟩ := off_cons.mp off2
  have e1 : (({ s with heap := h', gens := s.gens.setIfInBounds g .running, toks := tk } : Shared).setGen g .finished) = { s with heap := h', toks := tk, gens := s.gens.setIfInBounds g .finished } := by
    simp [Shared.setGen, Array.setIfInBounds_setIfInBounds]
  have F3 : Fr h₀ L h' m := ⟨(show NsObj { oL with slots := sl } m from nL).ns zL.1, F2.keep, F₀.above⟩
  have N3 : News h₀ L h' ((e2, excV t2 T2 e) :: (T2, oT2) :: (t2, tup1 (badMsg i) u') :: news) := fun q hq => by
    rcases List.mem_cons.mp hq with rfl | hq
    · exact ⟨ze.1, Ne.symm g1, ze.2.2⟩
    rcases List.mem_cons.mp hq with rfl | hq
    · have z := N2 (T2, oT2) (by walk_at "my mem")
      exact ⟨z.1, Ne.symm f1, z.2.2⟩
    rcases List.mem_cons.mp hq with rfl | hq
    · have z := N2 (t2, tup1 (badMsg i) u') (by walk_at "my mem")
      exact ⟨z.1, net, z.2.2⟩
    · have z := N2 q (by walk_at "my mem")
      exact ⟨z.1, (N q (List.mem_cons_of_mem _ (List.mem_cons_of_mem _ hq))).2.1, z.2.2⟩
  have q := ret h' tk e e2 T2 t2 oT2 ts u' F3 N3 hd2 hz2 h32 ne2 (off_cons.mpr ⟨(off_cons.mp f2).1, (off_cons.mp (off_cons.mp f2).2).2⟩) (off_cons.mpr ⟨(off_cons.mp g2).1, (off_cons.mp (off_cons.mp g2).2).2⟩)
  rw [← e1] at q
  exact q
end
end
section
set_option maxRecDepth 100000
theorem sub_VV : isSubtype (.type "ValueError") (.type "ValueError") = pure true := by rw [isSubtype_type]; kernel_rfl
theorem exc_VE : isSubtype (.type "ValueError") (.type "BaseException") = pure true := by rw [isSubtype_type]; kernel_rfl
theorem not_VT : isSubtype (.type ((Manifest.find? "ValueError").elim "type" fun x => x.metatype)) (.type "tuple") = pure false := by
  rw [show ((Manifest.find? "ValueError").elim "type" fun x => x.metatype) = "type" from by kernel_rfl, isSubtype_type]; kernel_rfl
section
open LCg PySem.W.X
variable {M : Model} {A : Around} {E : Value → Shared → Prop} {s : Shared} {env : Env} {g0 : Heap} {L : Addr} {m : Str → Option Value} {Y : List (Addr × Obj)}
theorem note_next {e T : Addr} {oe oT : Obj} {vs ts : Array Value} {Q : Unit → Shared → Prop} (hfr : A.frames = some [env]) (hk : env.scope.kind ≠ .module) (hf : env.frame = some L)
    (F : Fr g0 L s.heap m) (N : News g0 L s.heap ((e, oe) :: (T, oT) :: Y)) (hd : oe.data = .fields vs) (h1 : vs[1]? = some (.ref T)) (hdT : oT.data = .fields ts) (hsz : 3 < ts.size) (h3 : ts[3]? = some .none) (neT : T ≠ e) (offT : Off T Y) (offe : Off e Y)
    (k : ∀ h' T' oT' ts', Fr g0 L h' m → News g0 L h' ((e, oe.mapFields (·.setIfInBounds 1 (.ref T'))) :: (T', oT') :: Y) → T' ≠ e → Off T' Y → oT'.data = .fields ts' → 3 < ts'.size → Q () { s with heap := h' }) :
    wpAny M A (noteFrame (.ref e) env) Q E s := by
  have ze := N (e, oe) List.mem_cons_self
  have zT := N (T, oT) (List.mem_cons_of_mem _ List.mem_cons_self)
  unfold noteFrame
  simp only [hf]
  refine wpAny_bind (wpAny_field ze.1 hd h1 ?_)
  rw [if_pos (show (Value.ref T != Value.none) = true from by simp)]
  refine wpAny_bind (wpAny_field zT.1 hdT h3 ?_)
  rw [if_neg (show ¬ ((Value.none == rawInt L) = true) from by simp [rawInt])]
  refine wpAny_bind (led_write F N (List.mem_cons_of_mem _ List.mem_cons_self) hdT hsz fun h' F' k1 k2 => ?_)
  have N' : News g0 L h' ((e, oe) :: ([] ++ Y)) := fun q hq => by
    rcases List.mem_cons.mp hq with rfl | hq
    · exact k1 _ List.mem_cons_self neT.symm _ (List.mem_singleton.mpr rfl)
    · exact k1 q (List.mem_cons_of_mem _ (List.mem_cons_of_mem _ hq)) (offT q hq) _ (List.mem_singleton.mpr rfl)
  refine note_led (s := { s with heap := h' }) (frs := []) hfr hk hf trivial F' N' (fun q hq => ⟨offe q hq, fun _ h => nomatch h⟩) (fun _ h => nomatch h) hd (Array.getElem?_eq_some_iff.mp h1).1 fun h2 T2 oT2 ts2 frs' SU _ F2 N2 ne2 off2 hd2 hz2 => ?_
  cases frs' with
  | nil => exact k h2 T2 oT2 ts2 F2 N2 ne2 off2 hd2 hz2
  | cons _ _ => exact SU.elim
end
end
section
set_option maxRecDepth 100000
noncomputable def codeS (wt : List Str) (c d : Nat) : Str := if d = c then Str.ofString "  " else if beats wt c d then Str.ofString "+ " else Str.ofString "- "
noncomputable def sideL (wt : List Str) (c d : Nat) : List Str := [codeS wt c d ++ one d ++ one c, Txt.item (codeS wt c d) 0 ++ one d ++ one c]
noncomputable def linesP (wt : List Str) (c : Nat) (ds : List Nat) : List Str := ds.flatMap (sideL wt c)
noncomputable def linesA (wt : List Str) (c : Nat) : List Str := linesP wt c [97, 98, 99, 100, 101] ++ [Str.ofString "? " ++ one c, Str.ofString ""]
theorem codeS_cases (wt : List Str) (c d : Nat) : codeS wt c d = Str.ofString "  " ∨ codeS wt c d = Str.ofString "+ " ∨ codeS wt c d = Str.ofString "- " := by
  unfold codeS
  split
  · exact .inl rfl
  · split
    · exact .inr (.inl rfl)
    · exact .inr (.inr rfl)
theorem set_push {α : Type} (a : Array α) (x y : α) : (a.push x).setIfInBounds a.size y = a.push y := by
  apply Array.ext_getElem?
  intro i
  rw [Array.getElem?_setIfInBounds, Array.getElem?_push, Array.getElem?_push]
  by_cases e : a.size = i
  · subst e; simp
  · rw [if_neg e]; simp [Ne.symm e]
theorem lines_ok (wt : List Str) (c : Nat) : (linesA wt c).length < 1000 ∧ ∀ x ∈ linesA wt c, x.cps.size ≤ 1000 := by
  refine ⟨by rw [linesA, List.length_append]; show 10 + 2 < 1000; decide, fun x hx => ?_⟩
  have z : ∀ a b : Str, (a ++ b).cps.size = a.cps.size + b.cps.size := fun a b => by show (a.cps ++ b.cps).size = _; rw [Array.size_append]
  have k : ∀ x ∈ [Str.ofString "  ", Str.ofString "+ ", Str.ofString "- "], x.cps.size ≤ 100 ∧ (Txt.item x 0).cps.size ≤ 100 := by decide +kernel
  have o : ∀ d, (one d).cps.size = 1 := fun _ => rfl
  rcases List.mem_append.mp hx with hx | hx
  · obtain ⟨d, -, hx⟩ := List.mem_flatMap.mp hx
    have kd : (codeS wt c d).cps.size ≤ 100 ∧ (Txt.item (codeS wt c d) 0).cps.size ≤ 100 := k _ (by rcases codeS_cases wt c d with e | e | e <;> rw [e] <;> simp)
    rcases List.mem_cons.mp hx with rfl | hx
    · rw [z, z, o, o]; omega
    · rw [List.mem_singleton.mp hx, z, z, o, o]; omega
  · rcases List.mem_cons.mp hx with rfl | hx
    · rw [z, o, show (Str.ofString "? ").cps.size = 2 by decide +kernel]; decide
    · rw [List.mem_singleton.mp hx, show (Str.ofString "").cps.size = 0 by decide +kernel]; decide
noncomputable abbrev sdM (v1 v2 : Option Value) (c : Nat) (tc : Tok) (W : Addr) : Str → Option Value := mp [(Str.ofString "one", v1), (Str.ofString "code", v2), (Str.ofString "name", some (.str (one c) tc)), (Str.ofString "wins", some (.ref W))]
noncomputable abbrev sdK : List Str := [Str.ofString "one", Str.ofString "code", Str.ofString "name", Str.ofString "wins"]
noncomputable def TupIs (s : Shared) (g : Heap) (L : Addr) (m : Str → Option Value) (nw : List (Addr × Obj)) (v : Value) (s' : Shared) : Prop :=
  ∃ h' tk T oT a b k, v = .ref T ∧ s' = { s with heap := h', toks := tk } ∧ Fr g L h' m ∧ News g L h' ((T, oT) :: nw) ∧ oT.cls = .type "tuple" ∧ oT.data = .seq #[a, b] k ∧ tagOf a (Str.ofString "- ") ∧ tagOf b (Str.ofString "+ ") ∧ Blw T nw
inductive SidJ (G : Array GenState) (wt : List Str) (c : Nat) (tc : Tok) (W DD L' : Addr) (oD1 : Obj) (rest : List (Addr × Obj)) (i : Nat) (m' : Str → Option Value) (nw : List (Addr × Obj)) (gs : Array GenState) : Prop
  | mk (_ : gs = G) (v1 v2 : Option Value) (dv : List Value) (n : Nat) (_ : m' = sdM v1 v2 c tc W) (_ : nw = (DD, lst dv n) :: (L' + 1, oD1) :: rest) (_ : StrsAre dv (linesP wt c (([97, 98, 99, 100, 101] : List Nat).take i))) : SidJ G wt c tc W DD L' oD1 rest i m' nw gs
set_option maxHeartbeats 4000000 in
theorem sidesC {w : World} {p : Program} {loose : List Str} {mean : ExcName → Option Value} {mg mb : Str → Option Value} {A : Around} {h₀ : Heap} {L : Addr} {m : Str → Option Value} {rest : List (Addr × Obj)} {s : Shared} {Q : Value → Shared → Prop}
    {W : Addr} {wv : List Value} {wn : Nat} {wt : List Str} {c : Nat} {tc : Tok}
    (F : Fr h₀ L s.heap m) (X : (KK w.params).In h₀) (N : News h₀ L s.heap rest) (T : Top p loose mean mg mb h₀) (hd : A.depth + 100 < recursionLimit) (hu : A.units + 500 < cLine) (hh : A.handled = none)
    (hW : (W, lst wv wn) ∈ rest) (hwv : StrsAre wv wt) (hc : c ∈ [97, 98, 99, 100, 101]) (hgb : AllBare s.gens)
    (ret : ∀ h' tk gs O S1 S2 y1 y2 n0 n1 n2, AllBare gs → Fr h₀ L h' m → News h₀ L h' ((O, lst [.ref S1, .ref S2] n0) :: (S2, lst y2 n2) :: (S1, lst y1 n1) :: rest) →
      StrsAre y1 (((linesA wt c).filter (tstR (Str.ofString "- "))).map cutR) → StrsAre y2 (((linesA wt c).filter (tstR (Str.ofString "+ "))).map cutR) → Blw S1 rest → @LT.lt Nat _ S1 S2 → Off O ((S2, lst y2 n2) :: (S1, lst y1 n1) :: rest) → Q (.ref O) { s with heap := h', toks := tk, gens := gs }) :
    wpAny (model PG w) A (call (.ref 203) [.str (one c) tc, .ref W]) Q NoE s := by
  obtain ⟨ah, ad, af, ag, au⟩ := A
  obtain rfl : ah = none := hh
  replace hd : ad + 100 < recursionLimit := hd
  refine wpAny_call (enterC [(Str.ofString "name", .str (one c) tc), (Str.ofString "wins", .ref W)] F X N T rfl ?cd ?ro ?bd ?lo ?ce rfl rfl rfl [(Str.ofString "wins", some (.ref W)), (Str.ofString "name", some (.str (one c) tc))] (fun _ => rfl) ?_)
  case cd => k_is
  case ro => k_room
  case bd => first | exact BindsTo.of_eq rfl | exact binds_K (by k_in) rfl (by k_is) rfl rfl rfl
  case lo => intro n; exact kinds_of ⟨.inl rfl, .inl rfl, trivial⟩
  case ce => decide +kernel
  intro g' L' h' tk' cells FG' F' N' Y' X' T' l1
  walk_at "seal24"
  obtain ⟨oD, rfl, dD⟩ := CellsAre.one Y'
  replace dD : oD.data = .cell none := dD
  simp only [List.cons_append, List.nil_append] at N'
  replace l1 : Blw L' rest := l1
  k_steps
  rename Fr g' L' _ _ => F1
  rename News g' L' _ _ => N1
  rename_i DD hA FA NA lD hB oD1 dD1
  refine of_stop (for_top ?_)
  k_steps
  replace N1 : News g' L' _ ((DD, lst [] 0) :: (L' + 1, oD1) :: rest) := N1
  obtain ⟨lDa, lDb⟩ := lD
  replace lDb : Blw DD rest := AllLt.blw lDb
  refine of_stop (for_it (src_str rfl F1) F1 N1 (SidJ s.gens wt c tc W DD L' oD1 rest)
    ⟨rfl, none, none, [], 0, mp_eq (by walk_at "alleq"), rfl, .nil⟩ ?_ ?_ (fun p hp => (List.not_mem_nil hp).elim))
  · rintro i v m₁ news₁ h tk gs I oI hi ht ⟨d, td, hdi, rfl, -, -⟩ ⟨rfl, v1, v2, dv, n, rfl, rfl, hdv⟩ F3 N3 o1 b1
    walk_at "seal24"
    (revert tk_1; intro tk; set_option tactic.hygienic false in intros) --fix
    have hd5 := abcde_at hdi
    have hi5 : i < 5 := hi
    have htk1 : ([97, 98, 99, 100, 101] : List Nat).take (i + 1) = ([97, 98, 99, 100, 101] : List Nat).take i ++ [d] := by rw [List.take_add_one, hd5]; rfl
    have hdl : dv.length ≤ 10 := by
      rw [StrsAre.length hdv]
      show (linesP wt c _).length ≤ 10
      refine Nat.le_trans (Nat.le_of_eq (show _ = ((([97, 98, 99, 100, 101] : List Nat).take i).length * 2) from ?_)) (by rw [List.length_take]; simp; omega)
      unfold linesP
      induction (([97, 98, 99, 100, 101] : List Nat).take i) with
      | nil => rfl
      | cons a r ih => rw [List.flatMap_cons, List.length_append, ih, List.length_cons]; simp [sideL]; omega
    replace o1 : Off I _ := o1
    simp only [off_cons] at o1
    obtain ⟨oI1, oI2, oI3⟩ := o1
    k_steps
    rename Fr g' L' _ _ => F4
    rename News g' L' _ _ => N4
    simp only [mp_set] at F4
    rename_i h5
    have F5 : Fr g' L' h5 (sdM (some (.str ⟨#[d]⟩ td)) v2 c tc W) := canon sdK F4 rfl
    refine of_stop (wpAny_mono (Q := ValS (fun v => ∃ t, v = .str (codeS wt c d) t) { s with heap := h5, toks := tk } g' L' (sdM (some (.str ⟨#[d]⟩ td)) v2 c tc W) ((I, oI) :: (DD, lst dv n) :: (L' + 1, oD1) :: rest)) ?_ ?_ fun _ _ e => e)
    · refine IfExp_ ?_
      k_steps
      · have e := (by assumption : ((⟨#[d]⟩ : Str) == one c) = true)
        rw [show one c = (⟨#[c]⟩ : Str) from rfl, one_eq, decide_eq_true_eq] at e
        exact ⟨⟨_, by rw [codeS, if_pos e]⟩, Same.intro (by assumption) (by assumption) (by walk_at "sub")⟩
      · have e := (by assumption : ((⟨#[d]⟩ : Str) == one c) = false)
        rw [show one c = (⟨#[c]⟩ : Str) from rfl, one_eq, decide_eq_false_iff_not] at e
        refine of_stop (IfExp_ ?_)
        k_steps
        refine of_stop (in_list_strs (vs := wv) (News.isList (by assumption : News g' L' _ _) (by walk_at "my mem")) hwv ?_)
        rw [show one c ++ (⟨#[d]⟩ : Str) = (⟨#[c, d]⟩ : Str) from rfl, show wt.any (· == (⟨#[c, d]⟩ : Str)) = beats wt c d from rfl]
        cases hb : beats wt c d
        · k_steps
          exact ⟨⟨_, by rw [codeS, if_neg e, if_neg (by rw [hb]; decide)]⟩, Same.intro (by assumption) (by assumption) (by walk_at "sub")⟩
        · k_steps
          exact ⟨⟨_, by rw [codeS, if_neg e, if_pos hb]⟩, Same.intro (by assumption) (by assumption) (by walk_at "sub")⟩
    rintro _ _ ⟨⟨tcd, rfl⟩, h6, tk6, rfl, F6, N6⟩
    dsimp only
    have hlines : linesP wt c (([97, 98, 99, 100, 101] : List Nat).take (i + 1)) = linesP wt c (([97, 98, 99, 100, 101] : List Nat).take i) ++ sideL wt c d := by
      rw [htk1]
      unfold linesP
      rw [List.flatMap_append, List.flatMap_singleton]
    have hsl : sideL wt c d = [codeS wt c d ++ one d ++ one c, Txt.item (codeS wt c d) 0 ++ one d ++ one c] := rfl
    rcases codeS_cases wt c d with hcd | hcd | hcd
    all_goals (
      rw [hcd] at hsl ⊢
      k_steps
      rename Fr g' L' _ _ => F7
      rename News g' L' _ _ => N7
      rename_i BX hX lX
      obtain ⟨ev, N8, hev⟩ : ∃ ev, News g' L' hX ((BX, lst ev 0) :: (I, oI) :: (DD, lst dv n) :: (L' + 1, oD1) :: rest) ∧ StrsAre ev (sideL wt c d) := ⟨_, N7, by rw [hsl]; exact .cons _ _ (.cons _ _ .nil)⟩
      clear N7
      have hevl : ev.length = 2 := by rw [StrsAre.length hev]; rfl
      obtain ⟨lX1, lX2, lX3, lX4⟩ := lX
      refine ext_led (vs := dv) (n := n) (vs2 := ev) (n2 := 0) (rest := (BX, lst ev 0) :: (I, oI) :: (L' + 1, oD1) :: rest) F7 N8 (by walk_at "sub") (by simp) (by walk_at "my off") (by omega) ?_
      intro h9 n9 F9 N9
      k_steps
      rename Fr g' L' _ _ => F10
      rename News g' L' _ _ => N10
      simp only [mp_set] at F10
      exact StepIt.next ((DD, lst (dv ++ ev) n9) :: (L' + 1, oD1) :: rest) (canon sdK F10 rfl) N10 (by walk_at "sub") (by walk_at "my off") (fun p hp => (List.not_mem_nil hp).elim) ⟨rfl, _, _, dv ++ ev, n9, rfl, rfl, by rw [hlines]; exact hdv.append' hev⟩)
  · rintro h tk gs m' news' ht F3 N3 ⟨rfl, v1, v2, dv, n, rfl, rfl, hdv⟩
    walk_at "seal24"
    (revert tk_1; intro tk; set_option tactic.hygienic false in intros) --fix
    rw [show (Str.ofString "abcde").cps.size = 5 by decide +kernel] at hdv
    replace hdv : StrsAre dv (linesP wt c [97, 98, 99, 100, 101]) := hdv
    have hdl : dv.length = 10 := by rw [StrsAre.length hdv]; rfl
    k_steps
    rename Fr g' L' _ _ => F7
    rename News g' L' _ _ => N7
    rename_i BX hX lX
    obtain ⟨ev, N8, hev⟩ : ∃ ev, News g' L' hX ((BX, lst ev 0) :: (DD, lst dv n) :: (L' + 1, oD1) :: rest) ∧ StrsAre ev [Str.ofString "? " ++ one c, Str.ofString ""] := ⟨_, N7, .cons _ _ (.cons _ _ .nil)⟩
    clear N7
    have hevl : ev.length = 2 := by rw [StrsAre.length hev]; rfl
    obtain ⟨lX1, lX2, lX3⟩ := lX
    refine ext_led (vs := dv) (n := n) (vs2 := ev) (n2 := 0) (rest := (BX, lst ev 0) :: (L' + 1, oD1) :: rest) F7 N8 (by walk_at "sub") (by simp) (by walk_at "my off") (by omega) ?_
    intro h9 n9 F9 N9
    have hall : StrsAre (dv ++ ev) (linesA wt c) := hdv.append' hev
    generalize dv ++ ev = dw at hall N9
    replace N9 := News.sub N9 (b := (DD, lst dw n9) :: (L' + 1, oD1) :: rest) (by walk_at "sub")
    clear N8 hev hdv hevl
    k_steps
    refine of_stop (comp_top (by with_unfolding_all rfl) rfl (by decide) ?_)
    k_steps
    replace F9 : Fr g' L' h9 (sdM v1 v2 c tc W) := F9
    replace N9 : News g' L' h9 ((DD, lst dw n9) :: (L' + 1, oD1) :: rest) := N9
    refine of_stop (wpAny_mono (Q := TupIs s g' L' (sdM v1 v2 c tc W) ((DD, lst dw n9) :: (L' + 1, oD1) :: rest)) ?_ ?_ fun _ _ e => e)
    · refine IfExp_ ?_
      k_steps
      · rename Fr g' L' _ _ => FF
        rename News g' L' _ _ => NN
        rename_i TT hTT ll
        exact ⟨_, _, _, _, _, _, _, rfl, rfl, FF, NN, rfl, rfl, .inr (.inr (.inl ⟨_, rfl, rfl⟩)), .inr (.inl ⟨_, rfl, rfl⟩), blw_cons.mpr ⟨ll.1, blw_cons.mpr ⟨ll.2.1, AllLt.blw ll.2.2⟩⟩⟩
      · rename Fr g' L' _ _ => FF
        rename News g' L' _ _ => NN
        rename_i TT hTT ll
        exact ⟨_, _, _, _, _, _, _, rfl, rfl, FF, NN, rfl, rfl, .inl ⟨_, rfl, rfl⟩, .inr (.inr (.inr ⟨_, rfl, rfl⟩)), blw_cons.mpr ⟨ll.1, blw_cons.mpr ⟨ll.2.1, AllLt.blw ll.2.2⟩⟩⟩
    rintro _ _ ⟨hT, tkT, TT, oT, a, b, kT, rfl, rfl, F10, N10, hTc, hTd, hta, htb, lT⟩
    simp only [blw_cons] at lT
    obtain ⟨lT1, lT2, lT3⟩ := lT
    refine of_stop (comp_it rfl (src_tuple rfl F10 N10 List.mem_cons_self ⟨_, (N10 _ List.mem_cons_self).1, hTc, _, hTd⟩) F10 N10 (fun i ys _ nw gs => AllBare gs ∧
        ((i = 0 ∧ ys = [] ∧ nw = (TT, oT) :: (DD, lst dw n9) :: (L' + 1, oD1) :: rest) ∨
        (i = 1 ∧ ∃ S1 y1 n1, ys = [.ref S1] ∧ nw = (S1, lst y1 n1) :: (TT, oT) :: (DD, lst dw n9) :: (L' + 1, oD1) :: rest ∧ StrsAre y1 (((linesA wt c).filter (tstR (Str.ofString "- "))).map cutR) ∧ Blw S1 rest) ∨
        (i = 2 ∧ ∃ S1 y1 n1 S2 y2 n2, ys = [.ref S1, .ref S2] ∧ nw = (S2, lst y2 n2) :: (S1, lst y1 n1) :: (TT, oT) :: (DD, lst dw n9) :: (L' + 1, oD1) :: rest ∧ StrsAre y1 (((linesA wt c).filter (tstR (Str.ofString "- "))).map cutR) ∧ StrsAre y2 (((linesA wt c).filter (tstR (Str.ofString "+ "))).map cutR) ∧ Blw S1 rest ∧ @LT.lt Nat _ S1 S2))) (fun m₂ => ⟨hgb, .inl ⟨rfl, rfl, rfl⟩⟩) ?_ (rr_e ?_) ?_)
    · rintro g₁ s₁ Cc Dc rfl i v ys m₂ nw I oI oC h tk gs hi ht hv ⟨hbg, hJ⟩ hoC F11 N11 off ne b₁
      have hi2 : i < 2 := hi
      have hvt : tagOf v (if i = 0 then Str.ofString "- " else Str.ofString "+ ") := by
        match i, hi2 with
        | 0, _ => cases (show some a = some v from hv); exact hta
        | 1, _ => cases (show some b = some v from hv); exact htb
      have hD : (DD, lst dw n9) ∈ nw ∧ (L' + 1, oD1) ∈ nw := by
        rcases hJ with ⟨-, -, rfl⟩ | ⟨-, S1, y1, n1, -, rfl, -⟩ | ⟨-, S1, y1, n1, S2, y2, n2, -, rfl, -⟩
        · exact ⟨by walk_at "my mem", by walk_at "my mem"⟩
        · exact ⟨by walk_at "my mem", by walk_at "my mem"⟩
        · exact ⟨by walk_at "my mem", by walk_at "my mem"⟩
      refine wpAny_assign_Name (store_C (pre := [(I, oI)]) (post := (Dc, lst ys ys.length) :: nw) F11 N11 hoC (fun p hp => by rw [List.mem_singleton.mp hp]; exact ne.1) (fun p hp => ?_) rfl rfl fun h12 oC2 F12 hoC2 N12 => ?_)
      · rcases List.mem_cons.mp hp with rfl | hp
        · exact Ne.symm ne.2.2
        · exact (off p hp).2.1
      refine tests_nil ?_
      rw [if_pos rfl]
      refine cact_last rfl ?_
      have hmD := hD.1
      have hmc := hD.2
      have hmw : (fun y => if y = Str.ofString "which" then some v else m₂ y) (Str.ofString "which") = some v := by simp
      generalize (fun y => if y = Str.ofString "which" then some v else m₂ y) = m₃ at hoC2 hmw
      simp only [List.cons_append, List.nil_append] at N12
      obtain ⟨hIC, hID, hCD⟩ := ne
      k_steps
      refine of_stop (restoreG F12 X' N12 T' (by k_room) ?_)
      intro h13 tk13 a13 C13 oC13 t13 u13 F13 N13 nC13 lC1 lC2 lC3
      k_steps
      obtain ⟨hl1, hl2⟩ := lines_ok wt c
      refine of_stop (drainC (DL := DD) (dv := dw) (nD := n9) (g := gs.size) (lines := linesA wt c) F13 X' N13 T' (by k_room) rfl nC13 hvt (List.mem_cons_of_mem _ (List.mem_cons_of_mem _ (List.mem_cons_of_mem _ hmD))) hall hl2 hl1 lC3 lC1 lC2 (by simp) ?_)
      intro h14 tk14 S14 ys14 n14 F14 N14 hys14 lS14
      rw [set_push]
      have lSI := lS14 (I, oI) (by walk_at "my mem")
      have lSC := lS14 (Cc, oC2) (by walk_at "my mem")
      have lSD := lS14 (Dc, lst ys ys.length) (by walk_at "my mem")
      refine CElt.intro ys ((S14, lst ys14 n14) :: nw) F14 hoC2 N14 (by walk_at "sub") (fun p hp => ?_) (fun p hp => List.mem_cons_of_mem _ (b₁ p hp)) ?_ ⟨hIC, hID, hCD⟩ ⟨hbg.push rfl, ?_⟩
      · rcases List.mem_cons.mp hp with rfl | hp
        · exact ⟨Nat.ne_of_gt lSI, Nat.ne_of_gt lSC, Nat.ne_of_gt lSD⟩
        · exact off p hp
      · rcases hJ with ⟨-, rfl, -⟩ | ⟨-, S1, y1, n1, rfl, -⟩ | ⟨-, S1, y1, n1, S2, y2, n2, rfl, -⟩ <;> simp
      · rcases hJ with ⟨rfl, rfl, rfl⟩ | ⟨rfl, S1, y1, n1, rfl, rfl, hy1, lS1⟩ | ⟨rfl, -⟩
        · refine .inr (.inl ⟨rfl, S14, ys14, n14, rfl, rfl, hys14, fun q hq => lS14 q (by walk_at "my mem")⟩)
        · refine .inr (.inr ⟨rfl, S1, y1, n1, S14, ys14, n14, rfl, rfl, hy1, hys14, lS1, lS14 (S1, lst y1 n1) (by walk_at "my mem")⟩)
        · omega
    · intro D h tk gs ys m' nw htk F11 N11 hoD
      rintro ⟨hbg, ⟨e, -⟩ | ⟨e, -⟩ | ⟨-, S1, y1, n1, S2, y2, n2, rfl, rfl, hy1, hy2, lS1, lS12⟩⟩
      · cases e
      · cases e
      k_steps
      rename Fr h₀ L _ _ => F12
      rename News h₀ L _ _ => N12
      exact ret _ _ _ D S1 S2 y1 y2 _ n1 n2 hbg F12 (News.sub N12 (by walk_at "sub")) hy1 hy2 lS1 lS12 (fun q hq => hoD q (by revert q; walk_at "sub"))
    · intro p hp
      rw [List.mem_singleton.mp hp]
      exact List.mem_cons_self
end
section
set_option maxRecDepth 100000
noncomputable abbrev lawB : List Stmt := dBody (stmtAt 24)
noncomputable def lawSt (k : Nat) : Stmt := lawB.getD k (.Pass default)
noncomputable abbrev lawEnv (L' : Addr) : Env := envX (Str.ofString "law") (dScope (stmtAt 24)) L' 225 (.ref 224) (cellsFrom (L' + 1) (dScope (stmtAt 24)).names [])
noncomputable abbrev lawM (sc pg fi se wh fa re le be th ev fv la ru tu du : Option Value) : Str → Option Value := mp [(Str.ofString "script", sc), (Str.ofString "page", pg), (Str.ofString "first", fi), (Str.ofString "second", se), (Str.ofString "which", wh), (Str.ofString "fault", fa), (Str.ofString "rest", re), (Str.ofString "lead", le), (Str.ofString "behind", be), (Str.ofString "threes", th), (Str.ofString "every", ev), (Str.ofString "fives", fv), (Str.ofString "later", la), (Str.ofString "runs", ru), (Str.ofString "turned", tu), (Str.ofString "due", du)]
noncomputable abbrev lawK : List Str := [Str.ofString "script", Str.ofString "page", Str.ofString "first", Str.ofString "second", Str.ofString "which", Str.ofString "fault", Str.ofString "rest", Str.ofString "lead", Str.ofString "behind", Str.ofString "threes", Str.ofString "every", Str.ofString "fives", Str.ofString "later", Str.ofString "runs", Str.ofString "turned", Str.ofString "due"]
noncomputable abbrev lawC (L' : Addr) (oW oS oN oB oR oC oM oG : Obj) (r : List (Addr × Obj)) : List (Addr × Obj) :=
  (L' + 1 + 1 + 1 + 1 + 1 + 1 + 1 + 1, oG) :: (L' + 1 + 1 + 1 + 1 + 1 + 1 + 1, oM) :: (L' + 1 + 1 + 1 + 1 + 1 + 1, oC) :: (L' + 1 + 1 + 1 + 1 + 1, oR) :: (L' + 1 + 1 + 1 + 1, oB) :: (L' + 1 + 1 + 1, oN) :: (L' + 1 + 1, oS) :: (L' + 1, oW) :: r
theorem cells_law (L' : Addr) : cellsFrom (L' + 1) (dScope (stmtAt 24)).names [] = [(Str.ofString "game", L' + 1 + 1 + 1 + 1 + 1 + 1 + 1 + 1), (Str.ofString "most", L' + 1 + 1 + 1 + 1 + 1 + 1 + 1), (Str.ofString "counts", L' + 1 + 1 + 1 + 1 + 1 + 1), (Str.ofString "row", L' + 1 + 1 + 1 + 1 + 1), (Str.ofString "beaten", L' + 1 + 1 + 1 + 1), (Str.ofString "name", L' + 1 + 1 + 1), (Str.ofString "scores", L' + 1 + 1), (Str.ofString "wins", L' + 1)] := rfl
section
variable {w : World} {p : Program} {loose : List Str} {mean : ExcName → Option Value} {mg mb : Str → Option Value} {ad au : Nat} {af : Option (List Env)} {ag : Option (List Code)} {g' : Heap} {L' : Addr} {s : Shared} {Q : Flow → Shared → Prop}
  {oW oS oN oB oR oC oM oG : Obj} {r : List (Addr × Obj)}
set_option maxHeartbeats 4000000 in
theorem law0 {st : Stmt} (hst : st = lawSt 0) {SC : Addr} {sv : List Value} {sn : List Int} (F : Fr g' L' s.heap (mp [(Str.ofString "script", some (.ref SC))])) (X : (KK w.params).In g') (N : News g' L' s.heap (lawC L' oW oS oN oB oR oC oM oG r)) (T : Top p loose mean mg mb g') (hd : ad + 60 < recursionLimit)
    (hS : g'.IsList SC sv.toArray) (hsn : IntsAre sv sn) (hsl : sv.length ≤ 63) (bR : Blw L' r) (dW : oW.data = .cell none)
    (ret : ∀ h' tk W wv n page tp bs oW', bs.length = 10 → PageOf page bs → StrsAre wv (winsOf bs) → oW'.data = .cell (some (.ref W)) → @LT.lt Nat _ (L' + 1 + 1 + 1 + 1 + 1 + 1 + 1 + 1) W → Blw W r → Fr g' L' h' (lawM (some (.ref SC)) (some (.str ⟨page.toArray⟩ tp)) none none none none none none none none none none none none none none) →
      News g' L' h' (lawC L' oW' oS oN oB oR oC oM oG ((W, lst wv n) :: r)) → Q .next { s with heap := h', toks := tk }) :
    wpAny (model PG w) ⟨none, ad, af, ag, au⟩ (exec st (lawEnv L')) Q NoE s := by
  have e : lawSt 0 = Stmt.Assign _ _ _ := rfl
  rw [hst, e]
  have Fx := F
  k_steps
  refine of_stop (drawn F X N T (by k_room) rfl hS hsn hsl ?_)
  intro h1 tk1 O oO W wv n page tp bs hbl hpg hwv hOc hOd lW lO F1 N1
  obtain ⟨kO, hOd⟩ := hOd
  k_steps
  refine unpackN_ F1 N1 (items := #[Value.str { cps := page.toArray } tp, Value.ref W]) ⟨_, N1.get List.mem_cons_self, hOc, _, hOd⟩ rfl rfl rfl fun h2 F2 N2 => ?_
  show wpAny _ _ (assignInOrder [assign (.Name _ _) (lawEnv L'), assign (.Name _ _) (lawEnv L')] [_, _]) _ _ _
  simp only [blw_cons] at lW
  obtain ⟨lWg, lWm, lWc, lWr, lWb, lWn, lWs, lWw, lWx⟩ := lW
  have oWr : Off (L' + 1) r := off_blw bR (by show @LE.le Nat _ _ _; omega)
  k_steps
  rename Fr g' L' _ _ => F3
  rename News g' L' _ _ => N3
  simp only [mp_set] at F3
  rename_i d3
  exact ret _ _ W wv n page tp bs _ hbl hpg hwv d3 lWg lWx (canon lawK F3 rfl) (News.sub N3 (by walk_at "sub"))
end
end
section
set_option maxRecDepth 100000
section
variable {w : World} {p : Program} {loose : List Str} {mean : ExcName → Option Value} {mg mb : Str → Option Value} {ad au : Nat} {af : Option (List Env)} {ag : Option (List Code)} {g' : Heap} {L' : Addr} {s : Shared} {Q : Flow → Shared → Prop}
  {oW oS oN oB oR oC oM oG : Obj} {r : List (Addr × Obj)} {sc pg fi se wh fa re le be th ev fv la ru tu du : Option Value}
theorem wins_ok (bs : List Bool) (h : bs.length = 10) : OkStrs (winsOf bs) := by
  intro x hx
  obtain ⟨i, hi, rfl⟩ := List.mem_map.mp hx
  have hi' : i < 10 := by have := List.mem_range.mp hi; omega
  have k : ∀ i : Fin 10, PyData.strOk (gamesT.getD i.val default) = true ∧ PyData.strOk (revT (gamesT.getD i.val default)) = true := by decide +kernel
  have := k ⟨i, hi'⟩
  split
  · exact this.1
  · exact this.2
set_option maxHeartbeats 4000000 in
theorem law1 {st : Stmt} (hst : st = lawSt 1) {page : List Nat} {tp : Tok} {bs : List Bool} {W : Addr} {wv : List Value} {n : Nat} (F : Fr g' L' s.heap (lawM sc (some (.str ⟨page.toArray⟩ tp)) fi se wh fa re le be th ev fv la ru tu du)) (X : (KK w.params).In g') (N : News g' L' s.heap (lawC L' oW oS oN oB oR oC oM oG r)) (T : Top p loose mean mg mb g') (hd : ad + 60 < recursionLimit) (hu : au + 1000 < cLine)
    (hbl : bs.length = 10) (hpg : PageOf page bs) (hwv : StrsAre wv (winsOf bs)) (dW : oW.data = .cell (some (.ref W))) (hW : (W, lst wv n) ∈ r)
    (ret : ∀ h' tk, Fr g' L' h' (lawM sc (some (.str ⟨page.toArray⟩ tp)) fi se wh fa re le be th ev fv la ru tu du) → News g' L' h' (lawC L' oW oS oN oB oR oC oM oG r) → Q .next { s with heap := h', toks := tk }) :
    wpAny (model PG w) ⟨none, ad, af, ag, au⟩ (exec st (lawEnv L')) Q NoE s := by
  have e : lawSt 1 = Stmt.If _ _ _ _ := rfl
  rw [hst, e]
  have Fx := F
  have hWW : ∀ {l : List (Addr × Obj)}, (W, lst wv n) ∈ l ++ (lawC L' oW oS oN oB oR oC oM oG r) := fun {l} => List.mem_append_right _ (by walk_at "my mem")
  k_steps
  refine of_stop (readC F X N T (by k_room) rfl ?_ ?_ ?_)
  · intro i
    refine Nat.le_trans (read_take page i) ?_
    rw [hpg.read, winsOf_len, hbl]
    exact Nat.le_refl _
  · intro c hc
    exact hpg.ex c (by simpa using hc)
  intro h1 tk1 D vs n1 hvs oD F1 N1
  replace hvs : StrsAre vs (readP page) := hvs
  rw [hpg.read] at hvs
  have hok := wins_ok bs hbl
  k_steps
  refine of_stop (ne_strs N1 List.mem_cons_self (by walk_at "my mem") hvs hwv hok hok (by show au + 64 < cLine; omega) ?_)
  rw [decide_eq_true rfl, Bool.not_true]
  k_steps
  rename Fr g' L' _ _ => F3
  rename News g' L' _ _ => N3
  exact ret _ _ F3 (News.sub N3 (by walk_at "sub"))
end
end
section
set_option maxRecDepth 100000
section
variable {w : World} {p : Program} {loose : List Str} {mean : ExcName → Option Value} {mg mb : Str → Option Value} {ad au : Nat} {af : Option (List Env)} {ag : Option (List Code)} {g' : Heap} {L' : Addr} {s : Shared} {Q : Flow → Shared → Prop}
  {oW oS oN oB oR oC oM oG : Obj} {r : List (Addr × Obj)} {sc pg fi se wh fa re le be th ev fv la ru tu du : Option Value}
set_option maxHeartbeats 4000000 in
theorem law2 {st : Stmt} (hst : st = lawSt 2) (F : Fr g' L' s.heap (lawM sc pg fi se wh fa re le be th ev fv la ru tu du)) (N : News g' L' s.heap (lawC L' oW oS oN oB oR oC oM oG r)) (X : (KK w.params).In g') (T : Top p loose mean mg mb g') (hd : ad + 60 < recursionLimit)
    (dS : oS.data = .cell none) (oSr : Off (L' + 1 + 1) r)
    (ret : ∀ h' tk S oS' oD, DictSI w oD [] → (S == sysModules) = false → Fr g' L' h' (lawM sc pg fi se wh fa re le be th ev fv la ru tu du) → oS'.data = .cell (some (.ref S)) → @LT.lt Nat _ (L' + 1 + 1 + 1 + 1 + 1 + 1 + 1 + 1) S → Blw S r → News g' L' h' (lawC L' oW oS' oN oB oR oC oM oG ((S, oD) :: r)) → Q .next { s with heap := h', toks := tk }) :
    wpAny (model PG w) ⟨none, ad, af, ag, au⟩ (exec st (lawEnv L')) Q NoE s := by
  have e : lawSt 2 = Stmt.Assign _ _ _ := rfl
  rw [hst, e]
  k_steps
  rename Fr g' L' _ _ => F3
  rename News g' L' _ _ => N3
  rename (_ == sysModules) = false => hlo
  rename Obj.IsDictOf (PySem.strKind PG w) _ _ => hid
  rename PyProof.V.FlatPairs PyData.str _ _ => hfl
  rename_i S _ oD _ _ _ _ ll _ _ dd
  exact ret _ _ S _ oD ⟨_, hid, hfl⟩ hlo F3 dd ll.1 (AllLt.blw ll.2.2.2.2.2.2.2.2) (News.sub N3 (by walk_at "sub"))
end
end
section
set_option maxRecDepth 100000
noncomputable def abc5 : List Nat := [97, 98, 99, 100, 101]
noncomputable def scoreOf (wt : List Str) (c : Nat) : Nat := (abc5.filter (fun d => beats wt c d)).length
noncomputable def scP (wt : List Str) (cs : List Nat) : List (Str × Int) := cs.map fun c => (one c, (scoreOf wt c : Int))
theorem abc_map {β : Type} (f : Nat → Bool) (g : Nat → β) : ((List.range 5).filter (fun k => f (abc5.getD k 0))).map (fun k => g (abc5.getD k 0)) = (abc5.filter f).map g := by
  have e : abc5.filter f = ((List.range 5).filter (f ∘ fun k => abc5.getD k 0)).map (fun k => abc5.getD k 0) := by rw [← List.filter_map]; rfl
  rw [e, List.map_map]; rfl
theorem Pk.abc {R : Nat → Value → Prop} {f : Nat → Bool} {g : Nat → Str} {ys : List Value} (h : Pk R ((List.range (Str.ofString "abcde").cps.size).filter (fun k => f (abc5.getD k 0))) ys) (hv : ∀ k v, R k v → ∃ t, v = .str (g (abc5.getD k 0)) t) : StrsAre ys ((abc5.filter f).map g) := by
  rw [show (Str.ofString "abcde").cps.size = 5 by decide +kernel] at h
  have q := h.strs (g := fun k => g (abc5.getD k 0)) hv
  rw [abc_map] at q
  exact q
theorem abc_at {k d : Nat} (h : (Str.ofString "abcde").cps[k]? = some d) : abc5.getD k 0 = d := by simp [abc5, List.getD, abcde_at h]
theorem abc_mem {k d : Nat} (h : (Str.ofString "abcde").cps[k]? = some d) : d ∈ abc5 := List.mem_of_getElem? (abcde_at h)
theorem one_any (l : List Nat) (d : Nat) : (l.map one).any (· == (⟨#[d]⟩ : Str)) = l.contains d := by
  induction l with
  | nil => rfl
  | cons a r ih =>
    rw [List.map_cons, List.any_cons, ih, show one a = (⟨#[a]⟩ : Str) from rfl, one_eq, List.contains_cons]
    congr 1
    by_cases h : a = d
    · subst h; simp
    · simp [h, Ne.symm h]
theorem filt_has {f : Nat → Bool} {d : Nat} (h : d ∈ abc5) : (abc5.filter f).contains d = f d := by
  rw [Bool.eq_iff_iff, List.contains_iff_mem, List.mem_filter]
  exact ⟨fun q => q.2, fun q => ⟨h, q⟩⟩
theorem two_ok {d c : Nat} (hd : d ∈ abc5) (hc : c ∈ abc5) : PyData.strOk ⟨#[d, c]⟩ = true := by
  have k : ∀ d ∈ abc5, ∀ c ∈ abc5, PyData.strOk ⟨#[d, c]⟩ = true := by decide +kernel
  exact k d hd c hc
theorem twos_ok {f : Nat → Bool} {c : Nat} (hc : c ∈ abc5) : OkStrs ((abc5.filter f).map (fun d => (⟨#[d, c]⟩ : Str))) := fun x hx => by
  obtain ⟨d, hd, rfl⟩ := List.mem_map.mp hx
  exact two_ok (List.mem_filter.mp hd).1 hc
theorem one_inj {a b : Nat} (h : one a = one b) : a = b := by
  have e : (⟨#[a]⟩ : Str) = ⟨#[b]⟩ := h
  injection e with e
  simpa using e
theorem sc_put (wt : List Str) {i c : Nat} (h : abc5[i]? = some c) : kdpPut (scP wt (abc5.take i)) (one c) (scoreOf wt c : Int) = scP wt (abc5.take (i + 1)) := by
  have hn : c ∉ abc5.take i := abcde_new h
  have ha : (scP wt (abc5.take i)).any (fun p => decide (p.1 = one c)) = false := by
    rw [List.any_eq_false]
    intro p hp
    obtain ⟨d, hd, rfl⟩ := List.mem_map.mp hp
    simp only [decide_eq_true_eq]
    exact fun e => hn (one_inj e ▸ hd)
  rw [kdpPut, ha, if_neg (by decide), List.take_add_one, h, scP, scP, List.map_append]
  rfl
theorem sc_has (wt : List Str) {c : Nat} (h : c ∈ abc5) : kdpHas (scP wt abc5) (one c) = true := by
  rw [kdpHas, List.any_eq_true]
  exact ⟨_, List.mem_map.mpr ⟨c, h, rfl⟩, by simp⟩
theorem sc_look (wt : List Str) {c : Nat} (h : c ∈ abc5) : kdpLook (scP wt abc5) (one c) 0 = (scoreOf wt c : Int) := by
  have k : ∀ d e : Nat, (one d = one e) ↔ d = e := fun d e => ⟨one_inj, fun q => by rw [q]⟩
  simp only [abc5, List.mem_cons, List.not_mem_nil, or_false] at h
  rcases h with rfl | rfl | rfl | rfl | rfl <;> simp [kdpLook, scP, abc5, List.find?, k]
noncomputable def sidesOk (wt : List Str) (c : Nat) : Prop :=
  ((linesA wt c).filter (tstR (Str.ofString "- "))).map cutR = (abc5.filter (fun d => !beats wt c d)).map (fun d => (⟨#[d, c]⟩ : Str)) ∧
  ((linesA wt c).filter (tstR (Str.ofString "+ "))).map cutR = (abc5.filter (fun d => beats wt c d || decide (d = c))).map (fun d => (⟨#[d, c]⟩ : Str)) ∧
  (abc5.filter (fun d => beats wt c d || decide (d = c))).length = scoreOf wt c + 1
section
variable {w : World} {p : Program} {loose : List Str} {mean : ExcName → Option Value} {mg mb : Str → Option Value} {ad au : Nat} {af : Option (List Env)} {ag : Option (List Code)} {g' : Heap} {L' : Addr} {s : Shared} {Q : Flow → Shared → Prop}
  {oW oS oN oB oR oC oM oG : Obj} {r : List (Addr × Obj)} {sc pg fi se wh fa re le be th ev fv la ru tu du : Option Value}
inductive Lw3J (w : World) (wt : List Str) (L' S : Addr) (oW oS oR oC oM oG : Obj) (r : List (Addr × Obj)) (sc pg wh fa re le be th ev fv la ru tu du : Option Value) (i : Nat) (m' : Str → Option Value) (nw : List (Addr × Obj)) (gs : Array GenState) : Prop
  | mk (_ : AllBare gs) (fi se : Option Value) (oD' oN' oB' : Obj) (vN vB : Option Value) (_ : m' = lawM sc pg fi se wh fa re le be th ev fv la ru tu du) (_ : nw = lawC L' oW oS oN' oB' oR oC oM oG ((S, oD') :: r)) (_ : oN'.data = .cell vN) (_ : oB'.data = .cell vB) (_ : DictSI w oD' (scP wt (abc5.take i))) : Lw3J w wt L' S oW oS oR oC oM oG r sc pg wh fa re le be th ev fv la ru tu du i m' nw gs
set_option maxHeartbeats 4000000 in
theorem law3 {st : Stmt} (hst : st = lawSt 3) {W S : Addr} {wv : List Value} {n : Nat} {wt : List Str} {oD : Obj} (F : Fr g' L' s.heap (lawM sc pg fi se wh fa re le be th ev fv la ru tu du)) (X : (KK w.params).In g') (N : News g' L' s.heap (lawC L' oW oS oN oB oR oC oM oG ((S, oD) :: r))) (T : Top p loose mean mg mb g') (hd : ad + 160 < recursionLimit) (hu : au + 1000 < cLine)
    (hwv : StrsAre wv wt) (dW : oW.data = .cell (some (.ref W))) (hW : (W, lst wv n) ∈ r) (dS : oS.data = .cell (some (.ref S))) (dN : oN.data = .cell none) (dB : oB.data = .cell none) (hD : DictSI w oD []) (hlo : (S == sysModules) = false) (bS : Blw S r) (lS : @LT.lt Nat _ (L' + 1 + 1 + 1 + 1 + 1 + 1 + 1 + 1) S) (offr : ∀ k, @LT.lt Nat _ L' k → @LE.le Nat _ k (L' + 1 + 1 + 1 + 1 + 1 + 1 + 1 + 1) → Off k r)
    (hside : ∀ c ∈ abc5, sidesOk wt c) (hgb : AllBare s.gens)
    (ret : ∀ h' tk gs oD' oN' oB' fi se, AllBare gs → DictSI w oD' (scP wt abc5) → (∃ v, oN'.data = .cell v) → Fr g' L' h' (lawM sc pg fi se wh fa re le be th ev fv la ru tu du) → News g' L' h' (lawC L' oW oS oN' oB' oR oC oM oG ((S, oD') :: r)) → Q .next { s with heap := h', toks := tk, gens := gs }) :
    wpAny (model PG w) ⟨none, ad, af, ag, au⟩ (exec st (lawEnv L')) Q NoE s := by
  walk_at "seal24"
  have e : lawSt 3 = Stmt.For _ _ _ _ _ := rfl
  rw [hst, e]
  refine for_top ?_
  k_steps
  replace F : Fr g' L' s.heap (lawM sc pg fi se wh fa re le be th ev fv la ru tu du) := by assumption
  refine of_stop (for_it (src_str rfl F) F (by assumption) (Lw3J w wt L' S oW oS oR oC oM oG r sc pg wh fa re le be th ev fv la ru tu du)
    ⟨hgb, fi, se, oD, oN, oB, none, none, rfl, rfl, dN, dB, hD⟩ ?_ ?_ (fun p hp => (List.not_mem_nil hp).elim))
  · rintro i v m₁ news₁ h tk gs I oI hi ht ⟨c, tc, hci, rfl, -, -⟩ ⟨hbg, fi, se, oD', oN', oB', vN, vB, rfl, rfl, dN', dB', hD'⟩ F1 N1 o1 b1
    walk_at "seal24"
    (revert fi_1; intro fi; set_option tactic.hygienic false in intros) --fix
    (revert se_1; intro se; set_option tactic.hygienic false in intros) --fix
    have hc5 := abcde_at hci
    have hcm : c ∈ abc5 := List.mem_of_getElem? hc5
    have hi5 : i < 5 := hi
    replace o1 : Off I _ := o1
    simp only [off_cons] at o1
    obtain ⟨oI1, oI2, oI3, oI4, oI5, oI6, oI7, oI8, oI9, oIr⟩ := o1
    have offN := offr (L' + 1 + 1 + 1) (by show @LT.lt Nat _ _ _; omega) (by show @LE.le Nat _ _ _; omega)
    have offSr : Off S r := off_blw bS (Nat.le_refl _)
    have offB := offr (L' + 1 + 1 + 1 + 1) (by show @LT.lt Nat _ _ _; omega) (by show @LE.le Nat _ _ _; omega)
    k_steps
    rename Fr g' L' _ _ => F2
    rename News g' L' _ _ => N2
    rename_i oN2 dN2
    obtain ⟨hs1, hs2, hs3⟩ := hside c hcm
    obtain ⟨lSg, lSall⟩ : @LT.lt Nat _ (L' + 1 + 1 + 1 + 1 + 1 + 1 + 1 + 1) S ∧ True := ⟨lS, trivial⟩
    refine of_stop (sidesC (wt := wt) F2 X N2 T (by k_room) (by show au + 500 < cLine; omega) rfl (by walk_at "my mem") hwv hcm hbg ?_)
    intro h3 tk3 gs3 O S1 S2 y1 y2 n0 n1 n2 hbg3 F3 N3 hy1 hy2 lS1 lS12 oO
    rw [hs1] at hy1
    rw [hs2] at hy2
    have hy2l : y2.length = scoreOf wt c + 1 := by rw [StrsAre.length hy2, List.length_map, hs3]
    have hsc5 : scoreOf wt c ≤ 5 := List.length_filter_le _ abc5
    simp only [blw_cons] at lS1
    obtain ⟨qI, qG, qM, qC, qR, qB, qN, qS, qW, qS', qr⟩ := lS1
    k_steps
    rename Fr g' L' _ _ => F4
    rename News g' L' _ _ => N4
    simp only [mp_set] at F4
    rename_i h4
    have F5 : Fr g' L' h4 (lawM sc pg (some (.ref S1)) (some (.ref S2)) wh fa re le be th ev fv la ru tu du) := canon lawK F4 rfl
    have N5 := News.sub N4 (b := (S2, lst y2 n2) :: (S1, lst y1 n1) :: (I, oI) :: lawC L' oW oS oN2 oB' oR oC oM oG ((S, oD') :: r)) (by walk_at "sub")
    clear F4 N4
    refine of_stop (wpAny_Assign_Name (hs := by with_unfolding_all rfl) (comp_top (by with_unfolding_all rfl) rfl (by decide) ?_))
    k_steps
    refine of_stop (comp_pure (src_str rfl F5) F5 N5 (by decide +kernel) (fun k => beats wt c (abc5.getD k 0)) (fun k v => ∃ t, v = .str (one (abc5.getD k 0)) t) ?_ (rr_e ?_) (fun p hp => (List.not_mem_nil hp).elim))
    · rintro k v m₂ Ic Cc Dc oIc oCc ys h tk₀ tk hk htk ⟨d, td, hdk, rfl, -, -⟩ hlk hoC hm2 F6 N6
      have hdk' : abc5.getD k 0 = d := by simp [abc5, List.getD, abcde_at hdk]
      rw [hdk']
      refine tests_one ?_
      k_steps
      refine of_stop (in_list_strs (vs := wv) (News.isList N6 (by walk_at "my mem")) hwv ?_)
      rw [show (⟨#[c]⟩ : Str) ++ (⟨#[d]⟩ : Str) = (⟨#[c, d]⟩ : Str) from rfl]
      k_steps
      all_goals exact Same.intro (by assumption) (by assumption) (by walk_at "sub")
    · intro D h tk gs ys m' nw htk F6 N6 hoD
      rintro ⟨rfl, rfl, hp⟩
      dsimp only at hp htk
      have hbt : StrsAre ys ((abc5.filter fun d => beats wt c d).map one) := Pk.abc hp fun k v hv => hv
      replace hoD : Off D _ := hoD
      simp only [off_cons] at hoD
      obtain ⟨vD2, vD1, vDI, vDG, vDM, vDC, vDR, vDB, vDN, vDS, vDW, vDS', vDr⟩ := hoD
      k_steps
      rename Fr g' L' _ _ => F7
      rename News g' L' _ _ => N7
      rename_i h7 oB7 dB7
      refine of_stop (comp_top (by with_unfolding_all rfl) rfl (by decide) ?_)
      k_steps
      refine of_stop (comp_pure (src_str rfl F7) F7 N7 (by decide +kernel) (fun k => !beats wt c (abc5.getD k 0)) (fun k v => ∃ t, v = .str (⟨#[abc5.getD k 0, c]⟩ : Str) t) ?_ (rr_e ?_) (fun p hp => (List.not_mem_nil hp).elim))
      · rintro k v m₂ Ic Cc Dc oIc oCc ysT h tk₀ tk hk htk ⟨d, td, hdk, rfl, -, -⟩ hlk hoC hm2 F8 N8
        rw [abc_at hdk]
        refine tests_one ?_
        k_steps
        refine of_stop (notin_list_strs (vs := ys) (News.isList N8 (by walk_at "my mem")) hbt ?_)
        rw [one_any, filt_has (abc_mem hdk)]
        k_steps
        all_goals exact Same.intro (by assumption) (by assumption) (by walk_at "sub")
      · intro D2 h tk gs ys2 m' nw htk F8 N8 hoD2
        rintro ⟨rfl, rfl, hp2⟩
        have hb2 : StrsAre ys2 ((abc5.filter fun d => !beats wt c d).map fun d => (⟨#[d, c]⟩ : Str)) := Pk.abc (f := fun d => !beats wt c d) (g := fun d => (⟨#[d, c]⟩ : Str)) hp2 fun k v hv => hv
        k_steps
        refine of_stop (ne_strs N8 (by walk_at "my mem") List.mem_cons_self hy1 hb2 (twos_ok hcm) (twos_ok hcm) (by show au + 64 < cLine; omega) ?_)
        rw [decide_eq_true rfl, Bool.not_true]
        k_steps
        replace N8 := News.sub N8 (b := (D, lst ys ys.length) :: (S2, lst y2 n2) :: (I, oI) :: lawC L' oW oS oN2 oB7 oR oC oM oG ((S, oD') :: r)) (by walk_at "sub")
        refine of_stop (comp_top (by with_unfolding_all rfl) rfl (by decide) ?_)
        k_steps
        refine of_stop (comp_pure (src_str rfl F8) F8 N8 (by decide +kernel) (fun k => beats wt c (abc5.getD k 0) || decide (abc5.getD k 0 = c)) (fun k v => ∃ t, v = .str (⟨#[abc5.getD k 0, c]⟩ : Str) t) ?_ (rr_e ?_) (fun p hp => (List.not_mem_nil hp).elim))
        · rintro k v m₂ Ic Cc Dc oIc oCc ys3 h tk₀ tk hk htk ⟨d, td, hdk, rfl, -, -⟩ hlk hoC hm2 F9 N9
          rw [abc_at hdk]
          refine tests_one ?_
          k_steps
          refine of_stop (in_list_strs (vs := ys) (News.isList N9 (by walk_at "my mem")) hbt ?_)
          rw [one_any, filt_has (abc_mem hdk)]
          cases hbc : beats wt c d
          · k_steps
            · exact Same.intro (by assumption) (by assumption) (by walk_at "sub")
            · have e := (by assumption : ((⟨#[d]⟩ : Str) == ⟨#[c]⟩) = false)
              rw [one_eq] at e
              rw [e]; rfl
            · exact Same.intro (by assumption) (by assumption) (by walk_at "sub")
          · k_steps
            all_goals exact Same.intro (by assumption) (by assumption) (by walk_at "sub")
        · intro D3 h tk gs ys3 m' nw htk F9 N9 hoD3
          rintro ⟨rfl, rfl, hp3⟩
          have hb3 : StrsAre ys3 ((abc5.filter fun d => beats wt c d || decide (d = c)).map fun d => (⟨#[d, c]⟩ : Str)) := Pk.abc (f := fun d => beats wt c d || decide (d = c)) (g := fun d => (⟨#[d, c]⟩ : Str)) hp3 fun k v hv => hv
          k_steps
          refine of_stop (ne_strs N9 (by walk_at "my mem") List.mem_cons_self hy2 hb3 (twos_ok hcm) (twos_ok hcm) (by show au + 64 < cLine; omega) ?_)
          rw [decide_eq_true rfl, Bool.not_true]
          k_steps
          rename_i t9 tk9
          obtain ⟨kvs, hdd, hff⟩ := hD'
          have hyv : ((y2.length : Int) - 1) = (scoreOf wt c : Int) := by omega
          rw [hyv]
          refine kdp_setItem (c := scP wt (abc5.take i)) F9 (News.sub N9 (b := (I, oI) :: lawC L' oW oS oN2 oB7 oR oC oM oG ((S, oD') :: r)) (by walk_at "sub")) (by walk_at "my upd") hdd hff (by rw [scP, List.length_map, List.length_take]; omega) ?_
          intro h10 oD10 kvs10 F10 N10 hd10 hf10
          rw [show (⟨#[c]⟩ : Str) = one c from rfl, sc_put wt hc5] at hf10
          k_steps
          rename Fr g' L' _ _ => F11
          rename News g' L' _ _ => N11
          exact StepIt.next (lawC L' oW oS oN2 oB7 oR oC oM oG ((S, oD10) :: r)) F11 N11 (by walk_at "sub") (by walk_at "my off") (fun p hp => (List.not_mem_nil hp).elim) ⟨hbg3, _, _, oD10, oN2, oB7, _, _, rfl, rfl, dN2, dB7, kvs10, hd10, hf10⟩
  · rintro h tk gs m' news' ht F1 N1 ⟨hbg, fi, se, oD', oN', oB', vN, vB, rfl, rfl, dN', dB', hD'⟩
    walk_at "seal24"
    (revert fi_1; intro fi; set_option tactic.hygienic false in intros) --fix
    (revert se_1; intro se; set_option tactic.hygienic false in intros) --fix
    rw [show (Str.ofString "abcde").cps.size = 5 by decide +kernel] at hD'
    exact ret _ _ _ _ _ _ _ _ hbg hD' ⟨_, dN'⟩ F1 N1
end
end
section
set_option maxRecDepth 100000
noncomputable def lawHs : List ExceptHandler := match lawSt 4 with | .For _ _ [.Try _ hs _ _ _] _ _ => hs | _ => []
section
variable {w : World} {p : Program} {loose : List Str} {mean : ExcName → Option Value} {mg mb : Str → Option Value} {ad au : Nat} {af : Option (List Env)} {ag : Option (List Code)} {g' : Heap} {L' : Addr} {s : Shared} {Q : Flow → Shared → Prop} {E : Value → Shared → Prop}
  {Y : List (Addr × Obj)} {sc pg fi se fa re le be th ev fv la ru tu du : Option Value}
set_option maxHeartbeats 4000000 in
theorem law_caught {hs : List ExceptHandler} (hhs : hs = lawHs) {i : Int} (hi : i = 0 ∨ i = 3 ∨ i = -1) {t u : Tok} {e e2 T2 t2 : Addr} {oT2 : Obj} {ts : Array Value}
    (F : Fr g' L' s.heap (lawM sc pg fi se (some (.int i t)) fa re le be th ev fv la ru tu du)) (X : (KK w.params).In g') (N : News g' L' s.heap ((e2, excV t2 T2 e) :: (T2, oT2) :: (t2, tup1 (badMsg i) u) :: Y)) (T : Top p loose mean mg mb g')
    (hd : oT2.data = .fields ts) (hz : 3 < ts.size) (h3 : ts[3]? = some .none) (neT : T2 ≠ e2) (offT : Off T2 ((t2, tup1 (badMsg i) u) :: Y)) (offe : Off e2 ((t2, tup1 (badMsg i) u) :: Y)) (hdd : ad + 160 < recursionLimit) (hu : au + 1000 < cLine)
    (ret : ∀ h' tk fa', Fr g' L' h' (lawM sc pg fi se (some (.int i t)) fa' re le be th ev fv la ru tu du) → News g' L' h' Y → Q .next { s with heap := h', toks := tk }) :
    wpAny (model PG w) ⟨none, ad, some [lawEnv L'], ag, au⟩ (noteFrame (.ref e2) (lawEnv L')) (fun _ s₂ => wpAny (model PG w) ⟨none, ad, some [lawEnv L'], ag, au⟩ (setFlight (.ref e2) none) (fun _ s₃ => wpAny (model PG w) ⟨none, ad, some [lawEnv L'], ag, au⟩ (handleBy (.ref e2) (lawEnv L') hs) Q E s₃) E s₂) E s := by
  subst hhs
  walk_at "seal24"
  refine note_next rfl (show (dScope (stmtAt 24)).kind ≠ .module by decide) rfl F N rfl rfl hd hz h3 neT offT offe fun h4 T4 oT4 ts4 F4 N4 ne4 off4 hd4 hz4 => ?_
  refine led_flight (fl := none) F4 N4 rfl rfl hd4 hz4 ne4 off4 fun h5 oT5 ts5 F5 N5 hd5 hz5 _ => ?_
  obtain ⟨b, bs, p1, p3, eh, eb⟩ : ∃ b bs p1 p3, lawHs = [ExceptHandler.ExceptHandler (some (.Name (Str.ofString "ValueError") p1)) (some (Str.ofString "fault")) (b :: bs) p3] ∧ b :: bs = [.If (.Compare _ _ _ _) _ _ _] := ⟨_, _, _, _, rfl, rfl⟩
  rw [eh]
  have ze := N5 _ List.mem_cons_self
  refine wpAny_handleBy_builtin_as (X := "ValueError") (T := "ValueError") (b := true) exc_VE not_VT sub_VV (nameX_B F5 X (topRead_of T) (by k_is) (by boot_by_name) (by decide) ⟨rfl, ⟨_, ze.1, rfl⟩, ?_⟩)
  rw [if_pos rfl]
  refine led_flight (fl := none) F5 N5 rfl rfl hd5 hz5 ne4 off4 fun h6 oT6 ts6 F6 N6 hd6 hz6 _ => ?_
  rw [eb]
  clear N N4 N5
  generalize hm : (⟨none, ad, some [lawEnv L'], ag, au⟩ : Around) = A0
  k_steps
  have z6 := (by assumption : News g' L' _ ((e2, _) :: (T4, _) :: _))
  refine of_stop (PySem.P.str_of_exc_one (X := "ValueError") (t0 := t2) (m := badMsg i) (tk := u) PySem.F.excStr_ValueError ?_ ?_ ?_ ?_)
  · subst hm
    show au + 2 < cLine
    omega
  · exact ⟨_, _, (z6 _ List.mem_cons_self).1, rfl, rfl, rfl⟩
  · exact ⟨_, _, (z6 (t2, tup1 (badMsg i) u) (by walk_at "my mem")).1, rfl, rfl⟩
  k_steps
  · exfalso
    rename (badMsg i != _) = true => hne
    simp [badMsg] at hne
  · rename Fr g' L' _ _ => F7
    rename News g' L' _ _ => N7
    simp only [mp_set] at F7
    have F9 : Fr g' L' _ (lawM sc pg fi se (some (.int i t)) (some (.ref e2)) re le be th ev fv la ru tu du) := canon lawK F7 rfl
    refine wpAny_nameGoes_keeps (env := lawEnv L') rfl F9.ns rfl fun h7 vv hn hs => ?_
    have F10 : Fr g' L' h7 (mp ((Str.ofString "fault", vv) :: _)) := Fr.is (F9.set hn hs) (funext fun y => (mp_cons _ vv _ y).symm)
    refine ret h7 _ vv (canon lawK F10 rfl) fun q hq => ?_
    have z := N7 q (by walk_at "my mem")
    exact ⟨hs.extBut _ _ z.2.1 z.1, z.2⟩
variable {oW oS oN oB oR oC oM oG : Obj} {r : List (Addr × Obj)} {wh : Option Value}
set_option maxHeartbeats 4000000 in
theorem law4 {st : Stmt} (hst : st = lawSt 4) (hfr : af = some [lawEnv L']) (F : Fr g' L' s.heap (lawM sc pg fi se wh fa re le be th ev fv la ru tu du)) (X : (KK w.params).In g') (N : News g' L' s.heap (lawC L' oW oS oN oB oR oC oM oG r)) (T : Top p loose mean mg mb g') (hd : ad + 160 < recursionLimit) (hu : au + 1000 < cLine) (hgb : AllBare s.gens)
    (ret : ∀ h' tk gs wh' fa', AllBare gs → Fr g' L' h' (lawM sc pg fi se wh' fa' re le be th ev fv la ru tu du) → News g' L' h' (lawC L' oW oS oN oB oR oC oM oG r) → Q .next { s with heap := h', toks := tk, gens := gs }) :
    wpAny (model PG w) ⟨none, ad, af, ag, au⟩ (exec st (lawEnv L')) Q NoE s := by
  walk_at "seal24"
  obtain rfl : af = some [lawEnv L'] := hfr
  have e : lawSt 4 = Stmt.For (.Name _ _) (.Tuple _ _ _) [.Try _ _ _ _ _] _ _ := rfl
  rw [hst, e]
  refine for_top ?_
  k_steps
  rename Fr g' L' _ _ => F1
  rename News g' L' _ _ => N1
  rename_i D h1 lD
  refine of_stop (for_it (src_tuple rfl F1 N1 List.mem_cons_self ⟨_, (N1 _ List.mem_cons_self).1, rfl, _, rfl⟩) F1 N1 (fun i m' nw gs => AllBare gs ∧ ∃ wh' fa', m' = lawM sc pg fi se wh' fa' re le be th ev fv la ru tu du ∧ nw = (D, { cls := .type "tuple", data := .seq #[.int 0 s.toks, .int 3 (s.toks + 1), .int (-1) (s.toks + 1 + 1 + 1)] }) :: lawC L' oW oS oN oB oR oC oM oG r)
    ⟨hgb, wh, fa, rfl, rfl⟩ ?_ ?_ (fun p hp => by rw [List.mem_singleton.mp hp]; exact List.mem_cons_self))
  · rintro i v m₁ news₁ h tk gs I oI hi ht hv ⟨hbg, wh', fa', rfl, rfl⟩ F3 N3 o1 b1
    walk_at "seal24"
    obtain ⟨n, tn, hn, rfl⟩ : ∃ (n : Int) (tn : Tok), (n = 0 ∨ n = 3 ∨ n = -1) ∧ v = .int n tn := by
      match i, hi with
      | 0, _ => exact ⟨0, _, .inl rfl, (Option.some.inj hv).symm⟩
      | 1, _ => exact ⟨3, _, .inr (.inl rfl), (Option.some.inj hv).symm⟩
      | 2, _ => exact ⟨-1, _, .inr (.inr rfl), (Option.some.inj hv).symm⟩
    replace o1 : Off I _ := o1
    k_steps
    rename Fr g' L' _ _ => F4
    rename News g' L' _ _ => N4
    simp only [mp_set] at F4
    replace F4 := (canon lawK F4 rfl : Fr g' L' _ (lawM sc pg fi se (some (.int n tn)) fa' re le be th ev fv la ru tu du))
    refine wpAny_Try_except ?_
    k_steps
    rename Fr g' L' _ _ => F5
    rename News g' L' _ _ => N5
    rename_i DL h5 lDL
    refine of_stop (wpAny_mono (restoreG F5 X N5 T (by k_room) ?_) (fun _ _ h => h) fun _ _ e => e.elim)
    intro h6 tk6 a C oC t' u' F6 N6 nC lC1 lC2 lC3
    k_steps
    refine of_stop (bad_drain (env2 := lawEnv L') (g := gs.size) hn F6 X N6 T (by k_room) rfl rfl (show (dScope (stmtAt 24)).kind ≠ .module by decide) rfl nC lC3 lC1 lC2 (by simp) ?_)
    intro h7 tk7 e e2 T2 t2 oT2 ts u F7 N7 hd7 hz7 h37 ne7 off7 offe7
    refine law_caught rfl hn (canon lawK F7 rfl) X N7 T hd7 hz7 h37 ne7 off7 offe7 hd hu (fun h' tk fa' F8 N8 => ?_)
    dsimp only
    k_steps
    rw [set_push]
    exact StepIt.next _ F8 N8 (sub := by walk_at "sub") (off := o1) (fun p hp => by rw [List.mem_singleton.mp hp]; exact List.mem_cons_self) ⟨hbg.push rfl, _, _, rfl, rfl⟩
  · rintro h tk gs m' news' ht F3 N3 ⟨hbg, wh', fa', rfl, rfl⟩
    walk_at "seal24"
    exact ret h tk gs wh' fa' hbg F3 (News.sub N3 (fun q hq => List.mem_cons_of_mem _ hq))
end
end
section
set_option maxRecDepth 100000
theorem rising5 {ss : List Str} (hp : ss.Perm (abc5.map one)) (hs : PyProof.Rows.sortedS ss = true) : ss = abc5.map one := by
  have hl : ss.length = 5 := hp.length_eq
  have hm : ∀ x ∈ ss, ∃ d, 97 ≤ d ∧ d ≤ 101 ∧ x = one d := fun x hx => by
    obtain ⟨d, hd, rfl⟩ := List.mem_map.mp (hp.mem_iff.mp hx)
    simp only [abc5, List.mem_cons, List.not_mem_nil, or_false] at hd
    exact ⟨d, by omega, by omega, rfl⟩
  have hn : ss.Nodup := hp.nodup_iff.mpr (by decide +kernel)
  match ss, hl, hm, hn, hs with
  | [a, b, c, d, e], _, hm, hn, hs =>
    obtain ⟨a, a1, a2, rfl⟩ := hm a (by simp)
    obtain ⟨b, b1, b2, rfl⟩ := hm b (by simp)
    obtain ⟨c, c1, c2, rfl⟩ := hm c (by simp)
    obtain ⟨d, d1, d2, rfl⟩ := hm d (by simp)
    obtain ⟨e, e1, e2, rfl⟩ := hm e (by simp)
    have k : ∀ x y : Nat, PySem.Spec.ltCps (one y).cps.toList (one x).cps.toList = decide (y < x) := fun x y => by
      show PySem.Spec.ltCps [y] [x] = _
      rw [Bool.eq_iff_iff]
      simp [PySem.Spec.ltCps]
    simp only [PyProof.Rows.sortedS, risingS, k, Bool.and_eq_true, Bool.not_eq_true', decide_eq_false_iff_not, Nat.not_lt] at hs
    obtain ⟨h1, h2, h3, h4, -⟩ := hs
    have ne : ∀ x y : Nat, one x ≠ one y → x ≠ y := fun x y h e => h (by rw [e])
    simp only [List.nodup_cons, List.mem_cons, not_or, List.not_mem_nil] at hn
    have n1 := ne _ _ hn.1.1
    have n2 := ne _ _ hn.2.1.1
    have n3 := ne _ _ hn.2.2.1.1
    have n4 := ne _ _ hn.2.2.2.1.1
    obtain rfl : a = 97 := by omega
    obtain rfl : b = 98 := by omega
    obtain rfl : c = 99 := by omega
    obtain rfl : d = 100 := by omega
    obtain rfl : e = 101 := by omega
    rfl
theorem insN_perm (l : List Nat) (p x : Nat) : (insN l p x).Perm (x :: l) := by
  unfold insN
  have h := (List.perm_middle (a := x) (l₁ := l.take p) (l₂ := l.drop p))
  rwa [List.take_append_drop] at h
theorem rows_perm (wt : List Str) : ∀ (cs : List Nat) (t : List Nat × List Nat × List Nat), (cs.foldl (rowStep wt) t).1.Perm (cs.reverse ++ t.1) ∧ (cs.foldl (rowStep wt) t).2.1.Perm (cs.reverse ++ t.2.1) ∧ (cs.foldl (rowStep wt) t).2.2.Perm (cs.reverse ++ t.2.2)
  | [], t => ⟨.refl _, .refl _, .refl _⟩
  | c :: r, t => by
    obtain ⟨h1, h2, h3⟩ := rows_perm wt r (rowStep wt t c)
    have k : ∀ (l l' : List Nat), l'.Perm (c :: l) → (r.reverse ++ l').Perm ((c :: r).reverse ++ l) := fun l l' h => by
      rw [List.reverse_cons, List.append_assoc]
      exact h.append_left _
    exact ⟨h1.trans (k _ _ (insN_perm _ _ _)), h2.trans (k _ _ (insN_perm _ _ _)), h3.trans (k _ _ (insN_perm _ _ _))⟩
theorem rowsP_perm (wt : List Str) : (rowsP wt abc5).1.Perm abc5 ∧ (rowsP wt abc5).2.1.Perm abc5 ∧ (rowsP wt abc5).2.2.Perm abc5 := by
  have h := rows_perm wt abc5 ([], [], [])
  have e : (abc5.reverse ++ ([] : List Nat)).Perm abc5 := by rw [List.append_nil]; exact List.reverse_perm _
  exact ⟨h.1.trans e, h.2.1.trans e, h.2.2.trans e⟩
theorem strs_of_at {l : List Nat} : ∀ {vs : List Value}, vs.length = l.length → (∀ (j : Nat) (v : Value), vs[j]? = some v → ∃ c u, l[j]? = some c ∧ v = .str ⟨#[c]⟩ u) → StrsAre vs (l.map one) := by
  induction l with
  | nil =>
    intro vs h _
    cases vs with
    | nil => exact .nil
    | cons => cases h
  | cons a r ih =>
    intro vs h k
    cases vs with
    | nil => cases h
    | cons v vs =>
      obtain ⟨c, u, hc, rfl⟩ := k 0 v rfl
      cases hc
      exact .cons (one a) u (ih (by simpa using h) fun j v hv => k (j + 1) v (by simpa using hv))
theorem listStr {w : World} {A : Around} {E : Value → Shared → Prop} {s : Shared} {h₀ : Heap} {L : Addr} {m : Str → Option Value} {news : List (Addr × Obj)} {x : Str} {t : Tok} {Q : Value → Shared → Prop} (hh : A.handled = none) (F : Fr h₀ L s.heap m) (N : News h₀ L s.heap news) (hx : x.cps.size ≤ 1000)
    (h : ∀ D vs n h' tk, StrsAre vs (x.cps.toList.map one) → Fr h₀ L h' m → News h₀ L h' ((D, lst vs n) :: news) → Blw D news → Q (.ref D) { s with heap := h', toks := tk }) :
    wpAny (model PG w) A (call (.type "list") [.str x t]) Q E s := by
  refine call_list_str hh x t (fun h' tk acc' c' hk hS hacc => ?_) (by simp [sizeLine]; omega)
  refine h s.heap.objs.size acc'.toList c' h' tk ?_ (F.keeps hk) (fun q hq => ?_) (fun q hq => Heap.lt_size (N q hq).1)
  · refine strs_of_at (by simp [hacc.1]) fun j v hv => ?_
    obtain ⟨c, u, h1, h2⟩ := hacc.2 j v (by simpa using hv)
    exact ⟨c, u, by simpa using h1, h2⟩
  · rcases List.mem_cons.mp hq with rfl | hq
    · exact ⟨by simpa using hS, Nat.ne_of_gt F.ns.lt, next_is_new F⟩
    · exact ⟨hk _ _ (N q hq).1, (N q hq).2⟩
theorem abc_ok : OkStrs (abc5.map one) := by
  intro x hx
  have k : ∀ x ∈ abc5.map one, PyData.strOk x = true := by decide +kernel
  exact k x hx
noncomputable def chain (wt : List Str) (q : List Nat) : Bool := (List.range 4).all fun k => beats wt (q.getD k 0) (q.getD (k + 1) 0)
section
variable {w : World} {p : Program} {loose : List Str} {mean : ExcName → Option Value} {mg mb : Str → Option Value} {ad au : Nat} {af : Option (List Env)} {ag : Option (List Code)} {g' : Heap} {L' : Addr} {s : Shared} {Q : Flow → Shared → Prop}
  {oW oS oN oB oR oC oM oG : Obj} {r : List (Addr × Obj)} {sc pg fi se wh fa re le be th ev fv la ru tu du : Option Value}
set_option maxHeartbeats 4000000 in
theorem law5 {st : Stmt} (hst : st = lawSt 5) {W : Addr} {wv : List Value} {n : Nat} {wt : List Str} {vR : Option Value} (F : Fr g' L' s.heap (lawM sc pg fi se wh fa re le be th ev fv la ru tu du)) (X : (KK w.params).In g') (N : News g' L' s.heap ((205, tabObj #[]) :: lawC L' oW oS oN oB oR oC oM oG r)) (T : Top p loose mean mg mb g') (hd : ad + 160 < recursionLimit) (hu : au + 1000 < cLine)
    (hwv : StrsAre wv wt) (dW : oW.data = .cell (some (.ref W))) (hW : (W, lst wv n) ∈ r) (dR : oR.data = .cell vR) (offr : Off (L' + 1 + 1 + 1 + 1 + 1) r) (off5 : Off 205 r) (hL : @LT.lt Nat _ 205 L')
    (hrows : chain wt (rowsP wt abc5).1 = true ∧ chain wt (rowsP wt abc5).2.1 = true ∧ chain wt (rowsP wt abc5).2.2 = true)
    (ret : ∀ h' tk oR' ps xs, (∃ v, oR'.data = .cell v) → (∀ a o, (a, o) ∈ (205, tabObj #[]) :: lawC L' oW oS oN oB oR oC oM oG r → Abv a xs) → Fr g' L' h' (lawM sc pg fi se wh fa re le be th ev fv la ru tu du) → News g' L' h' (lawC L' oW oS oN oB oR' oC oM oG ((205, tabObj ps) :: (xs ++ r))) → Q .next { s with heap := h', toks := tk }) :
    wpAny (model PG w) ⟨none, ad, af, ag, au⟩ (exec st (lawEnv L')) Q NoE s := by
  have sS : SubAt := trivial
  walk_at "seal24"
  have e : lawSt 5 = Stmt.For _ _ _ _ _ := rfl
  rw [hst, e]
  refine for_top ?_
  have Fx := F
  k_steps
  refine of_stop (rowsC (wt := wt) F X N T (by show ad + 60 < recursionLimit; omega) (by show au + 500 < cLine; omega) rfl (by walk_at "my mem") (by walk_at "my off") (LamOK.nil _ _) hwv ?_)
  intro h1 tk1 O D1 D2 D3 q1 q2 q3 n1 n2 n3 n0 ps xs F1 N1 hq1 hq2 hq3 hLO hxs lD1 lD12 lD23 lD3 lxs
  obtain ⟨hp1, hp2, hp3⟩ := rowsP_perm wt
  obtain ⟨hc1, hc2, hc3⟩ := hrows
  rw [show ([97, 98, 99, 100, 101] : List Nat) = abc5 from rfl] at hq1 hq2 hq3
  simp only [blw_cons] at lD1
  obtain ⟨l5, lG, lM, lC, lR, lB, lN, lS, lW, lr⟩ := lD1
  have xR := hxs (L' + 1 + 1 + 1 + 1 + 1) oR (by walk_at "my mem")
  have N1' := News.sub N1 (b := lawC L' oW oS oN oB oR oC oM oG ((O, lst [.ref D1, .ref D2, .ref D3] n0) :: (D3, lst q3 n3) :: (D2, lst q2 n2) :: (D1, lst q1 n1) :: (205, tabObj ps) :: (xs ++ r))) (by walk_at "sub")
  refine of_stop (for_it (src_list rfl F1 N1' (by walk_at "my mem" : (O, lst [.ref D1, .ref D2, .ref D3] n0) ∈ _)) F1 N1' (fun i m' nw gs => gs = s.gens ∧ ∃ oR' vR', m' = lawM sc pg fi se wh fa re le be th ev fv la ru tu du ∧
    nw = lawC L' oW oS oN oB oR' oC oM oG ((O, lst [.ref D1, .ref D2, .ref D3] n0) :: (D3, lst q3 n3) :: (D2, lst q2 n2) :: (D1, lst q1 n1) :: (205, tabObj ps) :: (xs ++ r)) ∧ oR'.data = .cell vR') ⟨rfl, oR, vR, rfl, rfl, dR⟩ ?_ ?_ (fun p hp => by rw [List.mem_singleton.mp hp]; walk_at "my mem"))
  · rintro i v m₁ news₁ h tk gs I oI hi ht hv ⟨rfl, oR', vR', rfl, rfl, dR'⟩ F2 N2 o1 b1
    walk_at "seal24"
    replace o1 : Off I _ := o1
    simp only [off_cons, off_append] at o1
    obtain ⟨oIG, oIM, oIC, oIR, oIB, oIN, oIS, oIW, oIO, oI3, oI2, oI1, oI205, oIx, oIr⟩ := o1
    obtain ⟨D, q, nq, ms, rfl, hDm, hq, hpm, hch⟩ : ∃ D q nq ms, v = .ref D ∧ (D, lst q nq) ∈ [(D3, lst q3 n3), (D2, lst q2 n2), (D1, lst q1 n1)] ∧ StrsAre q (ms.map one) ∧ ms.Perm abc5 ∧ chain wt ms = true := by
      have hi3 : i < 3 := hi
      match i, hi3 with
      | 0, _ => cases (show some (Value.ref D1) = some v from hv); exact ⟨D1, q1, n1, _, rfl, by simp, hq1, hp1, hc1⟩
      | 1, _ => cases (show some (Value.ref D2) = some v from hv); exact ⟨D2, q2, n2, _, rfl, by simp, hq2, hp2, hc2⟩
      | 2, _ => cases (show some (Value.ref D3) = some v from hv); exact ⟨D3, q3, n3, _, rfl, by simp, hq3, hp3, hc3⟩
    have hDm2 : (D, lst q nq) ∈ (O, lst [.ref D1, .ref D2, .ref D3] n0) :: (D3, lst q3 n3) :: (D2, lst q2 n2) :: (D1, lst q1 n1) :: (205, tabObj ps) :: (xs ++ r) := List.mem_cons_of_mem _ (List.mem_append_left (as := [(D3, lst q3 n3), (D2, lst q2 n2), (D1, lst q1 n1)]) _ hDm)
    have hmsl : ms.length = 5 := hpm.length_eq
    have hql : q.length = 5 := by rw [StrsAre.length hq, List.length_map]; exact hmsl
    have lDR : @LT.lt Nat _ (L' + 1 + 1 + 1 + 1 + 1) D1 := lR
    generalize hrr : (O, lst [.ref D1, .ref D2, .ref D3] n0) :: (D3, lst q3 n3) :: (D2, lst q2 n2) :: (D1, lst q1 n1) :: (205, tabObj ps) :: (xs ++ r) = rr at *
    have oRr : Off (L' + 1 + 1 + 1 + 1 + 1) rr := by rw [← hrr]; walk_at "my off"
    have hWr : (W, lst wv n) ∈ rr := by rw [← hrr]; walk_at "my mem"
    have oIrr : Off I rr := by rw [← hrr]; walk_at "my off"
    k_steps
    rename Fr g' L' _ _ => F3
    rename News g' L' _ _ => N3
    rename_i h3 oR3 dR3
    refine sorted_N_str F3 N3 (News.isList N3 (by walk_at "my mem")) hq (by omega) ?_
    intro h4 vs4 ss4 e4 F4 N4 hS4 hP4 hs4
    obtain rfl := rising5 (hP4.trans (hpm.map one)) hs4
    k_steps
    refine of_stop (listStr rfl F4 N4 (by decide +kernel) ?_)
    intro D5 vs5 n5 h5 tk5 hS5 F5 N5 lD5
    rw [abcde_l, show ([97, 98, 99, 100, 101] : List Nat) = abc5 from rfl] at hS5
    k_steps
    refine of_stop (ne_strs (xs := vs4) (na := e4) N5 (List.mem_cons_of_mem _ List.mem_cons_self) List.mem_cons_self hS4 hS5 abc_ok abc_ok (by show au + 64 < cLine; omega) ?_)
    rw [decide_eq_true rfl, Bool.not_true]
    k_steps
    replace N5 := News.sub N5 (b := (I, oI) :: lawC L' oW oS oN oB oR3 oC oM oG rr) (by walk_at "sub")
    refine of_stop (comp_top (by with_unfolding_all rfl) rfl (by decide) ?_)
    k_steps
    rename Fr g' L' _ _ => F6
    rename News g' L' _ _ => N6
    refine of_stop (comp_pure (n := 4) (src_range rfl F6 (by assumption) (by decide) (by decide)) F6 N6 (by decide) (fun k => !beats wt (ms.getD k 0) (ms.getD (k + 1) 0)) (fun k v => ∃ t', v = .int (k : Nat) t') ?_ (rr_e ?_) (fun p hp => (List.not_mem_nil hp).elim))
    · rintro k v m₂ Ic Cc Dc oIc oCc ysT h tk₀ tk hk htk ⟨tv, hv⟩ hlk hoC hm2 F7 N7
      rw [Int.zero_add] at hv
      subst hv
      obtain ⟨v1, hv1⟩ : ∃ v1, q[k]? = some v1 := ⟨_, List.getElem?_eq_getElem (by omega)⟩
      obtain ⟨t1, e1, -⟩ := StrsAre.get hq hv1
      obtain ⟨v2, hv2⟩ : ∃ v2, q[k + 1]? = some v2 := ⟨_, List.getElem?_eq_getElem (by omega)⟩
      obtain ⟨t2, e2, -⟩ := StrsAre.get hq hv2
      rw [map_getD (by omega)] at e1 e2
      refine tests_one ?_
      k_steps
      refine of_stop (item_listL (l := q) (News.isList N7 (by walk_at "my mem")) (by omega) (by omega) (by rw [Int.toNat_natCast]; exact hv1) ?_)
      rw [e1]
      k_steps
      refine of_stop (item_listL (l := q) (News.isList N7 (by walk_at "my mem")) (by omega) (by omega) (by rw [show ((k : Int) + 1).toNat = k + 1 by omega]; exact hv2) ?_)
      rw [e2]
      k_steps
      refine of_stop (notin_list_strs (vs := wv) (News.isList N7 (by walk_at "my mem")) hwv ?_)
      rw [show one (ms.getD k 0) ++ one (ms.getD (k + 1) 0) = (⟨#[ms.getD k 0, ms.getD (k + 1) 0]⟩ : Str) from rfl, show wt.any (· == (⟨#[ms.getD k 0, ms.getD (k + 1) 0]⟩ : Str)) = beats wt (ms.getD k 0) (ms.getD (k + 1) 0) from rfl]
      k_steps
      all_goals exact Same.intro (by assumption) (by assumption) (by walk_at "sub")
    · intro D6 h tk gs ys m' nw htk F7 N7 hoD6
      rintro ⟨rfl, rfl, hp⟩
      have hnil : (List.range 4).filter (fun k => !beats wt (ms.getD k 0) (ms.getD (k + 1) 0)) = [] := by
        rw [List.filter_eq_nil_iff]
        intro k hk
        have := List.all_eq_true.mp hch k hk
        simpa using this
      rw [hnil] at hp
      cases hp
      k_steps
      refine of_stop (ne_ints (xs := []) (na := 0) (ys := []) (nb := 0) (ns := []) (ms := []) (by assumption) (by walk_at "my mem") (by walk_at "my mem") .nil .nil (by show au + 64 < cLine; omega) ?_)
      rw [decide_eq_true rfl, Bool.not_true]
      k_steps
      rename Fr g' L' _ _ => F8
      rename News g' L' _ _ => N8
      exact StepIt.next (lawC L' oW oS oN oB oR3 oC oM oG rr) F8 N8 (by walk_at "sub") (by walk_at "my off") (fun p hp => by rw [List.mem_singleton.mp hp, ← hrr]; walk_at "my mem") ⟨rfl, oR3, _, rfl, rfl, dR3⟩
  · rintro h tk gs m' news' ht F2 N2 ⟨rfl, oR', vR', rfl, rfl, dR'⟩
    walk_at "seal24"
    exact ret _ _ oR' ps xs ⟨_, dR'⟩ hxs F2 (News.sub N2 (by walk_at "sub"))
end
end
section
set_option maxRecDepth 100000
noncomputable def restN (wt : List Str) (c : Nat) : List Nat := (List.range 5).flatMap fun sz => abc5.filter fun d => !decide (d = c) && decide (scoreOf wt d = sz)
noncomputable def byOk (wt : List Str) (c : Nat) : Prop := (restN wt c).length = 4 ∧ byW (scP wt abc5) ((restN wt c).map one) (one c) 0 4 = true ∧ byW (scP wt abc5) ((restN wt c).map one) (one c) 1 3 = true
theorem rest_mem {wt : List Str} {c d : Nat} (h : d ∈ restN wt c) : d ∈ abc5 := by
  obtain ⟨sz, -, hd⟩ := List.mem_flatMap.mp h
  exact (List.mem_filter.mp hd).1
theorem rest_ok (wt : List Str) {c : Nat} (hcm : c ∈ abc5) : OkStrs (one c :: (restN wt c).map one) := fun x hx => by
  rcases List.mem_cons.mp hx with rfl | hx
  · exact abc_ok _ (List.mem_map.mpr ⟨c, hcm, rfl⟩)
  · obtain ⟨d, hd, rfl⟩ := List.mem_map.mp hx
    exact abc_ok _ (List.mem_map.mpr ⟨d, rest_mem hd, rfl⟩)
theorem rest_has (wt : List Str) (c : Nat) : ∀ x ∈ (restN wt c).map one, kdpHas (scP wt abc5) x = true := fun x hx => by
  obtain ⟨d, hd, rfl⟩ := List.mem_map.mp hx
  exact sc_has wt (rest_mem hd)
theorem pairs_rest (wt : List Str) (c : Nat) : (pairs (fun _ => 5) (fun i j => !decide (abc5.getD j 0 = c) && decide (scoreOf wt (abc5.getD j 0) = i)) 5).map (fun q => one (abc5.getD q.2 0)) = (restN wt c).map one := by
  unfold pairs restN
  rw [List.map_flatMap, List.map_flatMap]
  congr 1
  funext sz
  rw [List.map_map]
  have e : ∀ f : Nat → Bool, ((List.range 5).filter (fun j => f (abc5.getD j 0))).map ((fun q : Nat × Nat => one (abc5.getD q.2 0)) ∘ fun j => (sz, j)) = (abc5.filter f).map one := fun f => by
    show (List.filter (fun k => f (abc5.getD k 0)) [0, 1, 2, 3, 4]).map _ = _
    simp only [abc5, List.filter_cons, List.filter_nil, List.getD_cons_zero, List.getD_cons_succ]
    cases f 97 <;> cases f 98 <;> cases f 99 <;> cases f 100 <;> cases f 101 <;> rfl
  exact e fun d => !decide (d = c) && decide (scoreOf wt d = sz)
theorem Src.mono {prog : Program} {w : World} {A : Around} {h₀ : Heap} {L : Addr} {base : List (Addr × Obj)} {xv : Value} {s : Shared} {n : Nat} {P P' : Nat → Value → Nat → Prop} (S : Src prog w A h₀ L base xv s n P) (h : ∀ i v tk, P i v tk → P' i v tk) : Src prog w A h₀ L base xv s n P' := fun Q E hQ =>
  S Q E fun oI St T hst => hQ oI St ⟨let ⟨fp, W, r⟩ := T.W; ⟨fp, ⟨W.sub, W.frame, fun i s Q E hi ht st k => W.item i s Q E hi ht st fun v h' tk ht' hP st' hk => k v h' tk ht' (h _ _ _ hP) st' hk, W.done, W.self⟩, r⟩, T.io⟩ hst
theorem pairs_len {n2 : Nat → Nat} {tst : Nat → Nat → Bool} {m : Nat} (h : ∀ k, n2 k ≤ m) : ∀ i, (pairs n2 tst i).length ≤ i * m
  | 0 => by rw [Nat.zero_mul]; exact Nat.le_refl _
  | i + 1 => by
    rw [pairs_succ, List.length_append, List.length_map, Nat.succ_mul]
    have h1 := pairs_len (tst := tst) h i
    have h2 := List.length_filter_le (tst i) (List.range (n2 i))
    rw [List.length_range] at h2
    have h3 := h i
    omega
theorem src_abc {w : World} {A : Around} {h₀ : Heap} {L : Addr} {s : Shared} {m : Str → Option Value} {t : Tok} (hh : A.handled = none) (F : Fr h₀ L s.heap m) : Src PG w A h₀ L [] (.str (Str.ofString "abcde") t) s 5 (fun j v _ => ∃ t, v = .str (one (abc5.getD j 0)) t ∧ abc5.getD j 0 ∈ abc5) := by
  have q := Src.mono (P' := fun j v _ => ∃ t, v = .str (one (abc5.getD j 0)) t ∧ abc5.getD j 0 ∈ abc5) (src_str (y := Str.ofString "abcde") (t := t) (prog := PG) (w := w) hh F) (fun j v tk h => by
    obtain ⟨d, u, hd, rfl, -⟩ := h
    rw [abc_at hd]
    exact ⟨u, rfl, abc_mem hd⟩)
  rw [show (Str.ofString "abcde").cps.size = 5 by decide +kernel] at q
  exact q
theorem key6 {L' a : Addr} {o oW oS oN oN' oB oR oC oM oG : Obj} {r q : List (Addr × Obj)} {ps ps' : Array Value} (h : (a, o) ∈ (210, tabObj ps) :: lawC L' oW oS oN oB oR oC oM oG r) (k : ∀ p ∈ r, p ∈ q) :
    ∃ o', (a, o') ∈ (210, tabObj ps') :: lawC L' oW oS oN' oB oR oC oM oG q := by
  have hq : (a, o) ∈ r → (a, o) ∈ q := fun h => k _ h
  simp only [List.mem_cons, Prod.mk.injEq] at h ⊢
  rcases h with ⟨rfl, -⟩ | ⟨rfl, -⟩ | ⟨rfl, -⟩ | ⟨rfl, -⟩ | ⟨rfl, -⟩ | ⟨rfl, -⟩ | ⟨rfl, -⟩ | ⟨rfl, -⟩ | ⟨rfl, -⟩ | h
  · exact ⟨_, .inl ⟨rfl, rfl⟩⟩
  · exact ⟨_, .inr (.inl ⟨rfl, rfl⟩)⟩
  · exact ⟨_, .inr (.inr (.inl ⟨rfl, rfl⟩))⟩
  · exact ⟨_, .inr (.inr (.inr (.inl ⟨rfl, rfl⟩)))⟩
  · exact ⟨_, .inr (.inr (.inr (.inr (.inl ⟨rfl, rfl⟩))))⟩
  · exact ⟨_, .inr (.inr (.inr (.inr (.inr (.inl ⟨rfl, rfl⟩)))))⟩
  · exact ⟨_, .inr (.inr (.inr (.inr (.inr (.inr (.inl ⟨rfl, rfl⟩))))))⟩
  · exact ⟨_, .inr (.inr (.inr (.inr (.inr (.inr (.inr (.inl ⟨rfl, rfl⟩)))))))⟩
  · exact ⟨_, .inr (.inr (.inr (.inr (.inr (.inr (.inr (.inr (.inl ⟨rfl, rfl⟩))))))))⟩
  · exact ⟨_, .inr (.inr (.inr (.inr (.inr (.inr (.inr (.inr (.inr (hq h)))))))))⟩
section
variable {w : World} {p : Program} {loose : List Str} {mean : ExcName → Option Value} {mg mb : Str → Option Value} {ad au : Nat} {af : Option (List Env)} {ag : Option (List Code)} {g' : Heap} {L' : Addr} {s : Shared} {Q : Flow → Shared → Prop}
  {oW oS oN oB oR oC oM oG : Obj} {r : List (Addr × Obj)} {sc pg fi se wh fa re le be th ev fv la ru tu du : Option Value}
inductive Lw6J (G : Array GenState) (L' : Addr) (oW oS oN oB oR oC oM oG : Obj) (r : List (Addr × Obj)) (sc pg fi se wh fa le be th ev fv la ru tu du : Option Value) (i : Nat) (m' : Str → Option Value) (nw : List (Addr × Obj)) (gs : Array GenState) : Prop
  | mk (_ : gs = G) (re : Option Value) (oN' : Obj) (vN' : Option Value) (ps : Array Value) (xs : List (Addr × Obj)) (_ : m' = lawM sc pg fi se wh fa re le be th ev fv la ru tu du) (_ : nw = lawC L' oW oS oN' oB oR oC oM oG ((210, tabObj ps) :: (xs ++ r))) (_ : oN'.data = .cell vN') (_ : LamOK lamQ1 ps xs) (_ : ∀ a o, (a, o) ∈ (210, tabObj #[]) :: lawC L' oW oS oN oB oR oC oM oG r → Abv a xs) : Lw6J G L' oW oS oN oB oR oC oM oG r sc pg fi se wh fa le be th ev fv la ru tu du i m' nw gs
set_option maxHeartbeats 1000000 in
theorem law6 {st : Stmt} (hst : st = lawSt 6) {S : Addr} {wt : List Str} {vN : Option Value} {oD : Obj} (F : Fr g' L' s.heap (lawM sc pg fi se wh fa re le be th ev fv la ru tu du)) (X : (KK w.params).In g') (N : News g' L' s.heap ((210, tabObj #[]) :: lawC L' oW oS oN oB oR oC oM oG r)) (T : Top p loose mean mg mb g') (hd : ad + 160 < recursionLimit) (hu : au + 1000 < cLine)
    (dS : oS.data = .cell (some (.ref S))) (hS : (S, oD) ∈ r) (hD : DictSI w oD (scP wt abc5)) (hlo : (S == sysModules) = false) (dN : oN.data = .cell vN) (offr : Off (L' + 1 + 1 + 1) r) (off0 : Off 210 r) (hL : @LT.lt Nat _ 210 L')
    (hby : ∀ c ∈ abc5, byOk wt c)
    (ret : ∀ h' tk oN' re', (∃ v, oN'.data = .cell v) → Fr g' L' h' (lawM sc pg fi se wh fa re' le be th ev fv la ru tu du) → (∃ ps, News g' L' h' ((210, tabObj ps) :: lawC L' oW oS oN' oB oR oC oM oG r)) → Q .next { s with heap := h', toks := tk }) :
    wpAny (model PG w) ⟨none, ad, af, ag, au⟩ (exec st (lawEnv L')) Q NoE s := by
  walk_at "seal24"
  have e : lawSt 6 = Stmt.For _ _ _ _ _ := rfl
  rw [hst, e]
  refine for_top ?_
  have Fx := F
  k_steps
  have N1 := News.sub N (b := lawC L' oW oS oN oB oR oC oM oG ((210, tabObj #[]) :: ([] ++ r))) (by walk_at "sub")
  refine of_stop (for_it (src_str rfl F) F N1 (Lw6J s.gens L' oW oS oN oB oR oC oM oG r sc pg fi se wh fa le be th ev fv la ru tu du) ⟨rfl, re, oN, vN, #[], [], rfl, rfl, dN, LamOK.nil _ _, fun _ _ _ => abv_nil _⟩ ?_ ?_ (fun p hp => (List.not_mem_nil hp).elim))
  · rintro i v m₁ news₁ h tk gs I oI hi ht ⟨c, tc, hci, rfl, -, -⟩ ⟨rfl, re, oN', vN', ps, xs, rfl, rfl, dN', LO, hxs⟩ F2 N2 o1 b1
    walk_at "seal24"
    (revert re_1; intro re; set_option tactic.hygienic false in intros) --fix
    have hcm := abc_mem hci
    obtain ⟨hr4, hb1, hb2⟩ := hby c hcm
    replace o1 : Off I _ := o1
    simp only [off_cons, off_append] at o1
    obtain ⟨oIG, oIM, oIC, oIR, oIB, oIN, oIS, oIW, oI210, oIx, oIr⟩ := o1
    have xN := hxs (L' + 1 + 1 + 1) oN (by walk_at "my mem")
    generalize hrr : (210, tabObj ps) :: (xs ++ r) = rr at *
    have oNr : Off (L' + 1 + 1 + 1) rr := by rw [← hrr]; walk_at "my off"
    have hSr : (S, oD) ∈ rr := by rw [← hrr]; walk_at "my mem"
    have oIrr : Off I rr := by rw [← hrr]; walk_at "my off"
    k_steps
    rename Fr g' L' _ _ => F3
    rename News g' L' _ _ => N3
    rename_i h3 oN3 dN3
    refine of_stop (comp_topA (by with_unfolding_all rfl) (by with_unfolding_all rfl) rfl (by decide) ?_)
    k_steps
    rename Fr g' L' _ _ => F4
    rename News g' L' _ _ => N4
    refine of_stop (comp_two (n := 5) (src_range rfl F4 (by assumption) (by decide) (by decide)) F4 N4 (fun _ => 5) (fun i j => !decide (abc5.getD j 0 = c) && decide (scoreOf wt (abc5.getD j 0) = i)) (fun q v => ∃ t, v = .str (one (abc5.getD q.2 0)) t)
      (fun i M => ∃ t, M (Str.ofString "size") = some (.int ((i : Nat) : Int) t)) (fun i j v => ∃ t, v = .str (one (abc5.getD j 0)) t ∧ abc5.getD j 0 ∈ abc5) (fun i hi => ?_) ?_ ?_ ?_ ?_ (rr_loc (by rfl) (by rfl) (by rfl) ?_) (fun p hp => (List.not_mem_nil hp).elim))
    · have := pairs_len (n2 := fun _ => 5) (tst := fun i j => !decide (abc5.getD j 0 = c) && decide (scoreOf wt (abc5.getD j 0) = i)) (m := 5) (fun _ => Nat.le_refl _) i
      omega
    · rintro i M v ⟨t, ht⟩
      exact ⟨t, by show (if _ then _ else _) = _; rw [if_neg (by decide +kernel), ht]⟩
    · rintro i v m₂ Ic Cc Dc oIc oCc ys h tk hi ht ⟨tv, hv⟩ hoC F5 N5 off ne
      rw [Int.zero_add] at hv
      subst hv
      exact tg_name F5 N5 hoC off ne ⟨tv, by show (if _ then _ else _) = _; rw [if_pos rfl]⟩
    · rintro i M Ic Cc Dc oIc oCc ys h tk hi ht hoC ⟨ts, hMs⟩ F5 N5
      k_steps
      exact SrcEnd.intro F5 N5 (by walk_at "sub") (src_abc rfl F5)
    · rintro i j v M Ic Jc Cc Dc oIc oJc oCc ys h tk hi hj ht ⟨tv, rfl, hdm⟩ hoC hMy ⟨ts, hMs⟩ F5 N5
      generalize abc5.getD j 0 = d at *
      refine tests_one ?_
      k_steps
      · have e := (by assumption : (one d != (⟨#[c]⟩ : Str)) = true)
        have hne : d ≠ c := fun q => by rw [q] at e; exact absurd e (by rw [show (⟨#[c]⟩ : Str) = one c from rfl]; simp)
        refine of_stop (kdp_item (scTab N5 (by walk_at "my mem") hD hlo) (sc_has wt hdm) fun t' => ?_)
        rw [sc_look wt hdm, decide_eq_false hne, Bool.not_false, Bool.true_and]
        k_steps
        all_goals first | exact Same.intro (by assumption) (by assumption) (by walk_at "sub") | exact (decide_eq_false (by omega)).symm
      · have e := (by assumption : (one d != (⟨#[c]⟩ : Str)) = false)
        have hq : d = c := one_inj (show one d = (⟨#[c]⟩ : Str) by simpa using e)
        rw [decide_eq_true hq]; rfl
      · exact Same.intro (by assumption) (by assumption) (by walk_at "sub")
    · intro D h tk gs ys m' nw htk F5 N5 hoD
      rintro ⟨rfl, rfl, hp⟩
      have hrs : StrsAre ys ((restN wt c).map one) := by rw [← pairs_rest]; exact hp.strs fun q v h => h
      k_steps
      rename Fr g' L' _ _ => F6
      rename News g' L' _ _ => N6
      simp only [mp_set] at F6
      have F7 : Fr g' L' _ (lawM sc pg fi se wh fa (some (.ref D)) le be th ev fv la ru tu du) := canon lawK F6 rfl
      have N7 := News.sub N6 (b := (210, tabObj ps) :: (D, lst ys ys.length) :: (I, oI) :: lawC L' oW oS oN3 oB oR oC oM oG (xs ++ r)) (by rw [← hrr]; walk_at "sub")
      clear F6 N6
      have hysl : ys.length = 4 := by rw [StrsAre.length hrs, List.length_map]; exact hr4
      have v210 : @Ne Nat 210 D := hoD (210, tabObj ps) (by rw [← hrr]; walk_at "my mem")
      replace hoD : Off D _ := hoD
      simp only [off_cons] at hoD
      obtain ⟨vDI, vDG, vDM, vDC, vDR, vDB, vDN, vDS, vDW, vDr⟩ := hoD
      have x210 := hxs 210 (tabObj #[]) List.mem_cons_self
      refine of_stop (byWins (c := c) (lo := 0) (hi := 4) (R := D) (S := S) (rs := (restN wt c).map one) (lr := xs) (sc := scP wt abc5) F7 X N7 T (by show ad + 60 < recursionLimit; omega) (by show au + 500 < cLine; omega) rfl (by walk_at "my mem") (by walk_at "my mem") (by walk_at "my off") LO (by walk_at "sub") hrs (by rw [List.length_map]; exact hr4) hD hlo (sc_has wt hcm) (rest_has wt c) (.inr ⟨rfl, rfl⟩) (by decide) (by decide) (rest_ok wt hcm) ?_)
      intro h8 tk8 ps8 xs8 F8 N8 LO8 hxs8
      rw [hb1]
      have y210 := hxs8 210 (tabObj ps) List.mem_cons_self
      have N9 := News.sub N8 (b := lawC L' oW oS oN3 oB oR oC oM oG ((210, tabObj ps8) :: (xs8 ++ ((D, lst ys ys.length) :: (I, oI) :: (xs ++ r))))) (by walk_at "sub")
      clear N8 N7 F7
      obtain ⟨rr8, hrr8⟩ : ∃ l, l = (210, tabObj ps8) :: (xs8 ++ ((D, lst ys ys.length) :: (I, oI) :: (xs ++ r))) := ⟨_, rfl⟩
      rw [← hrr8] at N9
      have hS8 : (S, oD) ∈ rr8 := by rw [hrr8]; walk_at "my mem"
      k_steps
      rename Fr g' L' _ _ => F9
      rename News g' L' _ _ => N9
      have N10 := News.sub N9 (b := (210, tabObj ps8) :: (D, lst ys ys.length) :: (I, oI) :: lawC L' oW oS oN3 oB oR oC oM oG (xs8 ++ (xs ++ r))) (by rw [hrr8]; walk_at "sub")
      clear N9
      refine of_stop (byWins (c := c) (lo := 1) (hi := 3) (R := D) (S := S) (rs := (restN wt c).map one) (lr := xs8 ++ xs) (sc := scP wt abc5) F9 X N10 T (by show ad + 60 < recursionLimit; omega) (by show au + 500 < cLine; omega) rfl (by walk_at "my mem") (by walk_at "my mem") (by walk_at "my off") LO8 (by walk_at "sub") hrs (by rw [List.length_map]; exact hr4) hD hlo (sc_has wt hcm) (rest_has wt c) (.inl ⟨_, rfl⟩) (by decide) (by decide) (rest_ok wt hcm) ?_)
      intro h11 tk11 ps11 xs11 F11 N11 LO11 hxs11
      rw [hb2]
      have N12 := News.sub N11 (b := lawC L' oW oS oN3 oB oR oC oM oG ((210, tabObj ps11) :: (xs11 ++ (xs8 ++ (xs ++ ((I, oI) :: r)))))) (by walk_at "sub")
      clear N11 N10 F9
      obtain ⟨rr9, hrr9⟩ : ∃ l, l = (210, tabObj ps11) :: (xs11 ++ (xs8 ++ (xs ++ ((I, oI) :: r)))) := ⟨_, rfl⟩
      rw [← hrr9] at N12
      k_steps
      rename Fr g' L' _ _ => F13
      rename News g' L' _ _ => N13
      refine StepIt.next (lawC L' oW oS oN3 oB oR oC oM oG ((210, tabObj ps11) :: ((xs11 ++ (xs8 ++ xs)) ++ r))) F13 (News.sub N13 (b := (I, oI) :: lawC L' oW oS oN3 oB oR oC oM oG ((210, tabObj ps11) :: ((xs11 ++ (xs8 ++ xs)) ++ r))) (by rw [hrr9]; simp only [List.append_assoc]; walk_at "sub")) (fun p hp => hp) ?_ (fun p hp => (List.not_mem_nil hp).elim) ⟨rfl, _, oN3, _, ps11, xs11 ++ (xs8 ++ xs), rfl, rfl, dN3, LO11, ?_⟩
      · have xI1 := hxs11 I oI (by walk_at "my mem")
        have xI8 := hxs8 I oI (by walk_at "my mem")
        walk_at "my off"
      · intro a o hm
        refine abv_append.mpr ⟨?_, abv_append.mpr ⟨?_, hxs a o hm⟩⟩
        · obtain ⟨o', ho'⟩ := key6 (a := a) (o := o) (oN' := oN3) (ps' := ps8) (q := xs8 ++ (xs ++ r)) hm (fun p hp => List.mem_append_right _ (List.mem_append_right _ hp))
          exact hxs11 a o' (by
            rcases List.mem_cons.mp ho' with e | ho'
            · rw [e]; exact List.mem_cons_self
            · walk_at "my mem")
        · obtain ⟨o', ho'⟩ := key6 (a := a) (o := o) (oN' := oN3) (ps' := ps) (q := xs ++ r) hm (fun p hp => List.mem_append_right _ hp)
          exact hxs8 a o' (by
            rcases List.mem_cons.mp ho' with e | ho'
            · rw [e]; exact List.mem_cons_self
            · walk_at "my mem")
  · rintro h tk gs m' news' ht F2 N2 ⟨rfl, re, oN', vN', ps, xs, rfl, rfl, dN', LO, hxs⟩
    walk_at "seal24"
    (revert re_1; intro re; set_option tactic.hygienic false in intros) --fix
    exact ret _ _ oN' re ⟨_, dN'⟩ F2 ⟨ps, News.sub N2 (by walk_at "sub")⟩
end
end
section
set_option maxRecDepth 100000
noncomputable def runL (n : Nat) : List Nat := List.replicate n 32 ++ [9]
noncomputable def runT (n : Nat) : Str := ⟨(runL n).toArray⟩
noncomputable def StrV (x : Str) (v : Value) : Prop := ∃ t, v = .str x t
theorem runT_mul {n : Nat} (h : n ≤ 5) : Txt.mul (Str.ofString " ") (n : Int) ++ Str.ofString "\t" = runT n := by
  have k : ∀ n : Nat, n < 6 → Txt.mul (Str.ofString " ") (n : Int) ++ Str.ofString "\t" = runT n := by decide +kernel
  exact k n (by omega)
noncomputable def leadL (wt : List Str) : List Nat := (abc5.map (scoreOf wt)).flatMap runL
noncomputable def leadT (wt : List Str) : Str := ⟨(leadL wt ++ [120, 32, 9]).toArray⟩
theorem Str.ext_l {a b : Str} (h : a.cps.toList = b.cps.toList) : a = b := by
  cases a; cases b; simp only at h; rw [Array.ext' h]
theorem Str.app_l (a b : Str) : (a ++ b).cps.toList = a.cps.toList ++ b.cps.toList := by
  show (a.cps ++ b.cps).toList = _
  simp
theorem join_runs (l : List Nat) : Txt.join (Str.ofString "") (l.map runT) = ⟨(l.flatMap runL).toArray⟩ := by
  unfold Txt.join
  rw [StrLaws.glued_eq_join]
  induction l with
  | nil => rfl
  | cons a r ih =>
    cases r with
    | nil => refine Str.ext_l ?_; show (runL a).toArray.toList = _; simp
    | cons b r =>
      refine Str.ext_l ?_
      show ((runT a ++ Str.ofString "") ++ Str.join (Str.ofString "") ((b :: r).map runT)).cps.toList = _
      rw [ih, Str.app_l, Str.app_l]
      simp [runT, show (Str.ofString "").cps.toList = [] from rfl]
theorem score_le (wt : List Str) (c : Nat) : scoreOf wt c ≤ 5 := List.length_filter_le _ abc5
theorem runL_mem {n x : Nat} (h : x ∈ runL n) : x = 32 ∨ x = 9 := by
  rcases List.mem_append.mp h with h | h
  · exact .inl (List.mem_replicate.mp h).2
  · exact .inr (List.mem_singleton.mp h)
theorem runs_mem {l : List Nat} {x : Nat} (h : x ∈ l.flatMap runL) : x = 32 ∨ x = 9 := by
  obtain ⟨n, -, h⟩ := List.mem_flatMap.mp h
  exact runL_mem h
theorem runs_len : ∀ l : List Nat, (l.flatMap runL).length = l.sum + l.length
  | [] => rfl
  | a :: r => by rw [List.flatMap_cons, List.length_append, runs_len r, List.sum_cons, List.length_cons]; simp only [runL, List.length_append, List.length_replicate, List.length_cons, List.length_nil]; omega
theorem lead_len {wt : List Str} (h : (abc5.map (scoreOf wt)).sum = 10) : (leadL wt).length = 15 := by
  unfold leadL; rw [runs_len, h, List.length_map]; rfl
theorem lead_ws {wt : List Str} (h : (abc5.map (scoreOf wt)).sum = 10) : ∀ i c, i < 15 → (leadT wt).cps[i]? = some c → c = 32 ∨ c = 9 := by
  intro i c hi hc
  have hl := lead_len h
  have e : (leadL wt ++ [120, 32, 9])[i]? = some c := by simpa [leadT] using hc
  rw [List.getElem?_append_left (by omega)] at e
  exact runs_mem (List.mem_of_getElem? e)
theorem lead_end {wt : List Str} (h : (abc5.map (scoreOf wt)).sum = 10) : (leadT wt).cps[15]? = some 120 := by
  have hl := lead_len h
  have e : (leadL wt ++ [120, 32, 9])[15]? = some 120 := by
    rw [List.getElem?_append_right (by omega), hl]; rfl
  simpa [leadT] using e
theorem lead_size {wt : List Str} (h : (abc5.map (scoreOf wt)).sum = 10) : (leadT wt).cps.size = 18 := by
  have hl := lead_len h
  simp [leadT, hl]
theorem lead_take {wt : List Str} (h : (abc5.map (scoreOf wt)).sum = 10) : (leadT wt).cps.toList.take 15 = leadL wt := by
  have hl := lead_len h
  show (leadL wt ++ [120, 32, 9]).take 15 = _
  rw [List.take_append_of_le_length (by omega), List.take_of_length_le (by omega)]
theorem lead_join (wt : List Str) : Txt.join (Str.ofString "") (abc5.map fun c => runT (scoreOf wt c)) ++ Str.ofString "x \t" = leadT wt := by
  have e : (abc5.map fun c => runT (scoreOf wt c)) = (abc5.map (scoreOf wt)).map runT := by rw [List.map_map]; rfl
  rw [e, join_runs]
  refine Str.ext_l ?_
  rw [Str.app_l]
  simp [leadT, leadL]
  rfl
theorem lead_joinok (wt : List Str) : ((abc5.map fun c => runT (scoreOf wt c)).map (·.length)).sum + (abc5.map fun c => runT (scoreOf wt c)).length * (Str.ofString "").length ≤ 16777216 := by
  have k : ∀ c, (runT (scoreOf wt c)).length ≤ 6 := fun c => by
    have := score_le wt c
    show (runL _).toArray.size ≤ 6
    simp [runL]; omega
  have k1 := k 97
  have k2 := k 98
  have k3 := k 99
  have k4 := k 100
  have k5 := k 101
  simp only [abc5, List.map_cons, List.map_nil, List.sum_cons, List.sum_nil, List.length_cons, List.length_nil, show (Str.ofString "").length = 0 from rfl]
  omega
noncomputable def WsAt (w : World) (x : Addr) (ws : Str) (c : Nat × Nat × List Nat × Nat) (l : List (Addr × Obj)) : Prop :=
  ∃ dx CT NT cv sb tb k1 k2 k3 k4 k5 tn tnt tw, IntsAre cv (c.2.2.1.map fun q : Nat => (q : Int)) ∧ l = [(NT, { cls := .type "tuple", data := .seq #[.ref CT, .int (c.2.2.2 : Nat) tb] }), (CT, { cls := .type "tuple", data := .seq cv.toArray }), (x, instObj 168 dx), (dx, wsD w ws tw c.1 c.2.1 NT sb k1 k2 k3 k4 k5 tn tnt)]
section
variable {w : World} {p : Program} {loose : List Str} {mean : ExcName → Option Value} {mg mb : Str → Option Value} {ad au : Nat} {af : Option (List Env)} {ag : Option (List Code)} {g' : Heap} {L' : Addr} {s : Shared} {Q : Flow → Shared → Prop}
  {oW oS oN oB oR oC oM oG : Obj} {r : List (Addr × Obj)} {sc pg fi se wh fa re le be th ev fv la ru tu du : Option Value}
set_option maxHeartbeats 4000000 in
theorem law7 {st : Stmt} (hst : st = lawSt 7) {S : Addr} {wt : List Str} {oD : Obj} (F : Fr g' L' s.heap (lawM sc pg fi se wh fa re le be th ev fv la ru tu du)) (X : (KK w.params).In g') (N : News g' L' s.heap (lawC L' oW oS oN oB oR oC oM oG r)) (T : Top p loose mean mg mb g') (hd : ad + 160 < recursionLimit) (hu : au + 1000 < cLine)
    (dS : oS.data = .cell (some (.ref S))) (hS : (S, oD) ∈ r) (hD : DictSI w oD (scP wt abc5)) (hlo : (S == sysModules) = false)
    (hs10 : (abc5.map (scoreOf wt)).sum = 10) {cs : List Nat} (hws : wsP (leadL wt) = (15, 5, cs, 0))
    (ret : ∀ h' tk x xs, WsAt w x (leadT wt) (15, 5, cs, 0) xs → (∀ a o, (a, o) ∈ lawC L' oW oS oN oB oR oC oM oG r → Abv a xs) → Fr g' L' h' (lawM sc pg fi se wh fa re (some (.ref x)) be th ev fv la ru tu du) → News g' L' h' (lawC L' oW oS oN oB oR oC oM oG (xs ++ r)) → Q .next { s with heap := h', toks := tk }) :
    wpAny (model PG w) ⟨none, ad, af, ag, au⟩ (exec st (lawEnv L')) Q NoE s := by
  walk_at "seal24"
  have e : lawSt 7 = Stmt.Assign _ _ _ := rfl
  rw [hst, e]
  have Fx := F
  have Nx := N
  k_steps
  refine of_stop (comp_top (by with_unfolding_all rfl) rfl (by decide) ?_)
  k_steps
  refine of_stop (comp_pure (src_abc rfl F) F N (by decide) (fun _ => true) (fun k v => StrV (runT (scoreOf wt (abc5.getD k 0))) v) ?_ (rr_e ?_) (fun p hp => (List.not_mem_nil hp).elim))
  · rintro k v m₂ Ic Cc Dc oIc oCc ysT h tk₀ tk hk htk ⟨u, rfl, hdm⟩ hlk hoC hm2 F7 N7
    generalize abc5.getD k 0 = d at *
    have hsc5 : scoreOf wt d ≤ 5 := score_le wt d
    refine tests_nil ⟨rfl, ?_⟩
    rw [if_pos rfl]
    k_steps
    refine of_stop (kdp_item (scTab N7 (by walk_at "my mem") hD hlo) (sc_has wt hdm) fun t' => ?_)
    rw [sc_look wt hdm]
    k_steps
    · rw [runT_mul hsc5]
      exact ⟨_, rfl⟩
    · exact Same.intro (by assumption) (by assumption) (by walk_at "sub")
  · intro D h tk gs ys m' nw htk F5 N5 hoD
    rintro ⟨rfl, rfl, hp⟩
    have hys := Pk.abc (f := fun _ => true) (g := fun c => runT (scoreOf wt c)) hp fun k v h => h
    rw [show (abc5.filter fun _ => true) = abc5 from rfl] at hys
    k_steps
    refine of_stop (join_list (News.isList N5 (by walk_at "my mem")) hys (lead_joinok wt) fun t' k' => ?_)
    have hjt := lead_join wt
    have hjl : (Txt.join (Str.ofString "") (abc5.map fun c => runT (scoreOf wt c))).length + (Str.ofString "x \t").length ≤ sizeLine := by
      have k1 := congrArg Str.length hjt
      rw [Str.length_append] at k1
      rw [k1]
      show (leadT wt).cps.size ≤ _
      rw [lead_size hs10]
      decide
    generalize Txt.join (Str.ofString "") (abc5.map fun c => runT (scoreOf wt c)) = jt at *
    k_steps
    rw [hjt]
    refine of_stop (whiteC (k := 15) F5 X N5 T (by show ad + 30 < recursionLimit; omega) rfl (by rw [lead_size hs10]; decide) (by rw [lead_size hs10]; decide) (lead_ws hs10) (.inr ⟨120, lead_end hs10, by decide, by decide⟩) ?_)
    intro h3 tk3 x dx CT NT cv n nt cs' b sb tb k1 k2 k3 k4 k5 tn tnt hw hcv F6 N6 bdx l1 l2 l3
    rw [lead_take hs10, hws] at hw
    cases hw
    k_steps
    rename Fr g' L' _ _ => F7
    rename News g' L' _ _ => N7
    simp only [mp_set] at F7
    refine ret _ _ x _ ⟨dx, CT, NT, cv, sb, tb, k1, k2, k3, k4, k5, tn, tnt, _, hcv, rfl⟩ (fun a o ha => ?_) (canon lawK F7 rfl) (News.sub N7 (by walk_at "sub"))
    have l0 : @LT.lt Nat _ a dx := bdx.get (List.mem_cons_of_mem _ ha)
    have l4 : @LT.lt Nat _ dx NT := Nat.lt_trans l1 (Nat.lt_trans l2 l3)
    have l5 : @LT.lt Nat _ dx CT := Nat.lt_trans l1 l2
    exact abv_cons.mpr ⟨Nat.lt_trans l0 l4, abv_cons.mpr ⟨Nat.lt_trans l0 l5, abv_cons.mpr ⟨Nat.lt_trans l0 l1, abv_cons.mpr ⟨l0, abv_nil _⟩⟩⟩⟩
end
end
section
set_option hygiene false
local macro_rules | `(tactic| walk_at "getAttr ref") => `(tactic| (k_here; refine stop_of ?_))
local macro_rules | `(tactic| walk_at "getMethod ref") => `(tactic| (k_here; refine stop_of ?_))
set_option hygiene true
section
set_option maxRecDepth 100000
noncomputable def WsIn (w : World) (x : Addr) (ws : Str) (c : Nat × Nat × List Nat × Nat) (l : List (Addr × Obj)) : Prop := ∃ xs, WsAt w x ws c xs ∧ ∀ q ∈ xs, q ∈ l
theorem WsIn.sub {w : World} {x : Addr} {ws : Str} {c : Nat × Nat × List Nat × Nat} {l l' : List (Addr × Obj)} (h : WsIn w x ws c l) (k : ∀ q ∈ l, q ∈ l') : WsIn w x ws c l' := by
  obtain ⟨xs, h1, h2⟩ := h
  exact ⟨xs, h1, fun q hq => k q (h2 q hq)⟩
noncomputable def tupO (vs : List Value) : Obj := { cls := .type "tuple", data := .seq vs.toArray }
theorem len_tup {w : World} {A : Around} {E : Value → Shared → Prop} {h₀ : Heap} {L l : Addr} {news : List (Addr × Obj)} {s : Shared} {vs : List Value} {Q : Value → Shared → Prop} (N : News h₀ L s.heap news) (hm : (l, tupO vs) ∈ news) (hs : vs.length < 100000)
    (h : ∀ t tk, Q (.int vs.length t) { s with toks := tk }) : wpAny (model PG w) A (call (.builtin "len") [.ref l]) Q E s := by
  refine PyProof.Rows.len_tuple (items := vs.toArray) ⟨_, N.get hm, rfl, _, rfl⟩ ?_ ?_
  · rw [List.size_toArray]; omega
  · rw [List.size_toArray]; exact h _ _
section
variable {w : World} {A : Around} {E : Value → Shared → Prop} {h₀ : Heap} {L : Addr} {m : Str → Option Value} {news l : List (Addr × Obj)} {s : Shared} {Q : Value → Shared → Prop} {x : Addr} {ws : Str} {n nt b : Nat} {cs : List Nat} {ex : Bool}
theorem ws_raw (F : Fr h₀ L s.heap m) (X : (KK w.params).In h₀) (N : News h₀ L s.heap news) (hX : WsIn w x ws (n, nt, cs, b) l) (hl : ∀ q ∈ l, q ∈ news) (h : ∀ t, Q (.str ws t) { s with toks := s.toks + 1 }) : wpAny (model PG w) A (getAttr (.ref x) (Str.ofString "raw") ex) Q E s := by
  obtain ⟨xs, ⟨dx, CT, NT, cv, sb, tb, k1, k2, k3, k4, k5, tn, tnt, tw, hcv, rfl⟩, hxs⟩ := hX
  have m3 := hxs _ (List.mem_cons_of_mem _ (List.mem_cons_of_mem _ List.mem_cons_self))
  have m4 := hxs _ (List.mem_cons_of_mem _ (List.mem_cons_of_mem _ (List.mem_cons_of_mem _ List.mem_cons_self)))
  refine' get_own F X (InstAt.of_news N (hl _ m3) (hl _ m4)) ?k4 ?k5 ?k6 ?k7 ?k8 ?k9 (h tw)
  case k4 => k_is
  case k5 => k_is
  case k6 => k_is
  case k7 => k_is
  case k8 => k_get
  case k9 => k_handed
theorem ws_n (F : Fr h₀ L s.heap m) (X : (KK w.params).In h₀) (N : News h₀ L s.heap news) (hX : WsIn w x ws (n, nt, cs, b) l) (hl : ∀ q ∈ l, q ∈ news) (h : ∀ t, Q (.int (n : Nat) t) { s with toks := s.toks + 1 }) : wpAny (model PG w) A (getAttr (.ref x) (Str.ofString "n") ex) Q E s := by
  obtain ⟨xs, ⟨dx, CT, NT, cv, sb, tb, k1, k2, k3, k4, k5, tn, tnt, tw, hcv, rfl⟩, hxs⟩ := hX
  have m3 := hxs _ (List.mem_cons_of_mem _ (List.mem_cons_of_mem _ List.mem_cons_self))
  have m4 := hxs _ (List.mem_cons_of_mem _ (List.mem_cons_of_mem _ (List.mem_cons_of_mem _ List.mem_cons_self)))
  refine' get_own F X (InstAt.of_news N (hl _ m3) (hl _ m4)) ?k4 ?k5 ?k6 ?k7 ?k8 ?k9 (h tn)
  case k4 => k_is
  case k5 => k_is
  case k6 => k_is
  case k7 => k_is
  case k8 => k_get
  case k9 => k_handed
theorem ws_nt (F : Fr h₀ L s.heap m) (X : (KK w.params).In h₀) (N : News h₀ L s.heap news) (hX : WsIn w x ws (n, nt, cs, b) l) (hl : ∀ q ∈ l, q ∈ news) (h : ∀ t, Q (.int (nt : Nat) t) { s with toks := s.toks + 1 }) : wpAny (model PG w) A (getAttr (.ref x) (Str.ofString "nt") ex) Q E s := by
  obtain ⟨xs, ⟨dx, CT, NT, cv, sb, tb, k1, k2, k3, k4, k5, tn, tnt, tw, hcv, rfl⟩, hxs⟩ := hX
  have m3 := hxs _ (List.mem_cons_of_mem _ (List.mem_cons_of_mem _ List.mem_cons_self))
  have m4 := hxs _ (List.mem_cons_of_mem _ (List.mem_cons_of_mem _ (List.mem_cons_of_mem _ List.mem_cons_self)))
  refine' get_own F X (InstAt.of_news N (hl _ m3) (hl _ m4)) ?k4 ?k5 ?k6 ?k7 ?k8 ?k9 (h tnt)
  case k4 => k_is
  case k5 => k_is
  case k6 => k_is
  case k7 => k_is
  case k8 => k_get
  case k9 => k_handed
theorem ws_norm (F : Fr h₀ L s.heap m) (X : (KK w.params).In h₀) (N : News h₀ L s.heap news) (hX : WsIn w x ws (n, nt, cs, b) l) (hl : ∀ q ∈ l, q ∈ news) (h : ∀ NT CT cv tb, IntsAre cv (cs.map fun q : Nat => (q : Int)) → (NT, tupO [.ref CT, .int (b : Nat) tb]) ∈ l → (CT, tupO cv) ∈ l → Q (.ref NT) { s with toks := s.toks + 1 }) : wpAny (model PG w) A (getAttr (.ref x) (Str.ofString "norm") ex) Q E s := by
  obtain ⟨xs, ⟨dx, CT, NT, cv, sb, tb, k1, k2, k3, k4, k5, tn, tnt, tw, hcv, rfl⟩, hxs⟩ := hX
  have m1 := hxs _ List.mem_cons_self
  have m2 := hxs _ (List.mem_cons_of_mem _ List.mem_cons_self)
  have m3 := hxs _ (List.mem_cons_of_mem _ (List.mem_cons_of_mem _ List.mem_cons_self))
  have m4 := hxs _ (List.mem_cons_of_mem _ (List.mem_cons_of_mem _ (List.mem_cons_of_mem _ List.mem_cons_self)))
  refine' get_own F X (InstAt.of_news N (hl _ m3) (hl _ m4)) ?k4 ?k5 ?k6 ?k7 ?k8 ?k9 (h NT CT cv tb hcv m1 m2)
  case k4 => k_is
  case k5 => k_is
  case k6 => k_is
  case k7 => k_is
  case k8 => k_get
  case k9 => k_handed
theorem ws_longest {pl : Sem Bool} {Q : Value × List Value → Shared → Prop} (F : Fr h₀ L s.heap m) (X : (KK w.params).In h₀) (N : News h₀ L s.heap news) (hX : WsIn w x ws (n, nt, cs, b) l) (hl : ∀ q ∈ l, q ∈ news) (h : Q (.ref 130, [.ref x]) s) : wpAny (model PG w) A (getMethod (.ref x) (Str.ofString "longest_run_of_spaces") pl) Q E s := by
  obtain ⟨xs, ⟨dx, CT, NT, cv, sb, tb, k1, k2, k3, k4, k5, tn, tnt, tw, hcv, rfl⟩, hxs⟩ := hX
  have m3 := hxs _ (List.mem_cons_of_mem _ (List.mem_cons_of_mem _ List.mem_cons_self))
  have m4 := hxs _ (List.mem_cons_of_mem _ (List.mem_cons_of_mem _ (List.mem_cons_of_mem _ List.mem_cons_self)))
  refine' method_inst F X (InstAt.of_news N (hl _ m3) (hl _ m4)) ?k4 ?k5 ?k6 ?k7 h
  case k4 => k_is
  case k5 => k_is
  case k6 => k_is
  case k7 => k_get
theorem ws_equal {pl : Sem Bool} {Q : Value × List Value → Shared → Prop} (F : Fr h₀ L s.heap m) (X : (KK w.params).In h₀) (N : News h₀ L s.heap news) (hX : WsIn w x ws (n, nt, cs, b) l) (hl : ∀ q ∈ l, q ∈ news) (h : Q (.ref 144, [.ref x]) s) : wpAny (model PG w) A (getMethod (.ref x) (Str.ofString "equal") pl) Q E s := by
  obtain ⟨xs, ⟨dx, CT, NT, cv, sb, tb, k1, k2, k3, k4, k5, tn, tnt, tw, hcv, rfl⟩, hxs⟩ := hX
  have m3 := hxs _ (List.mem_cons_of_mem _ (List.mem_cons_of_mem _ List.mem_cons_self))
  have m4 := hxs _ (List.mem_cons_of_mem _ (List.mem_cons_of_mem _ (List.mem_cons_of_mem _ List.mem_cons_self)))
  refine' method_inst F X (InstAt.of_news N (hl _ m3) (hl _ m4)) ?k4 ?k5 ?k6 ?k7 h
  case k4 => k_is
  case k5 => k_is
  case k6 => k_is
  case k7 => k_get
end
section
variable {w : World} {p : Program} {loose : List Str} {mean : ExcName → Option Value} {mg mb : Str → Option Value} {ad au : Nat} {af : Option (List Env)} {ag : Option (List Code)} {g' : Heap} {L' : Addr} {s : Shared} {Q : Flow → Shared → Prop}
  {oW oS oN oB oR oC oM oG : Obj} {r : List (Addr × Obj)} {sc pg fi se wh fa re le be th ev fv la ru tu du : Option Value}
set_option maxHeartbeats 4000000 in
theorem law8 {st : Stmt} (hst : st = lawSt 8) {x : Addr} {ws : Str} {cs : List Nat} {b n nt : Nat} (F : Fr g' L' s.heap (lawM sc pg fi se wh fa re (some (.ref x)) be th ev fv la ru tu du)) (X : (KK w.params).In g') (N : News g' L' s.heap (lawC L' oW oS oN oB oR oC oM oG r)) (T : Top p loose mean mg mb g') (hd : ad + 160 < recursionLimit) (hu : au + 1000 < cLine)
    (hX : WsIn w x ws (n, nt, cs, b) r) (off6 : Off (L' + 1 + 1 + 1 + 1 + 1 + 1) r) (dC : oC.data = .cell none)
    (ret : ∀ h' tk oC' CT cv tb, oC'.data = .cell (some (.ref CT)) → IntsAre cv (cs.map fun q : Nat => (q : Int)) → (CT, tupO cv) ∈ r → Fr g' L' h' (lawM sc pg fi se wh fa re (some (.ref x)) (some (.int (b : Nat) tb)) th ev fv la ru tu du) → News g' L' h' (lawC L' oW oS oN oB oR oC' oM oG r) → Q .next { s with heap := h', toks := tk }) :
    wpAny (model PG w) ⟨none, ad, af, ag, au⟩ (exec st (lawEnv L')) Q NoE s := by
  walk_at "seal24"
  have e : lawSt 8 = Stmt.Assign _ _ _ := rfl
  rw [hst, e]
  k_steps
  refine of_stop (ws_norm F X N hX (by walk_at "sub") ?_)
  intro NT CT cv tb hcv m1 m2
  have m1' : (NT, tupO [.ref CT, .int (b : Nat) tb]) ∈ lawC L' oW oS oN oB oR oC oM oG r := by walk_at "my mem"
  k_steps
  rename Fr g' L' _ _ => F3
  rename News g' L' _ _ => N3
  simp only [mp_set] at F3
  rename_i d3 _
  exact ret _ _ _ CT cv tb d3 hcv m2 (canon lawK F3 rfl) (News.sub N3 (by walk_at "sub"))
end
end
section
set_option hygiene false
local macro_rules | `(tactic| walk_at "call builtin:str.replace") => `(tactic| (k_here; refine stop_of ?_))
set_option hygiene true
local macro_rules | `(tactic| walk_at "call builtin:len") => `(tactic| (k_here; refine len_tup (by k_asm) (by walk_at "my mem") (by omega) ?_; intro t' tk'))
set_option hygiene false
local macro_rules | `(tactic| walk_at "ints") => `(tactic| (repeat (first | exact IntsAre.nil | refine IntsAre.cons _ _ ?_)))
set_option hygiene true
section
set_option maxRecDepth 100000
noncomputable def IntV (n : Int) (v : Value) : Prop := ∃ t, v = .int n t
theorem getD_cast (l : List Nat) (k : Nat) : (l.map fun q : Nat => (q : Int)).getD k 0 = (l.getD k 0 : Int) := by
  simp only [List.getD_eq_getElem?_getD, List.getElem?_map]
  cases l[k]? <;> rfl
noncomputable def SmallL (cs : List Nat) : Prop := ∀ k, cs.getD k 0 ≤ 15
noncomputable def threesV (cs : List Nat) : Int := 10 - ((List.range cs.length).map fun i => (cs.getD i 0 : Int) * ((((i : Nat) : Int) * (((i : Nat) : Int) - 1)).fdiv 2)).sum
section
variable {w : World} {p : Program} {loose : List Str} {mean : ExcName → Option Value} {mg mb : Str → Option Value} {ad au : Nat} {af : Option (List Env)} {ag : Option (List Code)} {g' : Heap} {L' : Addr} {s : Shared} {Q : Flow → Shared → Prop}
  {oW oS oN oB oR oC oM oG : Obj} {r : List (Addr × Obj)} {sc pg fi se wh fa re le be th ev fv la ru tu du : Option Value}
set_option maxHeartbeats 4000000 in
theorem law9 {st : Stmt} (hst : st = lawSt 9) {CT : Addr} {cv : List Value} {cs : List Nat} (F : Fr g' L' s.heap (lawM sc pg fi se wh fa re le be th ev fv la ru tu du)) (X : (KK w.params).In g') (N : News g' L' s.heap (lawC L' oW oS oN oB oR oC oM oG r)) (T : Top p loose mean mg mb g') (hd : ad + 160 < recursionLimit) (hu : au + 1000 < cLine)
    (dC : oC.data = .cell (some (.ref CT))) (hcv : IntsAre cv (cs.map fun q : Nat => (q : Int))) (hC : (CT, tupO cv) ∈ r) (hcl : cs.length ≤ 15) (hcb : SmallL cs)
    (ret : ∀ h' tk t, Fr g' L' h' (lawM sc pg fi se wh fa re le be (some (.int (threesV cs) t)) ev fv la ru tu du) → News g' L' h' (lawC L' oW oS oN oB oR oC oM oG r) → Q .next { s with heap := h', toks := tk }) :
    wpAny (model PG w) ⟨none, ad, af, ag, au⟩ (exec st (lawEnv L')) Q NoE s := by
  have sS : SubAt := trivial
  walk_at "seal24"
  have e : lawSt 9 = Stmt.Assign _ _ _ := rfl
  rw [hst, e]
  have hcvl := hcv.length
  rw [List.length_map] at hcvl
  k_steps
  refine of_stop (comp_top (by with_unfolding_all rfl) rfl (by decide) ?_)
  k_steps
  rename Fr g' L' _ _ => F1
  rename News g' L' _ _ => N1
  rename IsRange _ _ _ _ _ _ _ _ => hR
  rw [List.length_map] at hR
  refine of_stop (comp_pure (n := cs.length) (src_range rfl F1 hR (range_small0 _ (by omega)) (range_sz0 _)) F1 N1 (by omega) (fun _ => true) (fun k v => IntV ((cs.getD k 0 : Int) * ((((k : Nat) : Int) * (((k : Nat) : Int) - 1)).fdiv 2)) v) ?_ (rr_e ?_) (fun p hp => (List.not_mem_nil hp).elim))
  · rename IntsAre cv _ => hcv'
    rintro k v m₂ Ic Cc Dc oIc oCc ysT h tk₀ tk hk htk ⟨tv, hv⟩ hlk hoC hm2 F7 N7
    rw [Int.zero_add] at hv
    subst hv
    refine tests_nil ⟨rfl, ?_⟩
    rw [if_pos rfl]
    k_steps
    refine of_stop (item_tuple_ints (vs := cv) ⟨_, N7.get (by walk_at "my mem" : (CT, tupO cv) ∈ _), rfl, _, rfl⟩ hcv' (by omega) (by rw [List.length_map]; omega) (by omega) fun t1 => ?_)
    rw [Int.toNat_natCast, getD_cast]
    have hmul : IntMulOk (cs.getD k 0 : Int) ((((k : Nat) : Int) * (((k : Nat) : Int) - 1)).fdiv 2) := by
      have := hcb k
      exact IntMulOk.of_left (intBits_le_64 (by omega) (by omega))
    k_steps
    · exact ⟨_, rfl⟩
    · exact Same.intro (by assumption) (by assumption) (by walk_at "sub")
  · intro D h tk gs ys m' nw htk F5 N5 hoD
    rintro ⟨rfl, rfl, hp⟩
    rw [List.filter_eq_self.mpr (fun _ _ => rfl)] at hp
    have hys := hp.ints fun k v h => h
    k_steps
    refine of_stop (LSm.sum_ints F5 N5 rfl (News.isList N5 (by walk_at "my mem")) hys ?_)
    intro h6 tk6 t6 F6 N6
    k_steps
    rename Fr g' L' _ _ => F7
    rename News g' L' _ _ => N7
    simp only [mp_set] at F7
    exact ret _ _ _ (canon lawK F7 rfl) (News.sub N7 (by walk_at "sub"))
end
end
section
set_option maxRecDepth 100000
theorem src_abcT {w : World} {A : Around} {h₀ : Heap} {L : Addr} {s : Shared} {m : Str → Option Value} {t : Tok} (hh : A.handled = none) (F : Fr h₀ L s.heap m) : Src PG w A h₀ L [] (.str (Str.ofString "abcde") t) s 5 (fun j v tk => ∃ t, v = .str (one (abc5.getD j 0)) t ∧ abc5.getD j 0 ∈ abc5 ∧ s.toks ≤ t ∧ t < tk) := by
  have q := Src.mono (P' := fun j v tk => ∃ t, v = .str (one (abc5.getD j 0)) t ∧ abc5.getD j 0 ∈ abc5 ∧ s.toks ≤ t ∧ t < tk) (src_str (y := Str.ofString "abcde") (t := t) (prog := PG) (w := w) hh F) (fun j v tk h => by
    obtain ⟨d, u, hd, rfl, h1, h2⟩ := h
    rw [abc_at hd]
    exact ⟨u, rfl, abc_mem hd, h1, h2⟩)
  rw [show (Str.ofString "abcde").cps.size = 5 by decide +kernel] at q
  exact q
noncomputable def everyV (wt : List Str) : Int := (abc5.map fun c => ((endsP wt 4 c (abc5.filter (· != c))).length : Int)).sum
theorem rest4 {c : Nat} (h : c ∈ abc5) : (abc5.filter (· != c)).length ≤ 4 := by
  have k : ∀ c ∈ abc5, (abc5.filter (· != c)).length ≤ 4 := by decide
  exact k c h
section
variable {w : World} {p : Program} {loose : List Str} {mean : ExcName → Option Value} {mg mb : Str → Option Value} {ad au : Nat} {af : Option (List Env)} {ag : Option (List Code)} {g' : Heap} {L' : Addr} {s : Shared} {Q : Flow → Shared → Prop}
  {oW oS oN oB oR oC oM oG : Obj} {r : List (Addr × Obj)} {sc pg fi se wh fa re le be th ev fv la ru tu du : Option Value}
set_option maxHeartbeats 4000000 in
theorem law10 {st : Stmt} (hst : st = lawSt 10) {W : Addr} {wv : List Value} {n : Nat} {wt : List Str} (F : Fr g' L' s.heap (lawM sc pg fi se wh fa re le be th ev fv la ru tu du)) (X : (KK w.params).In g') (N : News g' L' s.heap (lawC L' oW oS oN oB oR oC oM oG r)) (T : Top p loose mean mg mb g') (hd : ad + 160 < recursionLimit) (hu : au + 1000 < cLine)
    (hwv : StrsAre wv wt) (hwl : wv.length < 1000) (dW : oW.data = .cell (some (.ref W))) (hW : (W, lst wv n) ∈ r)
    (ret : ∀ h' tk t, Fr g' L' h' (lawM sc pg fi se wh fa re le be th (some (.int (everyV wt) t)) fv la ru tu du) → News g' L' h' (lawC L' oW oS oN oB oR oC oM oG r) → Q .next { s with heap := h', toks := tk }) :
    wpAny (model PG w) ⟨none, ad, af, ag, au⟩ (exec st (lawEnv L')) Q NoE s := by
  walk_at "seal24"
  have e : lawSt 10 = Stmt.Assign _ _ _ := rfl
  rw [hst, e]
  k_steps
  refine of_stop (comp_top (by with_unfolding_all rfl) rfl (by decide) ?_)
  have Fx := F
  have Nx := N
  k_steps
  refine of_stop (comp_pure (src_abcT rfl F) F N (by decide) (fun _ => true) (fun k v => IntV (endsP wt 4 (abc5.getD k 0) (abc5.filter (· != abc5.getD k 0))).length v) ?_ (rr_e ?_) (fun p hp => (List.not_mem_nil hp).elim))
  · rintro k v m₂ Ic Cc Dc oIc oCc ysT h tk₀ tk hk htk ⟨u, rfl, hdm, hu1, hu2⟩ hlk hoC hm2 F7 N7
    dsimp only at hu1 htk
    have hr4 := rest4 hdm
    generalize abc5.getD k 0 = d at *
    refine tests_nil ⟨rfl, ?_⟩
    rw [if_pos rfl]
    k_steps
    refine of_stop (repl_strike ofs_nil (tok_ne0 (by omega)) (tok_ne0 (by omega)) (Nat.ne_of_lt (Nat.lt_of_lt_of_le hu2 (Nat.le_succ_of_le hlk))) (by decide) ?_)
    intro t9 k9
    rw [abcde_l, show ([97, 98, 99, 100, 101] : List Nat) = abc5 from rfl]
    k_steps
    have hel := ends_len wt 4 d (abc5.filter (· != d)) hr4
    rw [show (4 : Nat) ^ 4 = 256 from rfl] at hel
    refine of_stop (endsC wt 4 F7 X N7 T (by k_room) rfl (by walk_at "my mem") hwv hwl hr4 (by decide) ?_)
    intro h6 tk6 D2 vs2 n2 hvs2 l6 F6 N6
    have hz2 := StrsAre.length hvs2
    rw [List.length_map] at hz2
    k_steps
    · rw [hz2]
      exact ⟨_, rfl⟩
    · exact Same.intro (by assumption) (by assumption) (by walk_at "sub")
  · intro D h tk gs ys m' nw htk F5 N5 hoD
    rintro ⟨rfl, rfl, hp⟩
    rw [List.filter_eq_self.mpr (fun _ _ => rfl)] at hp
    have hys := hp.ints fun k v h => h
    k_steps
    refine of_stop (LSm.sum_ints F5 N5 rfl (News.isList N5 (by walk_at "my mem")) hys ?_)
    intro h6 tk6 t6 F6 N6
    k_steps
    rename Fr g' L' _ _ => F7
    rename News g' L' _ _ => N7
    simp only [mp_set] at F7
    exact ret _ _ _ (canon lawK F7 rfl) (News.sub N7 (by walk_at "sub"))
end
end
section
set_option maxRecDepth 100000
noncomputable def fivesV (wt : List Str) : Int := (((endsP wt 4 97 [98, 99, 100, 101]).filter fun d => beats wt d 97).length : Nat)
theorem filt_len {α : Type} (l : List α) (a : α) (f : α → Bool) : ((List.range l.length).filter (fun k => f (l.getD k a))).length = (l.filter f).length := by
  rw [← List.countP_eq_length_filter, ← List.countP_eq_length_filter]
  have e : l = (List.range l.length).map (fun k => l.getD k a) := by
    refine List.ext_getElem (by simp) fun i h1 h2 => ?_
    simp [List.getD_eq_getElem?_getD, List.getElem?_eq_getElem h1]
  conv => rhs; rw [e, List.countP_map]
  rfl
section
variable {w : World} {p : Program} {loose : List Str} {mean : ExcName → Option Value} {mg mb : Str → Option Value} {ad au : Nat} {af : Option (List Env)} {ag : Option (List Code)} {g' : Heap} {L' : Addr} {s : Shared} {Q : Flow → Shared → Prop}
  {oW oS oN oB oR oC oM oG : Obj} {r : List (Addr × Obj)} {sc pg fi se wh fa re le be th ev fv la ru tu du : Option Value}
set_option maxHeartbeats 4000000 in
theorem law11 {st : Stmt} (hst : st = lawSt 11) {W : Addr} {wv : List Value} {n : Nat} {wt : List Str} (F : Fr g' L' s.heap (lawM sc pg fi se wh fa re le be th ev fv la ru tu du)) (X : (KK w.params).In g') (N : News g' L' s.heap (lawC L' oW oS oN oB oR oC oM oG r)) (T : Top p loose mean mg mb g') (hd : ad + 160 < recursionLimit) (hu : au + 1000 < cLine)
    (hwv : StrsAre wv wt) (hwl : wv.length < 1000) (dW : oW.data = .cell (some (.ref W))) (hW : (W, lst wv n) ∈ r)
    (ret : ∀ h' tk t, Fr g' L' h' (lawM sc pg fi se wh fa re le be th ev (some (.int (fivesV wt) t)) la ru tu du) → News g' L' h' (lawC L' oW oS oN oB oR oC oM oG r) → Q .next { s with heap := h', toks := tk }) :
    wpAny (model PG w) ⟨none, ad, af, ag, au⟩ (exec st (lawEnv L')) Q NoE s := by
  walk_at "seal24"
  have e : lawSt 11 = Stmt.Assign _ _ _ := rfl
  rw [hst, e]
  k_steps
  refine of_stop (comp_top (by with_unfolding_all rfl) rfl (by decide) ?_)
  have Fx := F
  have Nx := N
  k_steps
  rw [show Str.ofString "a" = one 97 by decide +kernel, show Str.ofString "bcde" = (⟨([98, 99, 100, 101] : List Nat).toArray⟩ : Str) by decide +kernel]
  have hel := ends_len wt 4 97 [98, 99, 100, 101] (by decide)
  rw [show (4 : Nat) ^ 4 = 256 from rfl] at hel
  refine of_stop (endsC wt 4 F X N T (by k_room) rfl (by walk_at "my mem") hwv hwl (by decide) (by decide) ?_)
  intro h1 tk1 D1 vs1 n1 hvs1 l1 F1 N1
  have hz1 := StrsAre.length hvs1
  rw [List.length_map] at hz1
  generalize hes : endsP wt 4 97 [98, 99, 100, 101] = es at *
  k_steps
  refine of_stop (comp_pure (src_list rfl F1 N1 (by walk_at "my mem" : (D1, lst vs1 n1) ∈ _)) F1 N1 (by omega) (fun k => beats wt (es.getD k 0) 97) (fun _ _ => True) ?_ (rr_e ?_) (fun p hp => by rw [List.mem_singleton.mp hp]; walk_at "my mem"))
  · rintro k v m₂ Ic Cc Dc oIc oCc ysT h tk₀ tk hk htk hv hlk hoC hm2 F7 N7
    obtain ⟨t1, e1, -⟩ := StrsAre.get hvs1 hv
    rw [map_getD (by omega)] at e1
    subst e1
    refine tests_one ?_
    k_steps
    refine of_stop (in_list_strs (vs := wv) (News.isList N7 (by walk_at "my mem")) hwv ?_)
    rw [show one (es.getD k 0) ++ one 97 = (⟨#[es.getD k 0, 97]⟩ : Str) from rfl, show wt.any (· == (⟨#[es.getD k 0, 97]⟩ : Str)) = beats wt (es.getD k 0) 97 from rfl]
    k_steps
    all_goals first | exact True.intro | exact Same.intro (by assumption) (by assumption) (by walk_at "sub")
  · intro D h tk gs ys m' nw htk F5 N5 hoD
    rintro ⟨rfl, rfl, hp⟩
    have hl := hp.len
    rw [show (List.range vs1.length) = List.range es.length by rw [hz1], filt_len es 0 fun d => beats wt d 97] at hl
    have hl2 := List.length_filter_le (fun d => beats wt d 97) es
    k_steps
    rename Fr g' L' _ _ => F7
    rename News g' L' _ _ => N7
    simp only [mp_set, hl] at F7
    rw [← hes] at F7
    exact ret _ _ _ (canon lawK F7 rfl) (News.sub N7 (by walk_at "sub"))
end
end
section
set_option maxRecDepth 100000
theorem tup_reads {h₀ h : Heap} {L a : Addr} {news : List (Addr × Obj)} {xs : List Value} {ds : List PyData} {as : List Addr} (N : News h₀ L h news) (ha : (a, tupO xs) ∈ news) (ra : ReadsAll h xs ds as) : Reads h (.ref a) (.tuple ds) as :=
  .tuple (N.get ha) rfl rfl ra
theorem ints_reads {h : Heap} {xs : List Value} {ns : List Int} (hi : IntsAre xs ns) : ReadsAll h xs (ns.map .int) [] := hi.reads h
section
variable {w : World} {p : Program} {loose : List Str} {mean : ExcName → Option Value} {mg mb : Str → Option Value} {ad au : Nat} {af : Option (List Env)} {ag : Option (List Code)} {g' : Heap} {L' : Addr} {s : Shared} {Q : Flow → Shared → Prop}
  {oW oS oN oB oR oC oM oG : Obj} {r : List (Addr × Obj)} {sc pg fi' se wh fa re le be th ev fv la ru tu du : Option Value}
set_option maxHeartbeats 4000000 in
theorem law12 {st : Stmt} (hst : st = lawSt 12) {x : Addr} {ws : Str} {cs : List Nat} {tb t1 t2 t3 : Tok} {tv fi : Int} (F : Fr g' L' s.heap (lawM sc pg fi' se wh fa re (some (.ref x)) (some (.int ((0 : Nat) : Int) tb)) (some (.int tv t1)) (some (.int (1 + 2 * (tv + fi)) t2)) (some (.int fi t3)) la ru tu du)) (X : (KK w.params).In g') (N : News g' L' s.heap (lawC L' oW oS oN oB oR oC oM oG r)) (T : Top p loose mean mg mb g') (hd : ad + 160 < recursionLimit) (hu : au + 1000 < cLine)
    (hX : WsIn w x ws (15, 5, cs, 0) r)
    (ret : ∀ h' tk, Fr g' L' h' (lawM sc pg fi' se wh fa re (some (.ref x)) (some (.int ((0 : Nat) : Int) tb)) (some (.int tv t1)) (some (.int (1 + 2 * (tv + fi)) t2)) (some (.int fi t3)) la ru tu du) → News g' L' h' (lawC L' oW oS oN oB oR oC oM oG r) → Q .next { s with heap := h', toks := tk }) :
    wpAny (model PG w) ⟨none, ad, af, ag, au⟩ (exec st (lawEnv L')) Q NoE s := by
  walk_at "seal24"
  have e : lawSt 12 = Stmt.If _ _ _ _ := rfl
  rw [hst, e]
  k_steps
  refine of_stop (ws_n F X N hX (by walk_at "sub") fun t4 => ?_)
  k_steps
  refine of_stop (ws_nt F X N hX (by walk_at "sub") fun t5 => ?_)
  k_steps
  rename News g' L' _ _ => N2
  rename Fr g' L' _ _ => F2
  refine of_stop (ne_dataH_same (tup_reads N2 (by walk_at "my mem") (ints_reads (ns := [15, 5, 0]) (by walk_at "ints"))) (tup_reads N2 (by walk_at "my mem") (ints_reads (ns := [15, 5, 0]) (by walk_at "ints"))) (by decide +kernel) (by decide +kernel) (by show au + 64 < cLine; omega) (by decide +kernel) ?_)
  rw [show PySem.Spec.same (.tuple ([15, 5, 0].map .int)) (.tuple ([15, 5, 0].map .int)) = true by decide +kernel, Bool.not_true]
  k_steps
  · exact absurd rfl (by assumption : 1 + 2 * (tv + fi) ≠ 1 + 2 * (tv + fi))
  · exact ret _ _ F2 (News.sub N2 (by walk_at "sub"))
end
end
section
set_option maxRecDepth 100000
theorem tups_ints (l : List Int) : (Spec.Shape.tuples .int).has (.tuple (l.map PyData.int)) = true := tuples_map_has fun _ => rfl
theorem cnt_shaped (cs : List Int) (a b : Int) : SeqAt.shaped (.tuple [.tuple (cs.map .int), .int a, .int b]) = true := by
  simp [SeqAt.shaped, PyData.canLay0, PyData.canLayAll0, PyData.depth, PyData.depthAll, ke_canLayAll0, ke_depthAll]
theorem cnt_noMix (cs : List Int) (a b : Int) : SeqAt.noMix (.tuple [.tuple (cs.map .int), .int a, .int b]) (.tuple [.tuple (cs.map .int), .int a, .int b]) = true := by
  have h : (Spec.Shape.tuple [.tuples .int, .int, .int]).has (.tuple [.tuple (cs.map .int), .int a, .int b]) = true := by
    simp [Spec.Shape.has, Spec.Shape.hasAll]
  exact SeqAt.noMix_of_shape _ rfl _ _ h h
noncomputable def sizesV (cs : List Nat) : Int := ((List.range cs.length).map fun i => ((i : Nat) : Int) * (cs.getD i 0 : Int)).sum
section
variable {w : World} {p : Program} {loose : List Str} {mean : ExcName → Option Value} {mg mb : Str → Option Value} {ad au : Nat} {af : Option (List Env)} {ag : Option (List Code)} {g' : Heap} {L' : Addr} {s : Shared} {Q : Flow → Shared → Prop}
  {oW oS oN oB oR oC oM oG : Obj} {r : List (Addr × Obj)} {sc pg fi se wh fa re le be th ev fv la ru tu du : Option Value}
set_option maxHeartbeats 4000000 in
theorem law13 {st : Stmt} (hst : st = lawSt 13) {CT : Addr} {cv : List Value} {cs : List Nat} (F : Fr g' L' s.heap (lawM sc pg fi se wh fa re le be th ev fv la ru tu du)) (X : (KK w.params).In g') (N : News g' L' s.heap (lawC L' oW oS oN oB oR oC oM oG r)) (T : Top p loose mean mg mb g') (hd : ad + 160 < recursionLimit) (hu : au + 1000 < cLine)
    (dC : oC.data = .cell (some (.ref CT))) (hcv : IntsAre cv (cs.map fun q : Nat => (q : Int))) (hC : (CT, tupO cv) ∈ r) (hcl : cs.length ≤ 15) (hcb : SmallL cs) (hs5 : (cs.map fun q : Nat => (q : Int)).sum = 5) (hs10 : sizesV cs = 10)
    (ret : ∀ h' tk, Fr g' L' h' (lawM sc pg fi se wh fa re le be th ev fv la ru tu du) → News g' L' h' (lawC L' oW oS oN oB oR oC oM oG r) → Q .next { s with heap := h', toks := tk }) :
    wpAny (model PG w) ⟨none, ad, af, ag, au⟩ (exec st (lawEnv L')) Q NoE s := by
  have sS : SubAt := trivial
  walk_at "seal24"
  have e : lawSt 13 = Stmt.If _ _ _ _ := rfl
  rw [hst, e]
  have hcvl := hcv.length
  rw [List.length_map] at hcvl
  k_steps
  refine of_stop (call_tuple_tup (items := cv.toArray) ⟨_, N.get (by walk_at "my mem" : (CT, tupO cv) ∈ _), rfl, _, rfl⟩ ?_)
  k_steps
  refine of_stop (ktm_sumK rfl F N (by walk_at "my mem" : (CT, tupO cv) ∈ _) hcv ?_)
  intro h1 tk1 t1 F1 N1
  rw [hs5]
  k_steps
  refine of_stop (comp_top (by with_unfolding_all rfl) rfl (by decide) ?_)
  k_steps
  rename Fr g' L' _ _ => F1
  rename News g' L' _ _ => N1
  rename IsRange _ _ _ _ _ _ _ _ => hR
  rename IntsAre cv _ => hcv'
  rw [List.length_map] at hR
  refine of_stop (comp_pure (n := cs.length) (src_range rfl F1 hR (range_small0 _ (by omega)) (range_sz0 _)) F1 N1 (by omega) (fun _ => true) (fun k v => IntV (((k : Nat) : Int) * (cs.getD k 0 : Int)) v) ?_ (rr_e ?_) (fun p hp => (List.not_mem_nil hp).elim))
  · rintro k v m₂ Ic Cc Dc oIc oCc ysT h tk₀ tk hk htk ⟨tv, hv⟩ hlk hoC hm2 F7 N7
    rw [Int.zero_add] at hv
    subst hv
    refine tests_nil ⟨rfl, ?_⟩
    rw [if_pos rfl]
    k_steps
    refine of_stop (item_tuple_ints (vs := cv) ⟨_, N7.get (by walk_at "my mem" : (CT, tupO cv) ∈ _), rfl, _, rfl⟩ hcv' (by omega) (by rw [List.length_map]; omega) (by omega) fun t1 => ?_)
    rw [Int.toNat_natCast, getD_cast]
    have hmul : IntMulOk ((k : Nat) : Int) (cs.getD k 0 : Int) := by
      have := hcb k
      exact IntMulOk.of_left (intBits_le_64 (by omega) (by omega))
    k_steps
    · exact ⟨_, rfl⟩
    · exact Same.intro (by assumption) (by assumption) (by walk_at "sub")
  · intro D h tk gs ys m' nw htk F5 N5 hoD
    rintro ⟨rfl, rfl, hp⟩
    rw [List.filter_eq_self.mpr (fun _ _ => rfl)] at hp
    have hys := hp.ints fun k v h => h
    k_steps
    refine of_stop (LSm.sum_ints F5 N5 rfl (News.isList N5 (by walk_at "my mem")) hys ?_)
    intro h6 tk6 t6 F6 N6
    rw [show ((List.range cs.length).map fun i => ((i : Nat) : Int) * (cs.getD i 0 : Int)).sum = 10 from hs10]
    k_steps
    rename News g' L' _ _ => N2
    rename Fr g' L' _ _ => F2
    have hrd := tup_reads N2 (by walk_at "my mem" : (CT, tupO cv) ∈ _) (ints_reads hcv')
    refine of_stop (ne_dataH_same (tup_reads N2 (by walk_at "my mem") (.cons hrd (.cons (.int _ _) (.cons (.int _ _) .nil)))) (tup_reads N2 (by walk_at "my mem") (.cons hrd (.cons (.int _ _) (.cons (.int _ _) .nil)))) (cnt_shaped _ _ _) (cnt_shaped _ _ _) (by show au + 64 < cLine; omega) (cnt_noMix _ _ _) ?_)
    rw [PySem.Spec.same_self, Bool.not_true]
    k_steps
    exact ret _ _ F2 (News.sub N2 (by walk_at "sub"))
end
end
section
set_option maxRecDepth 100000
noncomputable def laterT (wt : List Str) : Str := ⟨(leadL wt ++ [32, 32, 32, 32, 32, 120]).toArray⟩
theorem later_eq {wt : List Str} (h : (abc5.map (scoreOf wt)).sum = 10) : Txt.slice (leadT wt) none (some 15) ++ Txt.mul (Str.ofString " ") 5 ++ Str.ofString "x" = laterT wt := by
  have hl : (leadT wt).cps.size = 18 := lead_size h
  have e := eq_of_beq (slice_closes_toL (x := leadT wt) (j := 15) (by decide) (by show (15 : Int) ≤ ((leadT wt).cps.size : Nat); omega))
  rw [e]
  refine Str.ext_l ?_
  rw [Str.app_l, Str.app_l]
  have k := lead_take h
  show ((leadT wt).cps.toList.take 15 ++ _) ++ _ = _
  rw [k]
  show leadL wt ++ [32, 32, 32, 32, 32] ++ [120] = leadL wt ++ [32, 32, 32, 32, 32, 120]
  simp
theorem later_size {wt : List Str} (h : (abc5.map (scoreOf wt)).sum = 10) : (laterT wt).cps.size = 21 := by
  have hl := lead_len h
  simp [laterT, hl]
theorem later_ws {wt : List Str} (h : (abc5.map (scoreOf wt)).sum = 10) : ∀ i c, i < 20 → (laterT wt).cps[i]? = some c → c = 32 ∨ c = 9 := by
  intro i c hi hc
  have hl := lead_len h
  have e : (leadL wt ++ [32, 32, 32, 32, 32] ++ [120])[i]? = some c := by simpa [laterT] using hc
  rw [List.getElem?_append_left (by simp [hl]; omega)] at e
  rcases List.mem_append.mp (List.mem_of_getElem? e) with h | h
  · exact runs_mem h
  · simp at h; exact .inl h
theorem later_end {wt : List Str} (h : (abc5.map (scoreOf wt)).sum = 10) : (laterT wt).cps[20]? = some 120 := by
  have hl := lead_len h
  have e : (leadL wt ++ [32, 32, 32, 32, 32, 120])[20]? = some 120 := by
    rw [List.getElem?_append_right (by omega), hl]; rfl
  simpa [laterT] using e
theorem later_wsP {wt : List Str} {cs : List Nat} (h : (abc5.map (scoreOf wt)).sum = 10) (hw : wsP (leadL wt) = (15, 5, cs, 0)) : wsP ((laterT wt).cps.toList.take 20) = (20, 5, cs, 5) := by
  have hl := lead_len h
  have e : (laterT wt).cps.toList.take 20 = leadL wt ++ [32, 32, 32, 32, 32] := by
    show (leadL wt ++ [32, 32, 32, 32, 32, 120]).take 20 = _
    rw [show leadL wt ++ [32, 32, 32, 32, 32, 120] = leadL wt ++ [32, 32, 32, 32, 32] ++ [120] by simp, List.take_append_of_le_length (by simp [hl]), List.take_of_length_le (by simp [hl])]
  rw [e, wsP, List.foldl_append, ← wsP, hw]
  rfl
section
variable {w : World} {p : Program} {loose : List Str} {mean : ExcName → Option Value} {mg mb : Str → Option Value} {ad au : Nat} {af : Option (List Env)} {ag : Option (List Code)} {g' : Heap} {L' : Addr} {s : Shared} {Q : Flow → Shared → Prop}
  {oW oS oN oB oR oC oM oG : Obj} {r : List (Addr × Obj)} {sc pg fi se wh fa re le be th ev fv la ru tu du : Option Value}
set_option maxHeartbeats 4000000 in
theorem law14 {st : Stmt} (hst : st = lawSt 14) {x : Addr} {wt : List Str} {n nt b : Nat} {cs : List Nat} (F : Fr g' L' s.heap (lawM sc pg fi se wh fa re (some (.ref x)) be th ev fv la ru tu du)) (X : (KK w.params).In g') (N : News g' L' s.heap (lawC L' oW oS oN oB oR oC oM oG r)) (T : Top p loose mean mg mb g') (hd : ad + 160 < recursionLimit) (hu : au + 1000 < cLine)
    (hX : WsIn w x (leadT wt) (n, nt, cs, b) r) (hs10 : (abc5.map (scoreOf wt)).sum = 10) (hws : wsP (leadL wt) = (15, 5, cs, 0))
    (ret : ∀ h' tk y xs, WsAt w y (laterT wt) (20, 5, cs, 5) xs → (∀ a o, (a, o) ∈ lawC L' oW oS oN oB oR oC oM oG r → Abv a xs) → Fr g' L' h' (lawM sc pg fi se wh fa re (some (.ref x)) be th ev fv (some (.ref y)) ru tu du) → News g' L' h' (lawC L' oW oS oN oB oR oC oM oG (xs ++ r)) → Q .next { s with heap := h', toks := tk }) :
    wpAny (model PG w) ⟨none, ad, af, ag, au⟩ (exec st (lawEnv L')) Q NoE s := by
  walk_at "seal24"
  have e : lawSt 14 = Stmt.Assign _ _ _ := rfl
  rw [hst, e]
  k_steps
  refine of_stop (ws_raw F X N hX (by walk_at "sub") fun t1 => ?_)
  have hlen : (leadT wt).length = 18 := lead_size hs10
  k_steps
  rename News g' L' _ _ => N2
  rename Fr g' L' _ _ => F2
  rw [later_eq hs10]
  refine of_stop (whiteC (k := 20) F2 X N2 T (by show ad + 30 < recursionLimit; omega) rfl (by rw [later_size hs10]; decide) (by rw [later_size hs10]; decide) (later_ws hs10) (.inr ⟨120, later_end hs10, by decide, by decide⟩) ?_)
  intro h3 tk3 y dx CT NT cv n nt cs' b sb tb k1 k2 k3 k4 k5 tn tnt hw hcv F6 N6 bdx l1 l2 l3
  rw [later_wsP hs10 hws] at hw
  cases hw
  k_steps
  rename Fr g' L' _ _ => F7
  rename News g' L' _ _ => N7
  simp only [mp_set] at F7
  refine ret _ _ y _ ⟨dx, CT, NT, cv, sb, tb, k1, k2, k3, k4, k5, tn, tnt, _, hcv, rfl⟩ (fun a o ha => ?_) (canon lawK F7 rfl) (News.sub N7 (by walk_at "sub"))
  have l0 : @LT.lt Nat _ a dx := bdx.get (by walk_at "my mem")
  have l4 : @LT.lt Nat _ dx NT := Nat.lt_trans l1 (Nat.lt_trans l2 l3)
  have l5 : @LT.lt Nat _ dx CT := Nat.lt_trans l1 l2
  exact abv_cons.mpr ⟨Nat.lt_trans l0 l4, abv_cons.mpr ⟨Nat.lt_trans l0 l5, abv_cons.mpr ⟨Nat.lt_trans l0 l1, abv_cons.mpr ⟨l0, abv_nil _⟩⟩⟩⟩
end
end
section
set_option maxRecDepth 100000
theorem cast_inj {cs cs' : List Nat} : (cs.map fun q : Nat => (q : Int)) = (cs'.map fun q : Nat => (q : Int)) ↔ cs = cs' := by
  constructor
  · intro h
    have e : ∀ l : List Nat, (l.map fun q : Nat => (q : Int)).map Int.toNat = l := fun l => by
      rw [List.map_map]
      exact (List.map_congr_left fun q _ => Int.toNat_natCast q).trans (List.map_id l)
    rw [← e cs, h, e cs']
  · exact fun h => h ▸ rfl
noncomputable def ctD (cs : List Nat) (b : Nat) : PyData := .tuple [.tuple ((cs.map fun q : Nat => (q : Int)).map .int), .int (b : Nat)]
theorem ct_shaped (cs : List Nat) (b : Nat) : SeqAt.shaped (ctD cs b) = true := by
  simp only [ctD, SeqAt.shaped, PyData.canLay0, PyData.canLayAll0, PyData.depth, PyData.depthAll, ke_canLayAll0, ke_depthAll]
  decide
theorem ct_has (cs : List Nat) (b : Nat) : (Spec.Shape.tuple [.tuples .int, .int]).has (ctD cs b) = true := by
  simp [ctD, Spec.Shape.has, Spec.Shape.hasAll]
theorem ct_noMix (cs cs' : List Nat) (b b' : Nat) : SeqAt.noMix (ctD cs b) (ctD cs' b') = true := SeqAt.noMix_of_shape _ rfl _ _ (ct_has cs b) (ct_has cs' b')
theorem ct_same (cs cs' : List Nat) (b b' : Nat) : PySem.Spec.same (ctD cs b) (ctD cs' b') = decide (cs = cs' ∧ b = b') := by
  simp only [ctD, PySem.Spec.same, PySem.Spec.sameAll, ke_sameAll, Bool.and_true]
  rw [Bool.eq_iff_iff]
  simp only [Bool.and_eq_true, decide_eq_true_eq, cast_inj, beq_iff_eq]
  exact and_congr_right fun _ => by omega
set_option maxHeartbeats 4000000 in
theorem longestC {w : World} {p : Program} {loose : List Str} {mean : ExcName → Option Value} {mg mb : Str → Option Value} {A : Around} {h₀ : Heap} {L : Addr} {m : Str → Option Value} {news l : List (Addr × Obj)} {s : Shared} {Q : Value → Shared → Prop} {x : Addr} {ws : Str} {n nt b : Nat} {cs : List Nat}
    (F : Fr h₀ L s.heap m) (X : (KK w.params).In h₀) (N : News h₀ L s.heap news) (T : Top p loose mean mg mb h₀) (hd : A.depth + 30 < recursionLimit) (hh : A.handled = none) (hX : WsIn w x ws (n, nt, cs, b) l) (hl : ∀ q ∈ l, q ∈ news) (hcl : cs.length ≤ 100) (hne : 1 ≤ cs.length)
    (ret : ∀ h' tk t, Fr h₀ L h' m → News h₀ L h' news → Q (.int (max (cs.length - 1) b : Nat) t) { s with heap := h', toks := tk }) : wpAny (model PG w) A (call (.ref 130) [.ref x]) Q NoE s := by
  obtain ⟨ah, ad, af, ag, au⟩ := A
  obtain rfl : ah = none := hh
  replace hd : ad + 30 < recursionLimit := hd
  refine wpAny_call (enterN [(Str.ofString "self", .ref x)] F X N T rfl ?cd ?ro ?bd ?lo ?ce rfl rfl rfl ?_)
  case cd => k_is
  case ro => k_room
  case bd => first | exact BindsTo.of_eq rfl | exact binds_K (by k_in) rfl (by k_is) rfl rfl rfl
  case lo => exact locs rfl
  case ce => decide
  intro g' L' h' FG' F' N' X' T' l1
  replace F' : Fr g' L' h' (mp [(Str.ofString "self", some (.ref x))]) := F'
  k_steps
  refine of_stop (ws_norm F' X' N' hX hl ?_)
  intro NT CT cv tb hcv m1 m2
  have m1' := hl _ m1
  have m2' := hl _ m2
  have hcvl := hcv.length
  rw [List.length_map] at hcvl
  k_steps
  have e : (if (b : Int) > (cv.length : Int) - 1 then (b : Int) else (cv.length : Int) - 1) = ((max (cs.length - 1) b : Nat) : Int) := by rw [hcvl]; split <;> omega
  rw [e]
  exact ret _ _ _ (by assumption) (by assumption)
set_option maxHeartbeats 4000000 in
theorem equalC {w : World} {p : Program} {loose : List Str} {mean : ExcName → Option Value} {mg mb : Str → Option Value} {A : Around} {h₀ : Heap} {L : Addr} {m : Str → Option Value} {news l : List (Addr × Obj)} {s : Shared} {Q : Value → Shared → Prop} {x y : Addr} {ws ws' : Str} {n nt b n' nt' b' : Nat} {cs cs' : List Nat}
    (F : Fr h₀ L s.heap m) (X : (KK w.params).In h₀) (N : News h₀ L s.heap news) (T : Top p loose mean mg mb h₀) (hd : A.depth + 30 < recursionLimit) (hu : A.units + 500 < cLine) (hh : A.handled = none) (hX : WsIn w x ws (n, nt, cs, b) l) (hY : WsIn w y ws' (n', nt', cs', b') l) (hl : ∀ q ∈ l, q ∈ news)
    (ret : ∀ h' tk, Fr h₀ L h' m → News h₀ L h' news → Q (.bool (decide (cs = cs' ∧ b = b'))) { s with heap := h', toks := tk }) : wpAny (model PG w) A (call (.ref 144) [.ref x, .ref y]) Q NoE s := by
  obtain ⟨ah, ad, af, ag, au⟩ := A
  obtain rfl : ah = none := hh
  replace hd : ad + 30 < recursionLimit := hd
  replace hu : au + 500 < cLine := hu
  refine wpAny_call (enterN [(Str.ofString "self", .ref x), (Str.ofString "other", .ref y)] F X N T rfl ?cd ?ro ?bd ?lo ?ce rfl rfl rfl ?_)
  case cd => k_is
  case ro => k_room
  case bd => first | exact BindsTo.of_eq rfl | exact binds_K (by k_in) rfl (by k_is) rfl rfl rfl
  case lo => exact locs rfl
  case ce => decide
  intro g' L' h' FG' F' N' X' T' l1
  replace F' : Fr g' L' h' (mp [(Str.ofString "other", some (.ref y)), (Str.ofString "self", some (.ref x))]) := F'
  k_steps
  refine of_stop (ws_norm F' X' N' hX hl ?_)
  intro NT CT cv tb hcv m1 m2
  k_steps
  refine of_stop (ws_norm F' X' N' hY hl ?_)
  intro NT' CT' cv' tb' hcv' m1' m2'
  k_steps
  refine of_stop (eq_dataH_same (da := ctD cs b) (db := ctD cs' b') (tup_reads N' (hl _ m1) (.cons (tup_reads N' (hl _ m2) (ints_reads hcv)) (.cons (.int _ _) .nil))) (tup_reads N' (hl _ m1') (.cons (tup_reads N' (hl _ m2') (ints_reads hcv')) (.cons (.int _ _) .nil))) (ct_shaped _ _) (ct_shaped _ _) (by walk_at "my units") (ct_noMix _ _ _ _) ?_)
  rw [ct_same]
  k_steps
  exact ret _ _ (by assumption) (by assumption)
end
section
set_option maxRecDepth 100000
noncomputable def latD (cs : List Nat) (a b c : Int) : PyData := .tuple [.int a, .int b, ctD cs 5, .int c]
theorem lat_shaped (cs : List Nat) (a b c : Int) : SeqAt.shaped (latD cs a b c) = true := by
  simp only [latD, ctD, SeqAt.shaped, PyData.canLay0, PyData.canLayAll0, PyData.depth, PyData.depthAll, ke_canLayAll0, ke_depthAll]
  decide
theorem lat_noMix (cs : List Nat) (a b c : Int) : SeqAt.noMix (latD cs a b c) (latD cs a b c) = true := by
  have h : (Spec.Shape.tuple [.int, .int, .tuple [.tuples .int, .int], .int]).has (latD cs a b c) = true := by
    simp [latD, ctD, Spec.Shape.has, Spec.Shape.hasAll]
  exact SeqAt.noMix_of_shape _ rfl _ _ h h
section
variable {w : World} {p : Program} {loose : List Str} {mean : ExcName → Option Value} {mg mb : Str → Option Value} {ad au : Nat} {af : Option (List Env)} {ag : Option (List Code)} {g' : Heap} {L' : Addr} {s : Shared} {Q : Flow → Shared → Prop}
  {oW oS oN oB oR oC oM oG : Obj} {r : List (Addr × Obj)} {sc pg fi se wh fa re le be th ev fv la ru tu du : Option Value}
set_option maxHeartbeats 4000000 in
theorem law15 {st : Stmt} (hst : st = lawSt 15) {CT y : Addr} {cv : List Value} {cs : List Nat} {ws : Str} (F : Fr g' L' s.heap (lawM sc pg fi se wh fa re le be th ev fv (some (.ref y)) ru tu du)) (X : (KK w.params).In g') (N : News g' L' s.heap (lawC L' oW oS oN oB oR oC oM oG r)) (T : Top p loose mean mg mb g') (hd : ad + 160 < recursionLimit) (hu : au + 1000 < cLine)
    (dC : oC.data = .cell (some (.ref CT))) (hcv : IntsAre cv (cs.map fun q : Nat => (q : Int))) (hC : (CT, tupO cv) ∈ r) (hX : WsIn w y ws (20, 5, cs, 5) r) (hcl : cs.length ≤ 6) (hne : 1 ≤ cs.length)
    (ret : ∀ h' tk, Fr g' L' h' (lawM sc pg fi se wh fa re le be th ev fv (some (.ref y)) ru tu du) → News g' L' h' (lawC L' oW oS oN oB oR oC oM oG r) → Q .next { s with heap := h', toks := tk }) :
    wpAny (model PG w) ⟨none, ad, af, ag, au⟩ (exec st (lawEnv L')) Q NoE s := by
  walk_at "seal24"
  have e : lawSt 15 = Stmt.If _ _ _ _ := rfl
  rw [hst, e]
  k_steps
  refine of_stop (ws_n F X N hX (by walk_at "sub") fun t1 => ?_)
  k_steps
  refine of_stop (ws_nt F X N hX (by walk_at "sub") fun t2 => ?_)
  k_steps
  refine of_stop (ws_norm F X N hX (by walk_at "sub") ?_)
  intro NT CT' cv' tb hcv' m1 m2
  k_steps
  refine of_stop (ws_longest F X N hX (by walk_at "sub") ?_)
  k_steps
  refine of_stop (longestC F X N T (by k_room) rfl hX (by walk_at "sub") (by omega) (by omega) ?_)
  intro h1 tk1 t3 F1 N1
  rw [show max (cs.length - 1) 5 = 5 by omega]
  k_steps
  rename News g' L' _ _ => N2
  rename Fr g' L' _ _ => F2
  rename_i D3 _ l3 D2 _ l2 D1 h2 l4
  have i1 := tup_reads N2 (xs := [.ref CT, .int 5 (tk1 + 1 + 1)]) (by walk_at "my mem" : (D2, _) ∈ _) (.cons (tup_reads N2 (by walk_at "my mem" : (CT, tupO cv) ∈ _) (ints_reads hcv)) (.cons (.int 5 _) .nil))
  have i2 := tup_reads N2 (xs := [.ref CT', .int ((5 : Nat) : Int) tb]) (by walk_at "my mem" : (NT, _) ∈ _) (.cons (tup_reads N2 (by walk_at "my mem" : (CT', tupO cv') ∈ _) (ints_reads hcv')) (.cons (.int _ _) .nil))
  have i3 := tup_reads N2 (xs := [.int 20 tk1, .int 5 (tk1 + 1), .ref D2, .int 5 (tk1 + 1 + 1 + 1)]) (by walk_at "my mem" : (D1, _) ∈ _) (.cons (.int _ _) (.cons (.int _ _) (.cons i1 (.cons (.int _ _) .nil))))
  have i4 := tup_reads N2 (xs := [.int ((20 : Nat) : Int) t1, .int ((5 : Nat) : Int) t2, .ref NT, .int ((5 : Nat) : Int) t3]) (by walk_at "my mem" : (D3, _) ∈ _) (.cons (.int _ _) (.cons (.int _ _) (.cons i2 (.cons (.int _ _) .nil))))
  refine of_stop (ne_dataH_same (da := latD cs 20 5 5) (db := latD cs 20 5 5) i4 i3 (lat_shaped _ _ _ _) (lat_shaped _ _ _ _) (by show au + 64 < cLine; omega) (lat_noMix _ _ _ _) ?_)
  rw [PySem.Spec.same_self, Bool.not_true]
  k_steps
  exact ret _ _ F2 (News.sub N2 (by walk_at "sub"))
end
end
section
set_option maxRecDepth 100000
section
variable {w : World} {p : Program} {loose : List Str} {mean : ExcName → Option Value} {mg mb : Str → Option Value} {ad au : Nat} {af : Option (List Env)} {ag : Option (List Code)} {g' : Heap} {L' : Addr} {s : Shared} {Q : Flow → Shared → Prop}
  {oW oS oN oB oR oC oM oG : Obj} {r : List (Addr × Obj)} {sc pg fi se wh fa re le be th ev fv la ru tu du : Option Value}
set_option maxHeartbeats 4000000 in
theorem law16 {st : Stmt} (hst : st = lawSt 16) {x y : Addr} {n nt n' nt' : Nat} {cs : List Nat} {ws ws' : Str} (F : Fr g' L' s.heap (lawM sc pg fi se wh fa re (some (.ref x)) be th ev fv (some (.ref y)) ru tu du)) (X : (KK w.params).In g') (N : News g' L' s.heap (lawC L' oW oS oN oB oR oC oM oG r)) (T : Top p loose mean mg mb g') (hd : ad + 160 < recursionLimit) (hu : au + 1000 < cLine)
    (hX : WsIn w x ws (n, nt, cs, 0) r) (hY : WsIn w y ws' (n', nt', cs, 5) r)
    (ret : ∀ h' tk, Fr g' L' h' (lawM sc pg fi se wh fa re (some (.ref x)) be th ev fv (some (.ref y)) ru tu du) → News g' L' h' (lawC L' oW oS oN oB oR oC oM oG r) → Q .next { s with heap := h', toks := tk }) :
    wpAny (model PG w) ⟨none, ad, af, ag, au⟩ (exec st (lawEnv L')) Q NoE s := by
  walk_at "seal24"
  have e : lawSt 16 = Stmt.If _ _ _ _ := rfl
  rw [hst, e]
  have e1 : decide (cs = cs ∧ 0 = 5) = false := by simp
  have e2 : decide (cs = cs ∧ 5 = 0) = false := by simp
  k_steps
  refine of_stop (ws_equal F X N hX (by walk_at "sub") ?_)
  k_steps
  refine of_stop (equalC F X N T (by show ad + 30 < recursionLimit; omega) (by show au + 500 < cLine; omega) rfl hX hY (by walk_at "sub") ?_)
  intro h1 tk1 F1 N1
  rw [e1]
  k_steps
  refine of_stop (ws_equal F1 X N1 hY (by walk_at "sub") ?_)
  k_steps
  refine of_stop (equalC F1 X N1 T (by show ad + 30 < recursionLimit; omega) (by show au + 500 < cLine; omega) rfl hY hX (by walk_at "sub") ?_)
  intro h2 tk2 F2 N2
  rw [e2]
  k_steps
  exact ret _ _ F2 (News.sub N2 (by walk_at "sub"))
end
end
section
set_option maxRecDepth 100000
section
variable {w : World} {p : Program} {loose : List Str} {mean : ExcName → Option Value} {mg mb : Str → Option Value} {ad au : Nat} {af : Option (List Env)} {ag : Option (List Code)} {g' : Heap} {L' : Addr} {s : Shared} {Q : Flow → Shared → Prop}
  {oW oS oN oB oR oC oM oG : Obj} {r : List (Addr × Obj)} {sc pg fi se wh fa re le be th ev fv la ru tu du : Option Value}
set_option maxHeartbeats 4000000 in
theorem law17 {st : Stmt} (hst : st = lawSt 17) {x : Addr} {n nt : Nat} {cs : List Nat} {ws : Str} {b : Nat} (F : Fr g' L' s.heap (lawM sc pg fi se wh fa re (some (.ref x)) be th ev fv la ru tu du)) (X : (KK w.params).In g') (N : News g' L' s.heap (lawC L' oW oS oN oB oR oC oM oG r)) (T : Top p loose mean mg mb g') (hd : ad + 160 < recursionLimit) (hu : au + 1000 < cLine)
    (hX : WsIn w x ws (n, nt, cs, b) r) (hcl : cs.length ≤ 100) (hne : 1 ≤ cs.length) (dM : oM.data = .cell none) (off7 : Off (L' + 1 + 1 + 1 + 1 + 1 + 1 + 1) r)
    (ret : ∀ h' tk t oM', oM'.data = .cell (some (.int (max (cs.length - 1) b : Nat) t)) → Fr g' L' h' (lawM sc pg fi se wh fa re (some (.ref x)) be th ev fv la ru tu du) → News g' L' h' (lawC L' oW oS oN oB oR oC oM' oG r) → Q .next { s with heap := h', toks := tk }) :
    wpAny (model PG w) ⟨none, ad, af, ag, au⟩ (exec st (lawEnv L')) Q NoE s := by
  walk_at "seal24"
  have e : lawSt 17 = Stmt.Assign _ _ _ := rfl
  rw [hst, e]
  k_steps
  refine of_stop (ws_longest F X N hX (by walk_at "sub") ?_)
  k_steps
  refine of_stop (longestC F X N T (by show ad + 30 < recursionLimit; omega) rfl hX (by walk_at "sub") (by omega) (by omega) ?_)
  intro h1 tk1 t3 F1 N1
  generalize max (cs.length - 1) b = mx at *
  k_steps
  rename Fr g' L' _ _ => F2
  rename News g' L' _ _ => N2
  rename_i d3
  exact ret _ _ _ _ d3 F2 (News.sub N2 (by walk_at "sub"))
end
end
section
set_option maxRecDepth 100000
theorem sub_ok {f : Nat → Bool} : OkStrs ((abc5.filter f).map one) := fun x hx => by
  obtain ⟨d, hd, rfl⟩ := List.mem_map.mp hx
  exact abc_ok _ (List.mem_map.mpr ⟨d, (List.mem_filter.mp hd).1, rfl⟩)
section
variable {w : World} {p : Program} {loose : List Str} {mean : ExcName → Option Value} {mg mb : Str → Option Value} {ad au : Nat} {af : Option (List Env)} {ag : Option (List Code)} {g' : Heap} {L' : Addr} {s : Shared} {Q : Flow → Shared → Prop}
  {oW oS oN oB oR oC oM oG : Obj} {r : List (Addr × Obj)} {sc pg fi se wh fa re le be th ev fv la ru tu du : Option Value}
set_option maxHeartbeats 4000000 in
theorem law18 {st : Stmt} (hst : st = lawSt 18) {S : Addr} {oD : Obj} {wt : List Str} {mx : Nat} {tm : Tok} (F : Fr g' L' s.heap (lawM sc pg fi se wh fa re le be th ev fv la ru tu du)) (X : (KK w.params).In g') (N : News g' L' s.heap (lawC L' oW oS oN oB oR oC oM oG r)) (T : Top p loose mean mg mb g') (hd : ad + 160 < recursionLimit) (hu : au + 1000 < cLine)
    (dS : oS.data = .cell (some (.ref S))) (hS : (S, oD) ∈ r) (hD : DictSI w oD (scP wt abc5)) (hlo : (S == sysModules) = false) (dM : oM.data = .cell (some (.int (mx : Nat) tm))) (hmx : (abc5.filter fun c => decide (scoreOf wt c = mx)) ≠ [])
    (ret : ∀ h' tk, Fr g' L' h' (lawM sc pg fi se wh fa re le be th ev fv la ru tu du) → News g' L' h' (lawC L' oW oS oN oB oR oC oM oG r) → Q .next { s with heap := h', toks := tk }) :
    wpAny (model PG w) ⟨none, ad, af, ag, au⟩ (exec st (lawEnv L')) Q NoE s := by
  walk_at "seal24"
  have e : lawSt 18 = Stmt.If _ _ _ _ := rfl
  rw [hst, e]
  k_steps
  refine of_stop (comp_top (by with_unfolding_all rfl) rfl (by decide) ?_)
  have Fx := F
  have Nx := N
  k_steps
  refine of_stop (comp_pure (src_abc rfl F) F N (by decide) (fun k => decide (scoreOf wt (abc5.getD k 0) = mx)) (fun k v => StrV (one (abc5.getD k 0)) v) ?_ (rr_e ?_) (fun p hp => (List.not_mem_nil hp).elim))
  · rintro k v m₂ Ic Cc Dc oIc oCc ysT h tk₀ tk hk htk ⟨u, rfl, hdm⟩ hlk hoC hm2 F7 N7
    generalize abc5.getD k 0 = d at *
    refine tests_one ?_
    k_steps
    refine of_stop (kdp_item (scTab N7 (by walk_at "my mem") hD hlo) (sc_has wt hdm) fun t' => ?_)
    rw [sc_look wt hdm]
    k_steps
    all_goals first | (rw [Bool.eq_iff_iff, beq_iff_eq, decide_eq_true_eq]; omega) | exact ⟨_, rfl⟩ | exact Same.intro (by assumption) (by assumption) (by walk_at "sub")
  · intro D h tk gs ys m' nw htk F5 N5 hoD
    rintro ⟨rfl, rfl, hp⟩
    have hys := Pk.abc (f := fun d => decide (scoreOf wt d = mx)) (g := one) (by rw [show (Str.ofString "abcde").cps.size = 5 by decide +kernel]; exact hp) fun k v h => h
    k_steps
    rename Fr g' L' _ _ => F6
    rename News g' L' _ _ => N6
    refine of_stop (eq_strs (ss := (abc5.filter fun d => decide (scoreOf wt d = mx)).map one) (us := []) (by assumption) (by walk_at "my mem") (by walk_at "my mem") hys .nil sub_ok (fun _ h => nomatch h) (by show au + 64 < cLine; omega) ?_)
    rw [decide_eq_false (fun h => hmx (List.map_eq_nil_iff.mp h))]
    k_steps
    exact ret _ _ F6 (News.sub N6 (by walk_at "sub"))
end
end
section
set_option maxRecDepth 100000
noncomputable def kingT (wt : List Str) (mx i j : Nat) : Bool := beats wt (abc5.getD j 0) (abc5.getD i 0) && decide (scoreOf wt (abc5.getD i 0) = mx)
noncomputable def gameT (q : Nat × Nat) : Str := ⟨#[abc5.getD q.1 0, abc5.getD q.2 0]⟩
noncomputable def kingsOk (wt : List Str) (mx : Nat) : Prop := ∀ a ∈ abc5, ∀ b ∈ abc5, beats wt b a = true → scoreOf wt a = mx → (abc5.filter fun d => beats wt a d && beats wt d b) ≠ []
theorem abc_getD {i : Nat} (h : i < 5) : abc5.getD i 0 ∈ abc5 := by
  rw [List.getD_eq_getElem?_getD, List.getElem?_eq_getElem (show i < abc5.length from h)]
  exact List.getElem_mem _
theorem PkA.get {α : Type} {R : α → Value → Prop} {is : List α} {vs : List Value} (h : PkA R is vs) : ∀ {i : Nat} {v : Value}, vs[i]? = some v → ∃ a, is[i]? = some a ∧ R a v := by
  induction h with
  | nil => intro i v h; simp at h
  | @cons a v is vs hr _ ih =>
    intro i u h
    cases i with
    | zero => cases (show some v = some u from h); exact ⟨a, rfl, hr⟩
    | succ i => obtain ⟨b, h1, h2⟩ := ih (i := i) (v := u) (by simpa using h); exact ⟨b, by simpa using h1, h2⟩
theorem item0 (a b d : Nat) : Txt.item ⟨#[a, b]⟩ 0 ++ one d = ⟨#[a, d]⟩ := by
  first | rfl | with_unfolding_all rfl | (simp [Txt.item, one])
theorem item1 (a b d : Nat) : one d ++ Txt.item ⟨#[a, b]⟩ 1 = ⟨#[d, b]⟩ := by
  first | rfl | with_unfolding_all rfl | (simp [Txt.item, one])
theorem pairs_in {n2 : Nat → Nat} {tst : Nat → Nat → Bool} {n : Nat} {q : Nat × Nat} (h : q ∈ pairs n2 tst n) : q.1 < n ∧ q.2 < n2 q.1 ∧ tst q.1 q.2 = true := by
  obtain ⟨k, hk, h⟩ := List.mem_flatMap.mp h
  obtain ⟨j, hj, rfl⟩ := List.mem_map.mp h
  obtain ⟨h1, h2⟩ := List.mem_filter.mp hj
  exact ⟨List.mem_range.mp hk, List.mem_range.mp h1, h2⟩
section
variable {w : World} {p : Program} {loose : List Str} {mean : ExcName → Option Value} {mg mb : Str → Option Value} {ad au : Nat} {af : Option (List Env)} {ag : Option (List Code)} {g' : Heap} {L' : Addr} {s : Shared} {Q : Flow → Shared → Prop}
  {oW oS oN oB oR oC oM oG : Obj} {r : List (Addr × Obj)} {sc pg fi se wh fa re le be th ev fv la ru tu du : Option Value}
set_option maxHeartbeats 4000000 in
theorem law19 {st : Stmt} (hst : st = lawSt 19) {S W : Addr} {oD : Obj} {wv : List Value} {n : Nat} {wt : List Str} {mx : Nat} {tm : Tok} {vG : Option Value} (F : Fr g' L' s.heap (lawM sc pg fi se wh fa re le be th ev fv la ru tu du)) (X : (KK w.params).In g') (N : News g' L' s.heap (lawC L' oW oS oN oB oR oC oM oG r)) (T : Top p loose mean mg mb g') (hd : ad + 160 < recursionLimit) (hu : au + 1000 < cLine)
    (hwv : StrsAre wv wt) (dW : oW.data = .cell (some (.ref W))) (hW : (W, lst wv n) ∈ r) (dS : oS.data = .cell (some (.ref S))) (hS : (S, oD) ∈ r) (hD : DictSI w oD (scP wt abc5)) (hlo : (S == sysModules) = false) (dM : oM.data = .cell (some (.int (mx : Nat) tm))) (dG : oG.data = .cell vG) (off8 : Off (L' + 1 + 1 + 1 + 1 + 1 + 1 + 1 + 1) r) (hk : kingsOk wt mx)
    (ret : ∀ h' tk oG', (∃ v, oG'.data = .cell v) → Fr g' L' h' (lawM sc pg fi se wh fa re le be th ev fv la ru tu du) → News g' L' h' (lawC L' oW oS oN oB oR oC oM oG' r) → Q .next { s with heap := h', toks := tk }) :
    wpAny (model PG w) ⟨none, ad, af, ag, au⟩ (exec st (lawEnv L')) Q NoE s := by
  walk_at "seal24"
  have e : lawSt 19 = Stmt.For _ _ _ _ _ := rfl
  rw [hst, e]
  refine for_top ?_
  have Fx := F
  have Nx := N
  k_steps
  refine of_stop (comp_top (by with_unfolding_all rfl) rfl (by decide) ?_)
  k_steps
  refine of_stop (comp_two (n := 5) (src_abc rfl F) F N (fun _ => 5) (kingT wt mx) (fun q v => StrV (gameT q) v)
    (fun i M => StrV (one (abc5.getD i 0)) ((M (Str.ofString "one")).getD .none) ∧ (M (Str.ofString "one")).isSome = true ∧ abc5.getD i 0 ∈ abc5) (fun i j v => ∃ t, v = .str (one (abc5.getD j 0)) t ∧ abc5.getD j 0 ∈ abc5) (fun i hi => ?_) ?_ ?_ ?_ ?_ (rr_e ?_) (fun p hp => (List.not_mem_nil hp).elim))
  · have := pairs_len (n2 := fun _ => 5) (tst := kingT wt mx) (m := 5) (fun _ => Nat.le_refl _) i
    omega
  · rintro i M v H
    show StrV _ (((if _ then _ else _) : Option Value).getD .none) ∧ (if _ then _ else _ : Option Value).isSome = true ∧ _
    rw [if_neg (by decide +kernel)]
    exact H
  · rintro i v m₂ Ic Cc Dc oIc oCc ys h tk hi ht ⟨tv, rfl, hdm⟩ hoC F5 N5 off ne
    exact tg_name F5 N5 hoC off ne (by
      show StrV _ (((if _ then _ else _) : Option Value).getD .none) ∧ (if _ then _ else _ : Option Value).isSome = true ∧ _
      rw [if_pos rfl]; exact ⟨⟨tv, rfl⟩, rfl, hdm⟩)
  · rintro i M Ic Cc Dc oIc oCc ys h tk hi ht hoC ⟨H1, H2, hdm⟩ F5 N5
    k_steps
    exact SrcEnd.intro F5 N5 (by walk_at "sub") (src_abc rfl F5)
  · rintro i j v M Ic Jc Cc Dc oIc oJc oCc ys h tk hi hj ht ⟨tv, rfl, hdm⟩ hoC hMy ⟨H1, H2, hcm⟩ F5 N5
    obtain ⟨v1, hM1⟩ := Option.isSome_iff_exists.mp H2
    rw [hM1] at H1
    obtain ⟨t1, e1⟩ := H1
    replace e1 : v1 = _ := e1
    subst e1
    clear H2
    rw [show kingT wt mx i j = (beats wt (abc5.getD j 0) (abc5.getD i 0) && decide (scoreOf wt (abc5.getD i 0) = mx)) from rfl, show gameT (i, j) = one (abc5.getD i 0) ++ one (abc5.getD j 0) from rfl]
    generalize abc5.getD j 0 = d at *
    generalize abc5.getD i 0 = c at *
    refine tests_one ?_
    k_steps
    refine of_stop (in_list_strs (vs := wv) (News.isList N5 (by walk_at "my mem")) hwv ?_)
    rw [show one d ++ one c = (⟨#[d, c]⟩ : Str) from rfl, show wt.any (· == (⟨#[d, c]⟩ : Str)) = beats wt d c from rfl]
    cases hb : beats wt d c
    · k_steps
      all_goals first | rfl | exact Same.intro (by assumption) (by assumption) (by walk_at "sub")
    · k_steps
      refine of_stop (kdp_item (scTab N5 (by walk_at "my mem") hD hlo) (sc_has wt hcm) fun t' => ?_)
      rw [sc_look wt hcm, Bool.true_and]
      k_steps
      all_goals first | exact (decide_eq_true (by omega)).symm | exact (decide_eq_false (by omega)).symm | exact ⟨_, rfl⟩ | exact Same.intro (by assumption) (by assumption) (by walk_at "sub")
  · intro G h tk gs ys m' nw htk F5 N5 hoG
    rintro ⟨rfl, rfl, hp⟩
    have hys := hp.strs (g := gameT) fun q v h => h
    have hysl : ys.length ≤ 25 := by
      rw [hp.len]
      exact pairs_len (n2 := fun _ => 5) (tst := kingT wt mx) (m := 5) (fun _ => Nat.le_refl _) 5
    have hpl := hp.len
    replace hoG : Off G _ := hoG
    simp only [off_cons] at hoG
    obtain ⟨vDG, vDM, vDC, vDR, vDB, vDN, vDS, vDW, vDr⟩ := hoG
    have oGG : @Ne Nat G (L' + 1 + 1 + 1 + 1 + 1 + 1 + 1 + 1) := Ne.symm vDG
    k_steps
    obtain ⟨rr, hrr⟩ : ∃ l, l = (G, lst ys ys.length) :: r := ⟨_, rfl⟩
    have N6 := News.sub N5 (b := lawC L' oW oS oN oB oR oC oM oG rr) (by rw [hrr]; walk_at "sub")
    have hWr : (W, lst wv n) ∈ rr := by rw [hrr]; walk_at "my mem"
    have hGr : (G, lst ys ys.length) ∈ rr := by rw [hrr]; walk_at "my mem"
    have o8r : Off (L' + 1 + 1 + 1 + 1 + 1 + 1 + 1 + 1) rr := by rw [hrr]; walk_at "my off"
    have hrq : ∀ q ∈ r, q ∈ rr := by rw [hrr]; exact fun q hq => List.mem_cons_of_mem _ hq
    refine of_stop (for_it (src_list rfl F5 N6 (by walk_at "my mem" : (G, lst ys ys.length) ∈ _)) F5 N6 (fun i m' nw gs => gs = s.gens ∧ ∃ oG' vG', m' = lawM sc pg fi se wh fa re le be th ev fv la ru tu du ∧
      nw = lawC L' oW oS oN oB oR oC oM oG' rr ∧ oG'.data = .cell vG') ⟨rfl, oG, vG, rfl, rfl, dG⟩ ?_ ?_ (fun p hp => by rw [List.mem_singleton.mp hp]; walk_at "my mem"))
    · rintro i v m₁ news₁ h tk gs I oI hi ht hv ⟨rfl, oG', vG', rfl, rfl, dG'⟩ F2 N2 o1 b1
      walk_at "seal24"
      (revert h_1; intro h; set_option tactic.hygienic false in intros) --fix
      (revert tk_1; intro tk; set_option tactic.hygienic false in intros) --fix
      obtain ⟨a, b, tg, rfl, ham, hbm, hba, hsa⟩ : ∃ a b tg, v = .str (⟨#[a, b]⟩ : Str) tg ∧ a ∈ abc5 ∧ b ∈ abc5 ∧ beats wt b a = true ∧ scoreOf wt a = mx := by
        obtain ⟨q, hq1, hq2⟩ := hp.get hv
        obtain ⟨h1, h2, h3⟩ := pairs_in (List.mem_of_getElem? hq1)
        obtain ⟨tq, eq⟩ := hq2
        rw [kingT, Bool.and_eq_true, decide_eq_true_eq] at h3
        exact ⟨_, _, tq, eq, abc_getD h1, abc_getD h2, h3.1, h3.2⟩
      have hking := hk a ham b hbm hba hsa
      replace o1 : Off I _ := o1
      simp only [off_cons, off_append] at o1
      obtain ⟨oIG, oIM, oIC, oIR, oIB, oIN, oIS, oIW, oIr⟩ := o1
      clear hp hys
      k_steps
      rename Fr g' L' _ _ => F3
      rename News g' L' _ _ => N3
      rename_i h3 oG3 dG3
      refine of_stop (comp_top (by with_unfolding_all rfl) rfl (by decide) ?_)
      k_steps
      refine of_stop (comp_pure (src_abc rfl F3) F3 N3 (by decide) (fun k => beats wt a (abc5.getD k 0) && beats wt (abc5.getD k 0) b) (fun k v => StrV (one (abc5.getD k 0)) v) ?_ (rr_e ?_) (fun p hp => (List.not_mem_nil hp).elim))
      · rintro k v m₂ Ic Cc Dc oIc oCc ysT h tk₀ tk hk' htk ⟨u, rfl, hdm⟩ hlk hoC hm2 F7 N7
        generalize abc5.getD k 0 = d at *
        refine tests_one ?_
        k_steps
        refine of_stop (in_list_strs (vs := wv) (News.isList N7 (by walk_at "my mem")) hwv ?_)
        rw [item0, show wt.any (· == (⟨#[a, d]⟩ : Str)) = beats wt a d from rfl]
        cases hb1 : beats wt a d
        · k_steps
          all_goals first | rfl | exact Same.intro (by assumption) (by assumption) (by walk_at "sub")
        · k_steps
          refine of_stop (in_list_strs (vs := wv) (News.isList N7 (by walk_at "my mem")) hwv ?_)
          rw [item1, show wt.any (· == (⟨#[d, b]⟩ : Str)) = beats wt d b from rfl]
          cases hb2 : beats wt d b
          · k_steps
            all_goals first | rfl | exact Same.intro (by assumption) (by assumption) (by walk_at "sub")
          · k_steps
            all_goals first | rfl | exact ⟨_, rfl⟩ | exact Same.intro (by assumption) (by assumption) (by walk_at "sub")
      · intro D h tk gs ys' m' nw htk F7 N7 hoD
        rintro ⟨rfl, rfl, hp'⟩
        have hys' := Pk.abc (f := fun d => beats wt a d && beats wt d b) (g := one) (by rw [show (Str.ofString "abcde").cps.size = 5 by decide +kernel]; exact hp') fun k v h => h
        k_steps
        rename Fr g' L' _ _ => F8
        rename News g' L' _ _ => N8
        refine of_stop (eq_strs (ss := (abc5.filter fun d => beats wt a d && beats wt d b).map one) (us := []) (by assumption) (by walk_at "my mem") (by walk_at "my mem") hys' .nil sub_ok (fun _ h => nomatch h) (by show au + 64 < cLine; omega) ?_)
        rw [decide_eq_false (fun h => hking (List.map_eq_nil_iff.mp h))]
        k_steps
        exact StepIt.next (lawC L' oW oS oN oB oR oC oM oG3 rr) F8 N8 (by walk_at "sub") (by walk_at "my off") (fun p hp => by rw [List.mem_singleton.mp hp]; walk_at "my mem") ⟨rfl, oG3, _, rfl, rfl, dG3⟩
    · rintro h tk gs m' news' ht F2 N2 ⟨rfl, oG', vG', rfl, rfl, dG'⟩
      walk_at "seal24"
      (revert h_1; intro h; set_option tactic.hygienic false in intros) --fix
      (revert tk_1; intro tk; set_option tactic.hygienic false in intros) --fix
      exact ret _ _ oG' ⟨_, dG'⟩ F2 (News.sub N2 (by rw [hrr]; walk_at "sub"))
end
end
section
set_option maxRecDepth 100000
noncomputable def runsT (wt : List Str) (a b : Nat) : List Nat := (abc5.filter fun d => !(d == a || d == b)).map (scoreOf wt) ++ [scoreOf wt a - 1, scoreOf wt b + 1]
noncomputable def turnOk (wt : List Str) (cs : List Nat) (x : Str) : Prop := ∃ a b n nt cs', x = (⟨#[a, b]⟩ : Str) ∧ a ∈ abc5 ∧ b ∈ abc5 ∧ 1 ≤ scoreOf wt a ∧ wsP ((runsT wt a b).flatMap runL) = (n, nt, cs', 0) ∧ decide (cs = cs') = decide (scoreOf wt a = scoreOf wt b + 1)
noncomputable def turnsOk (wt : List Str) (cs : List Nat) : Prop := ∀ x ∈ wt, turnOk wt cs x
theorem runT_mul' {n : Nat} (h : n ≤ 8) : Txt.mul (Str.ofString " ") (n : Int) ++ Str.ofString "\t" = runT n := by
  have k : ∀ n : Nat, n < 9 → Txt.mul (Str.ofString " ") (n : Int) ++ Str.ofString "\t" = runT n := by decide +kernel
  exact k n (by omega)
theorem occ_game : ∀ a ∈ abc5, ∀ b ∈ abc5, ∀ d ∈ abc5, (!!(Builtin.Str.occurrences { cps := #[a, b] } (one d) 0 (⟨#[a, b]⟩ : Str).length 1).isEmpty) = !(d == a || d == b) := by decide +kernel
theorem Pk.abcI {R : Nat → Value → Prop} {f : Nat → Bool} {g : Nat → Int} {ys : List Value} (h : Pk R ((List.range 5).filter (fun k => f (abc5.getD k 0))) ys) (hv : ∀ k v, R k v → IntV (g (abc5.getD k 0)) v) : IntsAre ys ((abc5.filter f).map g) := by
  have q := h.ints (g := fun k => g (abc5.getD k 0)) hv
  rw [abc_map] at q
  exact q
theorem ints_at {vs : List Value} {ns : List Int} (h : IntsAre vs ns) : ∀ {i : Nat} {v : Value}, vs[i]? = some v → IntV (ns.getD i 0) v := by
  induction h with
  | nil => intro i v h; simp at h
  | @cons n t vs ns _ ih =>
    intro i u h
    cases i with
    | zero => cases (show some (Value.int n t) = some u from h); exact ⟨t, rfl⟩
    | succ i => simpa using ih (i := i) (v := u) (by simpa using h)
theorem runs_small {wt : List Str} {a b : Nat} (i : Nat) : (runsT wt a b).getD i 0 ≤ 8 := by
  have h : ∀ x ∈ runsT wt a b, x ≤ 8 := by
    intro x hx
    have ha := score_le wt a
    have hb := score_le wt b
    rcases List.mem_append.mp hx with hx | hx
    · obtain ⟨d, -, rfl⟩ := List.mem_map.mp hx
      have := score_le wt d
      omega
    · simp only [List.mem_cons, List.not_mem_nil, or_false] at hx
      omega
  rw [List.getD_eq_getElem?_getD]
  cases e : (runsT wt a b)[i]? with
  | none => exact Nat.zero_le _
  | some x => exact h x (List.mem_of_getElem? e)
theorem runs_ints {wt : List Str} {a b : Nat} {ys : List Value} {t1 t2 : Tok} (ha : 1 ≤ scoreOf wt a) (h : IntsAre ys ((abc5.filter fun d => !(d == a || d == b)).map fun d => ((scoreOf wt d : Nat) : Int))) : IntsAre (ys ++ [.int ((scoreOf wt a : Nat) - 1) t1, .int ((scoreOf wt b : Nat) + 1) t2]) ((runsT wt a b).map fun q : Nat => (q : Int)) := by
  have e := ints_app h (.cons ((scoreOf wt a : Nat) - 1 : Int) t1 (.cons ((scoreOf wt b : Nat) + 1 : Int) t2 .nil))
  rw [runsT, List.map_append, List.map_map]
  have e1 : ((scoreOf wt a : Nat) : Int) - 1 = ((scoreOf wt a - 1 : Nat) : Int) := by omega
  have e2 : ((scoreOf wt b : Nat) : Int) + 1 = ((scoreOf wt b + 1 : Nat) : Int) := by omega
  rw [e1, e2] at e ⊢
  exact e
theorem runs_le (wt : List Str) (a b : Nat) : ∀ x ∈ runsT wt a b, x ≤ 8 := by
  intro x hx
  obtain ⟨i, hi⟩ := List.mem_iff_getElem?.mp hx
  have := runs_small (wt := wt) (a := a) (b := b) i
  rw [List.getD_eq_getElem?_getD, hi] at this
  exact this
theorem runs_cnt (wt : List Str) (a b : Nat) : (runsT wt a b).length ≤ 7 := by
  have h := List.length_filter_le (fun d => !(d == a || d == b)) abc5
  simp only [runsT, List.length_append, List.length_map, List.length_cons, List.length_nil]
  have : abc5.length = 5 := rfl
  omega
theorem flat_le : ∀ l : List Nat, (∀ x ∈ l, x ≤ 8) → (l.flatMap runL).length ≤ 9 * l.length
  | [], _ => Nat.zero_le _
  | a :: r, h => by
    have h1 := flat_le r fun x hx => h x (List.mem_cons_of_mem _ hx)
    have h2 := h a List.mem_cons_self
    rw [List.flatMap_cons, List.length_append, List.length_cons]
    simp only [runL, List.length_append, List.length_replicate, List.length_cons, List.length_nil] at *
    omega
theorem lens_flat : ∀ l : List Nat, ((l.map runT).map (·.length)).sum = (l.flatMap runL).length
  | [] => rfl
  | a :: r => by
    rw [List.flatMap_cons, List.length_append, List.map_cons, List.map_cons, List.sum_cons, lens_flat r]
    rfl
theorem turn_ok (wt : List Str) (a b : Nat) : (((runsT wt a b).map runT).map (·.length)).sum + ((runsT wt a b).map runT).length * (Str.ofString "").length ≤ 16777216 := by
  rw [lens_flat, show (Str.ofString "").length = 0 from rfl]
  have := flat_le _ (runs_le wt a b)
  have := runs_cnt wt a b
  omega
theorem turn_size (wt : List Str) (a b : Nat) : (⟨((runsT wt a b).flatMap runL).toArray⟩ : Str).cps.size ≤ 63 := by
  have := flat_le _ (runs_le wt a b)
  have := runs_cnt wt a b
  show ((runsT wt a b).flatMap runL).toArray.size ≤ 63
  rw [List.size_toArray]
  omega
theorem turn_ws (wt : List Str) (a b : Nat) : ∀ i c, i < (⟨((runsT wt a b).flatMap runL).toArray⟩ : Str).cps.size → (⟨((runsT wt a b).flatMap runL).toArray⟩ : Str).cps[i]? = some c → c = 32 ∨ c = 9 := by
  intro i c _ hc
  have e : ((runsT wt a b).flatMap runL)[i]? = some c := by simpa using hc
  exact runs_mem (List.mem_of_getElem? e)
theorem turn_take (wt : List Str) (a b : Nat) : (⟨((runsT wt a b).flatMap runL).toArray⟩ : Str).cps.toList.take (⟨((runsT wt a b).flatMap runL).toArray⟩ : Str).cps.size = (runsT wt a b).flatMap runL := by
  show ((runsT wt a b).flatMap runL).take _ = _
  exact List.take_of_length_le (by simp)
theorem map_range (l : List Nat) (g : Nat → Str) : (List.range l.length).map (fun k => g (l.getD k 0)) = l.map g := by
  refine List.ext_getElem (by simp) fun i h1 h2 => ?_
  simp only [List.length_map, List.length_range] at h1
  simp [List.getD_eq_getElem?_getD, List.getElem?_eq_getElem h1]
theorem item0' (a b : Nat) : Txt.item ⟨#[a, b]⟩ 0 = one a := by
  first | rfl | with_unfolding_all rfl | (simp [Txt.item, one])
theorem item1' (a b : Nat) : Txt.item ⟨#[a, b]⟩ 1 = one b := by
  first | rfl | with_unfolding_all rfl | (simp [Txt.item, one])
section
variable {w : World} {p : Program} {loose : List Str} {mean : ExcName → Option Value} {mg mb : Str → Option Value} {ad au : Nat} {af : Option (List Env)} {ag : Option (List Code)} {g' : Heap} {L' : Addr} {s : Shared} {Q : Flow → Shared → Prop}
  {oW oS oN oB oR oC oM oG : Obj} {r : List (Addr × Obj)} {sc pg fi se wh fa re le be th ev fv la ru tu du : Option Value}
inductive Lw20J (G : Array GenState) (L' x : Addr) (oW oS oN oB oR oC oM : Obj) (r : List (Addr × Obj)) (sc pg fi se wh fa re be th ev fv la : Option Value) (i : Nat) (m' : Str → Option Value) (nw : List (Addr × Obj)) (gs : Array GenState) : Prop
  | mk (_ : gs = G) (oG' : Obj) (vG' ru tu du : Option Value) (_ : m' = lawM sc pg fi se wh fa re (some (.ref x)) be th ev fv la ru tu du) (_ : nw = lawC L' oW oS oN oB oR oC oM oG' r) (_ : oG'.data = .cell vG') : Lw20J G L' x oW oS oN oB oR oC oM r sc pg fi se wh fa re be th ev fv la i m' nw gs
set_option maxHeartbeats 4000000 in
theorem law20 {st : Stmt} (hst : st = lawSt 20) {x S W : Addr} {ws : Str} {n1 nt1 : Nat} {cs : List Nat} {oD : Obj} {wv : List Value} {n : Nat} {wt : List Str} {vG : Option Value} (F : Fr g' L' s.heap (lawM sc pg fi se wh fa re (some (.ref x)) be th ev fv la ru tu du)) (X : (KK w.params).In g') (N : News g' L' s.heap (lawC L' oW oS oN oB oR oC oM oG r)) (T : Top p loose mean mg mb g') (hd : ad + 160 < recursionLimit) (hu : au + 1000 < cLine)
    (hX : WsIn w x ws (n1, nt1, cs, 0) r) (hwv : StrsAre wv wt) (hwl : wv.length < 1000) (dW : oW.data = .cell (some (.ref W))) (hW : (W, lst wv n) ∈ r) (dS : oS.data = .cell (some (.ref S))) (hS : (S, oD) ∈ r) (hD : DictSI w oD (scP wt abc5)) (hlo : (S == sysModules) = false) (dG : oG.data = .cell vG) (off8 : Off (L' + 1 + 1 + 1 + 1 + 1 + 1 + 1 + 1) r) (hk : turnsOk wt cs)
    (ret : ∀ h' tk oG' ru tu du, Fr g' L' h' (lawM sc pg fi se wh fa re (some (.ref x)) be th ev fv la ru tu du) → News g' L' h' (lawC L' oW oS oN oB oR oC oM oG' r) → Q .next { s with heap := h', toks := tk }) :
    wpAny (model PG w) ⟨none, ad, af, ag, au⟩ (exec st (lawEnv L')) Q NoE s := by
  walk_at "seal24"
  have e : lawSt 20 = Stmt.For _ _ _ _ _ := rfl
  rw [hst, e]
  refine for_top ?_
  have Fx := F
  have Nx := N
  k_steps
  refine of_stop (for_it (src_list rfl F N (by walk_at "my mem" : (W, lst wv n) ∈ _)) F N (Lw20J s.gens L' x oW oS oN oB oR oC oM r sc pg fi se wh fa re be th ev fv la) ⟨rfl, oG, vG, ru, tu, du, rfl, rfl, dG⟩ ?_ ?_ (fun p hp => by rw [List.mem_singleton.mp hp]; walk_at "my mem"))
  · rintro i v m₁ news₁ h tk gs I oI hi ht hv ⟨rfl, oG', vG', ru, tu, du, rfl, rfl, dG'⟩ F2 N2 o1 b1
    obtain ⟨tg, e1, hxm⟩ := StrsAre.get hwv hv
    obtain ⟨a, b, n', nt', cs', hab, ham, hbm, ha1, hwp, hdec⟩ := hk _ hxm
    rw [hab] at e1
    subst e1
    clear hxm hab
    replace o1 : Off I _ := o1
    simp only [off_cons] at o1
    obtain ⟨oIG, oIM, oIC, oIR, oIB, oIN, oIS, oIW, oIr⟩ := o1
    walk_at "seal24"
    (revert du_1; intro du; set_option tactic.hygienic false in intros) --fix
    (revert ru_1; intro ru; set_option tactic.hygienic false in intros) --fix
    (revert tu_1; intro tu; set_option tactic.hygienic false in intros) --fix
    k_steps
    rename Fr g' L' _ _ => F3
    rename News g' L' _ _ => N3
    rename_i h3 oG3 dG3
    refine of_stop (comp_top (by with_unfolding_all rfl) rfl (by decide) ?_)
    k_steps
    refine of_stop (comp_pure (src_abc rfl F3) F3 N3 (by decide) (fun k => !(abc5.getD k 0 == a || abc5.getD k 0 == b)) (fun k v => IntV (scoreOf wt (abc5.getD k 0) : Nat) v) ?_ (rr_e ?_) (fun p hp => (List.not_mem_nil hp).elim))
    · rintro k v m₂ Ic Cc Dc oIc oCc ysT h tk₀ tk hk' htk ⟨u, rfl, hdm⟩ hlk hoC hm2 F7 N7
      generalize abc5.getD k 0 = d at *
      refine tests_one ?_
      have hocc := occ_game a ham b hbm d hdm
      k_steps
      · refine of_stop (kdp_item (scTab N7 (by walk_at "my mem") hD hlo) (sc_has wt hdm) fun t' => ?_)
        rw [sc_look wt hdm]
        k_steps
        all_goals first | exact ⟨_, rfl⟩ | exact Same.intro (by assumption) (by assumption) (by walk_at "sub")
      · exact Same.intro (by assumption) (by assumption) (by walk_at "sub")
    · intro D h tk gs ys m' nw htk F7 N7 hoD
      rintro ⟨rfl, rfl, hp⟩
      have hys := Pk.abcI (f := fun d => !(d == a || d == b)) (g := fun d => ((scoreOf wt d : Nat) : Int)) hp fun k v h => h
      have hyl : ys.length ≤ 5 := by rw [hp.len]; exact Nat.le_trans (List.length_filter_le _ _) (by decide)
      have hsa5 := score_le wt a
      have hsb5 := score_le wt b
      clear hp
      k_steps
      rw [item0']
      refine of_stop (kdp_item (scTab N7 (by walk_at "my mem") hD hlo) (sc_has wt ham) fun t' => ?_)
      rw [sc_look wt ham]
      k_steps
      rw [item1']
      refine of_stop (kdp_item (scTab N7 (by walk_at "my mem") hD hlo) (sc_has wt hbm) fun t' => ?_)
      rw [sc_look wt hbm]
      k_steps
      rename Fr g' L' _ _ => F8
      rename News g' L' _ _ => N8
      refine of_stop (add_led (vs := ys) (us := [_, _]) F8 N8 (by walk_at "my mem") (by walk_at "my mem") (by simp only [List.length_cons, List.length_nil]; omega) ?_)
      intro D2 c2 h9 F9 N9 bD2
      obtain ⟨rv, hrv, N10⟩ : ∃ rv, IntsAre rv ((runsT wt a b).map fun q : Nat => (q : Int)) ∧ News g' L' h9 ((D2, lst rv c2) :: (I, oI) :: lawC L' oW oS oN oB oR oC oM oG3 r) := ⟨_, runs_ints ha1 hys, News.sub N9 (by walk_at "sub")⟩
      have hrl := hrv.length
      rw [List.length_map] at hrl
      have hr7 := runs_cnt wt a b
      have hDI : @LT.lt Nat _ I D2 := bD2.get (by walk_at "my mem" : (I, oI) ∈ _)
      have hDr : Blw D2 (lawC L' oW oS oN oB oR oC oM oG3 r) := fun q hq => bD2 q (by walk_at "my mem")
      clear N9 N8 F8 bD2
      k_steps
      refine of_stop (comp_top (by with_unfolding_all rfl) rfl (by decide) ?_)
      k_steps
      rename Fr g' L' _ _ => F10
      rename News g' L' _ _ => N11
      refine of_stop (comp_pure (src_list rfl F10 N11 (by walk_at "my mem" : (D2, lst rv c2) ∈ _)) F10 N11 (by omega) (fun _ => true) (fun k v => StrV (runT ((runsT wt a b).getD k 0)) v) ?_ (rr_e ?_) (fun p hp => by rw [List.mem_singleton.mp hp]; walk_at "my mem"))
      · rintro k v m₂ Ic Cc Dc oIc oCc ysT h tk₀ tk hk' htk hv hlk hoC hm2 F7 N7
        obtain ⟨t1, e1⟩ := ints_at hrv hv
        rw [getD_cast] at e1
        subst e1
        have hs8 := runs_small (wt := wt) (a := a) (b := b) k
        generalize (runsT wt a b).getD k 0 = z at *
        refine tests_nil ⟨rfl, ?_⟩
        rw [if_pos rfl]
        k_steps
        · rw [runT_mul' hs8]
          exact ⟨_, rfl⟩
        · exact Same.intro (by assumption) (by assumption) (by walk_at "sub")
      · intro D3 h tk gs ys3 m' nw htk F12 N12 hoD3
        rintro ⟨rfl, rfl, hp3⟩
        rw [List.filter_eq_self.mpr (fun _ _ => rfl)] at hp3
        have hys3 := hp3.strs (g := fun k => runT ((runsT wt a b).getD k 0)) fun k v h => h
        rw [hrl, map_range (runsT wt a b) runT] at hys3
        k_steps
        refine of_stop (join_list (News.isList N12 (by walk_at "my mem")) hys3 (turn_ok wt a b) fun t' k' => ?_)
        rw [join_runs]
        have htu := turn_size wt a b
        have htw := turn_ws wt a b
        have htt := turn_take wt a b
        generalize (⟨((runsT wt a b).flatMap runL).toArray⟩ : Str) = tx at *
        rw [← htt] at hwp
        clear hys3 hp3 htt
        k_steps
        refine of_stop (whiteC (k := tx.cps.size) F12 X N12 T (by show ad + 30 < recursionLimit; omega) rfl (Nat.le_refl _) (by omega) htw (.inl rfl) ?_)
        intro h13 tk13 y dy CT NT cv n2 nt2 cs2 b2 sb tb k1 k2 k3 k4 k5 tn tnt hw hcv F13 N13 bdy l1 l2 l3
        rw [hwp] at hw
        cases hw
        obtain ⟨rr, hY, hIr, hrr, N14⟩ : ∃ rr, WsIn w y tx (n', nt', cs', 0) rr ∧ (I, oI) ∈ rr ∧ (∀ q ∈ r, q ∈ rr) ∧ News g' L' h13 (lawC L' oW oS oN oB oR oC oM oG3 rr) := by
          refine ⟨(NT, ({ cls := .type "tuple", data := .seq #[.ref CT, .int ((0 : Nat) : Int) tb] } : Obj)) :: (CT, { cls := .type "tuple", data := .seq cv.toArray }) :: (y, instObj 168 dy) :: (dy, wsD w tx t' n' nt' NT sb k1 k2 k3 k4 k5 tn tnt) :: (I, oI) :: r, ⟨_, ⟨dy, CT, NT, cv, sb, tb, k1, k2, k3, k4, k5, tn, tnt, _, hcv, rfl⟩, by walk_at "sub"⟩, by walk_at "my mem", fun q hq => by walk_at "my mem", News.sub N13 (by walk_at "sub")⟩
        have hXr : WsIn w x ws (n1, nt1, cs, 0) rr := hX.sub hrr
        have hSr := hrr _ hS
        have hWr := hrr _ hW
        have hbe : (((scoreOf wt a : Nat) : Int) == ((scoreOf wt b : Nat) : Int) + 1) = decide (scoreOf wt a = scoreOf wt b + 1) := by rw [Bool.eq_iff_iff, beq_iff_eq, decide_eq_true_eq]; omega
        have hd1 : decide (cs = cs' ∧ 0 = 0) = decide (scoreOf wt a = scoreOf wt b + 1) := by rw [← hdec, Bool.eq_iff_iff, decide_eq_true_eq, decide_eq_true_eq]; exact ⟨fun h => h.1, fun h => ⟨h, rfl⟩⟩
        have hd2 : decide (cs' = cs ∧ 0 = 0) = decide (scoreOf wt a = scoreOf wt b + 1) := by rw [← hdec, Bool.eq_iff_iff, decide_eq_true_eq, decide_eq_true_eq]; exact ⟨fun h => h.1.symm, fun h => ⟨h.symm, rfl⟩⟩
        have sc1 := sc_has wt ham
        have sc2 := sc_has wt hbm
        have sl1 := sc_look wt ham
        have sl2 := sc_look wt hbm
        generalize hbd : decide (scoreOf wt a = scoreOf wt b + 1) = bd at *
        clear N13 bdy
        k_steps
        rw [item0']
        refine of_stop (kdp_item (scTab (by assumption) (by walk_at "my mem") hD hlo) sc1 fun t' => ?_)
        rw [sl1]
        k_steps
        rw [item1']
        refine of_stop (kdp_item (scTab (by assumption) (by walk_at "my mem") hD hlo) sc2 fun t' => ?_)
        rw [sl2]
        k_steps
        rename Fr g' L' _ _ => F15
        rename News g' L' _ _ => N15
        rw [hbe] at F15
        refine of_stop (ws_equal F15 X N15 hXr (by walk_at "sub") ?_)
        k_steps
        refine of_stop (equalC F15 X N15 T (by show ad + 30 < recursionLimit; omega) (by show au + 500 < cLine; omega) rfl hXr hY (by walk_at "sub") ?_)
        intro h16 tk16 F16 N16
        rw [hd1]
        clear hdec
        have hall : ∀ p ∈ (I, oI) :: lawC L' oW oS oN oB oR oC oM oG3 r, p ∈ lawC L' oW oS oN oB oR oC oM oG3 rr := by
          repeat (refine List.forall_mem_cons.mpr ⟨by walk_at "my mem", ?_⟩)
          exact fun q hq => by
            repeat apply List.mem_cons_of_mem
            exact hrr q hq
        cases bd
        all_goals (
          k_steps
          refine of_stop (ws_equal F16 X N16 hY (by walk_at "sub") ?_)
          k_steps
          refine of_stop (equalC F16 X N16 T (by show ad + 30 < recursionLimit; omega) (by show au + 500 < cLine; omega) rfl hY hXr (by walk_at "sub") ?_)
          intro h17 tk17 F17 N17
          rw [hd2]
          k_steps
          simp only [mp_set] at F17
          exact StepIt.next (lawC L' oW oS oN oB oR oC oM oG3 r) (canon lawK F17 rfl) N17 hall (by walk_at "my off") (fun p hp => by rw [List.mem_singleton.mp hp]; walk_at "my mem") ⟨rfl, oG3, _, _, _, _, rfl, rfl, dG3⟩)
  · rintro h tk gs m' news' ht F2 N2 ⟨rfl, oG', vG', ru, tu, du, rfl, rfl, dG'⟩
    walk_at "seal24"
    (revert du_1; intro du; set_option tactic.hygienic false in intros) --fix
    (revert ru_1; intro ru; set_option tactic.hygienic false in intros) --fix
    (revert tu_1; intro tu; set_option tactic.hygienic false in intros) --fix
    exact ret _ _ oG' _ _ _ F2 N2
end
end
section
set_option maxRecDepth 100000
section
variable (bt : Nat → Nat → Bool)
noncomputable def scB (c : Nat) : Nat := (abc5.filter (fun d => bt c d)).length
noncomputable def endsPB : Nat → Nat → List Nat → List Nat
  | 0, last, _ => [last]
  | k + 1, last, rest => if rest = [] then [last] else rest.flatMap fun c => if bt last c then endsPB k c (rest.filter (· != c)) else []
noncomputable def lostB (l : List Nat) (c : Nat) : List Nat := (List.range l.length).filter fun k => bt (l.getD k 0) c
noncomputable def lowB (l : List Nat) (c : Nat) : Nat := match lostB bt l c with | [] => 0 | k :: _ => k + 1
noncomputable def wonB (l : List Nat) (c : Nat) : List Nat := (List.range (l.length - lowB bt l c)).filter fun j => bt c (l.getD (lowB bt l c + j) 0)
noncomputable def highB (l : List Nat) (c : Nat) : Option Nat := (wonB bt l c).getLast?.map (lowB bt l c + ·)
noncomputable def keyB (c d : Nat) : Bool := decide (d = c) || bt c d
noncomputable def rwB (c : Nat) (l : List Nat) (i : Nat) : Bool := !keyB bt c (l.getD i 0) && keyB bt c c
noncomputable def rwB' (c : Nat) (l : List Nat) (i : Nat) : Bool := !(!bt c c && bt c (l.getD i 0))
noncomputable def stepB (t : List Nat × List Nat × List Nat) (c : Nat) : List Nat × List Nat × List Nat :=
  (insN t.1 (bis (rwB bt c t.1) t.1.length 0 t.1.length) c,
   insN t.2.1 (bis (rwB bt c t.2.1) t.2.1.length (lowB bt t.2.1 c) ((highB bt t.2.1 c).getD t.2.1.length)) c,
   insN t.2.2 (bis (rwB' bt c t.2.2) t.2.2.length (lowB bt t.2.1 c) ((highB bt t.2.1 c).getD t.2.1.length)) c)
noncomputable def rwsB (cs : List Nat) : List Nat × List Nat × List Nat := cs.foldl (stepB bt) ([], [], [])
noncomputable def chB (q : List Nat) : Bool := (List.range 4).all fun k => bt (q.getD k 0) (q.getD (k + 1) 0)
noncomputable def everyB : Nat := (abc5.map fun c => (endsPB bt 4 c (abc5.filter (· != c))).length).sum
noncomputable def fivesB : Nat := ((endsPB bt 4 97 [98, 99, 100, 101]).filter fun d => bt d 97).length
noncomputable def runsB (a b : Nat) : List Nat := (abc5.filter fun d => !(d == a || d == b)).map (scB bt) ++ [scB bt a - 1, scB bt b + 1]
noncomputable def threesN (cs : List Nat) : Nat := ((List.range cs.length).map fun i => cs.getD i 0 * (i * (i - 1) / 2)).sum
end
theorem two_beq (x y c d : Nat) : ((⟨#[x, y]⟩ : Str) == ⟨#[c, d]⟩) = (x == c && y == d) := by
  rw [Bool.eq_iff_iff, beq_iff_eq, Bool.and_eq_true, beq_iff_eq, beq_iff_eq]
  constructor
  · intro h
    injection h with h
    simpa using h
  · rintro ⟨rfl, rfl⟩
    rfl
theorem cs_self (b x : Bool) : (bif b then x else x) = x := by cases b <;> rfl
noncomputable def tp (b : Bool) (x y : Nat) : Str := if b then ⟨#[x, y]⟩ else ⟨#[y, x]⟩
theorem tp_beq (b : Bool) (x y c d : Nat) : (tp b x y == (⟨#[c, d]⟩ : Str)) = (bif b then (x == c && y == d) else (y == c && x == d)) := by
  cases b <;> exact two_beq _ _ _ _
theorem wins_tp (b0 b1 b2 b3 b4 b5 b6 b7 b8 b9 : Bool) : winsOf [b0, b1, b2, b3, b4, b5, b6, b7, b8, b9] = [tp b0 97 98, tp b1 97 99, tp b2 97 100, tp b3 97 101, tp b4 98 99, tp b5 98 100, tp b6 98 101, tp b7 99 100, tp b8 99 101, tp b9 100 101] := by
  have k : ∀ (b : Bool) (i : Nat) (x y : Nat), gamesT.getD i default = ⟨#[x, y]⟩ → (if b then gamesT.getD i default else revT (gamesT.getD i default)) = tp b x y := by
    intro b i x y h
    rw [h]
    cases b
    · show (⟨#[x, y].reverse⟩ : Str) = ⟨#[y, x]⟩
      simp
    · rfl
  show [if b0 = true then gamesT.getD 0 default else revT (gamesT.getD 0 default), if b1 = true then gamesT.getD 1 default else revT (gamesT.getD 1 default), if b2 = true then gamesT.getD 2 default else revT (gamesT.getD 2 default), if b3 = true then gamesT.getD 3 default else revT (gamesT.getD 3 default), if b4 = true then gamesT.getD 4 default else revT (gamesT.getD 4 default), if b5 = true then gamesT.getD 5 default else revT (gamesT.getD 5 default), if b6 = true then gamesT.getD 6 default else revT (gamesT.getD 6 default), if b7 = true then gamesT.getD 7 default else revT (gamesT.getD 7 default), if b8 = true then gamesT.getD 8 default else revT (gamesT.getD 8 default), if b9 = true then gamesT.getD 9 default else revT (gamesT.getD 9 default)] = _
  rw [k b0 0 97 98 (by decide +kernel), k b1 1 97 99 (by decide +kernel), k b2 2 97 100 (by decide +kernel), k b3 3 97 101 (by decide +kernel), k b4 4 98 99 (by decide +kernel), k b5 5 98 100 (by decide +kernel), k b6 6 98 101 (by decide +kernel), k b7 7 99 100 (by decide +kernel), k b8 8 99 101 (by decide +kernel), k b9 9 100 101 (by decide +kernel)]
noncomputable def hitG (x y c d : Nat) : Bool := (x == c && y == d) || (y == c && x == d)
noncomputable def nohit : List (Bool × Nat × Nat) → Nat → Nat → Bool
  | [], _, _ => true
  | p :: l, c, d => !hitG p.2.1 p.2.2 c d && nohit l c d
noncomputable def anyG (l : List (Bool × Nat × Nat)) (c d : Nat) : Bool := l.any fun p => tp p.1 p.2.1 p.2.2 == (⟨#[c, d]⟩ : Str)
noncomputable def lookG : List (Bool × Nat × Nat) → Nat → Nat → Bool
  | [], _, _ => false
  | p :: l, c, d => bif (p.2.1 == c && p.2.2 == d) then p.1 else bif (p.2.2 == c && p.2.1 == d) then !p.1 else lookG l c d
noncomputable def okG : List (Bool × Nat × Nat) → Nat → Nat → Bool
  | [], _, _ => true
  | p :: l, c, d => bif hitG p.2.1 p.2.2 c d then !((p.2.1 == c && p.2.2 == d) && (p.2.2 == c && p.2.1 == d)) && nohit l c d else okG l c d
theorem nohit_any : ∀ (l : List (Bool × Nat × Nat)) (c d : Nat), nohit l c d = true → anyG l c d = false
  | [], _, _, _ => rfl
  | (b, x, y) :: l, c, d, h => by
    have h := Bool.and_eq_true_iff.mp h
    have h1 := Bool.or_eq_false_iff.mp (by simpa using h.1 : hitG x y c d = false)
    have e := nohit_any l c d h.2
    show ((tp b x y == (⟨#[c, d]⟩ : Str)) || anyG l c d) = false
    rw [e, tp_beq, h1.1, h1.2, cs_self]; rfl
theorem look_any : ∀ (l : List (Bool × Nat × Nat)) (c d : Nat), okG l c d = true → anyG l c d = lookG l c d
  | [], _, _, _ => rfl
  | (b, x, y) :: l, c, d, h => by
    show ((tp b x y == (⟨#[c, d]⟩ : Str)) || anyG l c d) = bif (x == c && y == d) then b else bif (y == c && x == d) then !b else lookG l c d
    have h : (bif (x == c && y == d) || (y == c && x == d) then !((x == c && y == d) && (y == c && x == d)) && nohit l c d else okG l c d) = true := h
    rw [tp_beq]
    cases e1 : (x == c && y == d) <;> cases e2 : (y == c && x == d) <;> rw [e1, e2] at h
    · rw [cs_self]; exact look_any l c d h
    · rw [nohit_any l c d h, Bool.or_false]; cases b <;> rfl
    · rw [nohit_any l c d h, Bool.or_false]; cases b <;> rfl
    · cases h
theorem hit_in {x y c d : Nat} (h : hitG x y c d = true) (hx : x ∈ abc5) (hy : y ∈ abc5) : c ∈ abc5 ∧ d ∈ abc5 := by
  rcases (Bool.or_eq_true _ _).mp h with h | h
  · obtain ⟨h1, h2⟩ := Bool.and_eq_true_iff.mp h
    exact ⟨eq_of_beq h1 ▸ hx, eq_of_beq h2 ▸ hy⟩
  · obtain ⟨h1, h2⟩ := Bool.and_eq_true_iff.mp h
    exact ⟨eq_of_beq h1 ▸ hy, eq_of_beq h2 ▸ hx⟩
theorem ok_out {c d : Nat} : ∀ {l : List (Bool × Nat × Nat)}, (∀ p ∈ l, hitG p.2.1 p.2.2 c d = false) → okG l c d = true
  | [], _ => rfl
  | p :: l, h => by rw [okG, h p List.mem_cons_self, cond_false, ok_out fun q hq => h q (List.mem_cons_of_mem _ hq)]
section
variable (b0 b1 b2 b3 b4 b5 b6 b7 b8 b9 : Bool)
noncomputable def gamesL : List (Bool × Nat × Nat) := [(b0, 97, 98), (b1, 97, 99), (b2, 97, 100), (b3, 97, 101), (b4, 98, 99), (b5, 98, 100), (b6, 98, 101), (b7, 99, 100), (b8, 99, 101), (b9, 100, 101)]
theorem ok_games (c d : Nat) : okG (gamesL b0 b1 b2 b3 b4 b5 b6 b7 b8 b9) c d = true := by
  by_cases h : c ∈ abc5 ∧ d ∈ abc5
  · have k : (abc5.all fun c => abc5.all fun d => okG (gamesL b0 b1 b2 b3 b4 b5 b6 b7 b8 b9) c d) = true := by kernel_rfl
    exact List.all_eq_true.mp (List.all_eq_true.mp k c h.1) d h.2
  · refine ok_out fun p hp => Bool.eq_false_iff.mpr fun e => h ?_
    have k : ((gamesL b0 b1 b2 b3 b4 b5 b6 b7 b8 b9).all fun p => abc5.contains p.2.1 && abc5.contains p.2.2) = true := by kernel_rfl
    obtain ⟨k1, k2⟩ := Bool.and_eq_true_iff.mp (List.all_eq_true.mp k p hp)
    exact hit_in e (List.contains_iff_mem.mp k1) (List.contains_iff_mem.mp k2)
theorem beats_lk : beats (winsOf [b0, b1, b2, b3, b4, b5, b6, b7, b8, b9]) = lookG (gamesL b0 b1 b2 b3 b4 b5 b6 b7 b8 b9) := by
  funext c d
  rw [wins_tp]
  exact look_any _ _ _ (ok_games b0 b1 b2 b3 b4 b5 b6 b7 b8 b9 c d)
end
noncomputable def allBs : Nat → (List Bool → Bool) → Bool
  | 0, f => f []
  | n + 1, f => allBs n (fun l => f (false :: l)) && allBs n (fun l => f (true :: l))
theorem allBs_at : ∀ (n : Nat) (f : List Bool → Bool), allBs n f = true → ∀ l, l.length = n → f l = true
  | 0, f, h, l, e => by rw [List.length_eq_zero_iff.mp e]; exact h
  | n + 1, f, h, b :: l, e => by
    rw [allBs, Bool.and_eq_true] at h
    cases b
    · exact allBs_at n _ h.1 l (by simpa using e)
    · exact allBs_at n _ h.2 l (by simpa using e)
end
section
set_option maxRecDepth 100000
noncomputable def codeG (g : Nat → Bool) (c d : Nat) : Str := if d = c then Str.ofString "  " else if g d then Str.ofString "+ " else Str.ofString "- "
noncomputable def sideG (g : Nat → Bool) (c d : Nat) : List Str := [codeG g c d ++ one d ++ one c, Txt.item (codeG g c d) 0 ++ one d ++ one c]
noncomputable def linesG (g : Nat → Bool) (c : Nat) : List Str := abc5.flatMap (sideG g c) ++ [Str.ofString "? " ++ one c, Str.ofString ""]
noncomputable def sdB (g : Nat → Bool) (c : Nat) : Bool :=
  decide (((linesG g c).filter (tstR (Str.ofString "- "))).map cutR = (abc5.filter (fun d => !g d)).map (fun d => (⟨#[d, c]⟩ : Str))) &&
  (decide (((linesG g c).filter (tstR (Str.ofString "+ "))).map cutR = (abc5.filter (fun d => g d || decide (d = c))).map (fun d => (⟨#[d, c]⟩ : Str))) &&
  decide ((abc5.filter (fun d => g d || decide (d = c))).length = (abc5.filter (fun d => g d)).length + 1))
theorem sd_of {wt : List Str} {c : Nat} (h : sdB (beats wt c) c = true) : sidesOk wt c := by
  rw [sdB, Bool.and_eq_true, Bool.and_eq_true, decide_eq_true_eq, decide_eq_true_eq, decide_eq_true_eq] at h
  exact h
theorem sd_congr {g g' : Nat → Bool} (c : Nat) (h : ∀ d ∈ abc5, g d = g' d) : sdB g c = sdB g' c := by
  have e1 : linesG g c = linesG g' c := by
    have k : ∀ d ∈ abc5, sideG g c d = sideG g' c d := fun d hd => by simp only [sideG, codeG, h d hd]
    show (sideG g c 97 ++ (sideG g c 98 ++ (sideG g c 99 ++ (sideG g c 100 ++ (sideG g c 101 ++ []))))) ++ _ = (sideG g' c 97 ++ (sideG g' c 98 ++ (sideG g' c 99 ++ (sideG g' c 100 ++ (sideG g' c 101 ++ []))))) ++ _
    rw [k 97 (by decide), k 98 (by decide), k 99 (by decide), k 100 (by decide), k 101 (by decide)]
  have e2 : abc5.filter (fun d => !g d) = abc5.filter (fun d => !g' d) := List.filter_congr fun d hd => by rw [h d hd]
  have e3 : abc5.filter (fun d => g d || decide (d = c)) = abc5.filter (fun d => g' d || decide (d = c)) := List.filter_congr fun d hd => by rw [h d hd]
  have e4 : abc5.filter (fun d => g d) = abc5.filter (fun d => g' d) := List.filter_congr fun d hd => by rw [h d hd]
  rw [sdB, sdB, e1, e2, e3, e4]
noncomputable def tbl (l : List Bool) (d : Nat) : Bool := l.getD (d - 97) false
theorem sd97 : allBs 4 (fun l => sdB (tbl (false :: l)) 97) = true := by decide +kernel
theorem sd98 : allBs 4 (fun l => sdB (tbl (l.getD 0 false :: false :: l.drop 1)) 98) = true := by decide +kernel
theorem sd99 : allBs 4 (fun l => sdB (tbl (l.take 2 ++ false :: l.drop 2)) 99) = true := by decide +kernel
theorem sd100 : allBs 4 (fun l => sdB (tbl (l.take 3 ++ false :: l.drop 3)) 100) = true := by decide +kernel
theorem sd101 : allBs 4 (fun l => sdB (tbl (l ++ [false])) 101) = true := by decide +kernel
theorem sides_ok {wt : List Str} {c : Nat} (hc : c ∈ abc5) (h : beats wt c c = false) : sidesOk wt c := by
  refine sd_of ?_
  have e : ∀ l : List Bool, l = [beats wt c 97, beats wt c 98, beats wt c 99, beats wt c 100, beats wt c 101] → sdB (tbl l) c = true → sdB (beats wt c) c = true := fun l hl hs => by
    subst hl
    rw [sd_congr c (g' := tbl [beats wt c 97, beats wt c 98, beats wt c 99, beats wt c 100, beats wt c 101]) ?_]
    · exact hs
    · intro d hd
      simp only [abc5, List.mem_cons, List.not_mem_nil, or_false] at hd
      rcases hd with rfl | rfl | rfl | rfl | rfl <;> rfl
  simp only [abc5, List.mem_cons, List.not_mem_nil, or_false] at hc
  rcases hc with rfl | rfl | rfl | rfl | rfl
  · exact e _ (by rw [h]) (allBs_at 4 _ sd97 [beats wt 97 98, beats wt 97 99, beats wt 97 100, beats wt 97 101] rfl)
  · exact e _ (by rw [h]; rfl) (allBs_at 4 _ sd98 [beats wt 98 97, beats wt 98 99, beats wt 98 100, beats wt 98 101] rfl)
  · exact e _ (by rw [h]; rfl) (allBs_at 4 _ sd99 [beats wt 99 97, beats wt 99 98, beats wt 99 100, beats wt 99 101] rfl)
  · exact e _ (by rw [h]; rfl) (allBs_at 4 _ sd100 [beats wt 100 97, beats wt 100 98, beats wt 100 99, beats wt 100 101] rfl)
  · exact e _ (by rw [h]; rfl) (allBs_at 4 _ sd101 [beats wt 101 97, beats wt 101 98, beats wt 101 99, beats wt 101 100] rfl)
end
section
set_option maxRecDepth 100000
theorem bis_cnt (b : Nat → Bool) (h0 : b 1 = true → b 0 = true) (h1 : b 2 = true → b 1 = true) (h2 : b 3 = true → b 2 = true) : bis b 4 0 4 = clp 0 4 (cnt b 4) ∧ bis b 4 1 3 = clp 1 3 (cnt b 4) := by
  have e : List.range 4 = [0, 1, 2, 3] := rfl
  cases e0 : b 0 <;> cases e1 : b 1 <;> cases e2 : b 2 <;> cases e3 : b 3 <;> simp_all [bis, clp, cnt]
theorem all_pw {α : Type} {R : α → α → Prop} : ∀ {l : List α}, (∀ x ∈ l, ∀ y ∈ l, R x y) → l.Pairwise R
  | [], _ => .nil
  | a :: r, h => .cons (fun y hy => h a List.mem_cons_self y (List.mem_cons_of_mem _ hy)) (all_pw fun x hx y hy => h x (List.mem_cons_of_mem _ hx) y (List.mem_cons_of_mem _ hy))
theorem filt_split {α : Type} (P : α → Bool) (f : α → Nat) (n : Nat) : ∀ l : List α, (l.filter fun d => P d && decide (f d < n + 1)).length = (l.filter fun d => P d && decide (f d < n)).length + (l.filter fun d => P d && decide (f d = n)).length
  | [] => rfl
  | a :: r => by
    have ih := filt_split P f n r
    simp only [List.filter_cons]
    cases P a
    · simpa using ih
    · by_cases h1 : f a < n
      · have h2 : f a < n + 1 := by omega
        have h3 : ¬ f a = n := by omega
        simp only [h1, h2, h3, decide_true, decide_false, Bool.true_and, if_true, Bool.false_eq_true, if_false, List.length_cons, ih]
        omega
      · by_cases h3 : f a = n
        · have h2 : f a < n + 1 := by omega
          simp only [decide_eq_false h1, decide_eq_true h2, decide_eq_true h3, Bool.true_and, if_true, Bool.false_eq_true, if_false, List.length_cons, ih]
          omega
        · have h2 : ¬ f a < n + 1 := by omega
          simp only [h1, h2, h3, decide_false, Bool.true_and, Bool.false_eq_true, if_false, ih]
theorem flat_cnt {α : Type} (P : α → Bool) (f : α → Nat) (l : List α) : ∀ n : Nat, ((List.range n).flatMap fun sz => l.filter fun d => P d && decide (f d = sz)).length = (l.filter fun d => P d && decide (f d < n)).length
  | 0 => by
    have e : (l.filter fun d => P d && decide (f d < 0)) = [] := List.filter_eq_nil_iff.mpr fun a _ => by simp
    rw [e]
    rfl
  | n + 1 => by
    rw [List.range_succ, List.flatMap_append, List.length_append, flat_cnt P f l n, filt_split]
    simp
theorem score4 {wt : List Str} {c : Nat} (hc : c ∈ abc5) (h : beats wt c c = false) : scoreOf wt c < 5 := by
  refine Nat.lt_of_le_of_ne (score_le wt c) fun e => ?_
  have k := List.length_filter_eq_length_iff.mp (show (abc5.filter fun d => beats wt c d).length = abc5.length from e) c hc
  rw [h] at k
  exact absurd k (by decide)
theorem rest_len {wt : List Str} {c : Nat} (hc : c ∈ abc5) (h : ∀ d ∈ abc5, beats wt d d = false) : (restN wt c).length = 4 := by
  have e := flat_cnt (fun d => !decide (d = c)) (scoreOf wt) abc5 5
  have e2 : (abc5.filter fun d => !decide (d = c) && decide (scoreOf wt d < 5)) = abc5.filter fun d => !decide (d = c) := List.filter_congr fun d hd => by
    rw [decide_eq_true (score4 hd (h d hd)), Bool.and_true]
  rw [e2] at e
  refine (show (restN wt c).length = _ from e).trans ?_
  have k : ∀ c ∈ abc5, (abc5.filter fun d => !decide (d = c)).length = 4 := by decide
  exact k c hc
theorem rest_sorted (wt : List Str) (c : Nat) : (restN wt c).Pairwise fun a b => scoreOf wt a ≤ scoreOf wt b := by
  have hs : ∀ sz d, d ∈ (abc5.filter fun d => !decide (d = c) && decide (scoreOf wt d = sz)) → scoreOf wt d = sz := fun sz d h => by
    have := (List.mem_filter.mp h).2
    rw [Bool.and_eq_true, decide_eq_true_eq] at this
    exact this.2
  refine List.pairwise_flatMap.mpr ⟨fun sz _ => all_pw fun x hx y hy => by rw [hs sz x hx, hs sz y hy]; exact Nat.le_refl _, ?_⟩
  exact List.pairwise_lt_range.imp fun {a b} hab x hx y hy => by rw [hs a x hx, hs b y hy]; exact Nat.le_of_lt hab
theorem by_ok {wt : List Str} {c : Nat} (hc : c ∈ abc5) (h : ∀ d ∈ abc5, beats wt d d = false) : byOk wt c := by
  have hl := rest_len hc h
  have hp := rest_sorted wt c
  have hm : ∀ d ∈ restN wt c, d ∈ abc5 := fun d hd => rest_mem hd
  refine ⟨hl, ?_⟩
  generalize restN wt c = rs at *
  match rs, hl with
  | [a0, a1, a2, a3], _ =>
    have m0 := hm a0 (by simp)
    have m1 := hm a1 (by simp)
    have m2 := hm a2 (by simp)
    have m3 := hm a3 (by simp)
    simp only [List.pairwise_cons, List.mem_cons, forall_eq_or_imp, List.not_mem_nil, false_implies, implies_true, and_true] at hp
    have q : ∀ i a, [a0, a1, a2, a3][i]? = some a → a ∈ abc5 → kdpLook (scP wt abc5) (([a0, a1, a2, a3].map one).getD i default) 0 = (scoreOf wt a : Int) := fun i a hi ha => by
      rw [List.getD_eq_getElem?_getD, List.getElem?_map, hi]
      exact sc_look wt ha
    have f0 := q 0 a0 rfl m0
    have f1 := q 1 a1 rfl m1
    have f2 := q 2 a2 rfl m2
    have f3 := q 3 a3 rfl m3
    have fx := sc_look wt hc
    have k1 := bis_cnt (fewB (scP wt abc5) ([a0, a1, a2, a3].map one) (one c)) (by simp only [fewB, f0, f1, fx, decide_eq_true_eq]; omega) (by simp only [fewB, f2, f1, fx, decide_eq_true_eq]; omega) (by simp only [fewB, f2, f3, fx, decide_eq_true_eq]; omega)
    have k2 := bis_cnt (uptB (scP wt abc5) ([a0, a1, a2, a3].map one) (one c)) (by simp only [uptB, f0, f1, fx, Bool.not_eq_true', decide_eq_false_iff_not]; omega) (by simp only [uptB, f2, f1, fx, Bool.not_eq_true', decide_eq_false_iff_not]; omega) (by simp only [uptB, f2, f3, fx, Bool.not_eq_true', decide_eq_false_iff_not]; omega)
    exact ⟨by rw [byW, k1.1, k2.1, decide_eq_true rfl, decide_eq_true rfl]; rfl, by rw [byW, k1.2, k2.2, decide_eq_true rfl, decide_eq_true rfl]; rfl⟩
end
section
set_option maxRecDepth 100000
noncomputable def allB (f : Bool → Bool) : Bool := f false && f true
noncomputable def bump : List Nat → Nat → List Nat
  | [], 0 => [1]
  | [], n + 1 => 0 :: bump [] n
  | x :: r, 0 => Nat.succ x :: r
  | x :: r, n + 1 => x :: bump r n
theorem bump_eq : ∀ (n : Nat) (c : List Nat), (c ++ List.replicate (n + 1 - c.length) 0).set n ((c ++ List.replicate (n + 1 - c.length) 0).getD n 0 + 1) = bump c n
  | 0, [] => rfl
  | n + 1, [] => by
    rw [bump, ← bump_eq n []]
    simp [List.replicate_succ]
  | 0, x :: r => by simp [bump]
  | n + 1, x :: r => by
    rw [bump, ← bump_eq n r]
    simp
theorem ws_blanks : ∀ (n a b : Nat) (cs : List Nat) (k : Nat), (List.replicate n 32).foldl wsStep (a, b, cs, k) = (a + n, b, cs, k + n)
  | 0, _, _, _, _ => rfl
  | n + 1, a, b, cs, k => by
    rw [List.replicate_succ, List.foldl_cons, wsStep, if_pos rfl, ws_blanks n]
    simp only [Prod.mk.injEq, true_and]
    omega
theorem ws_runs : ∀ (l : List Nat) (a b : Nat) (cs : List Nat), (l.flatMap runL).foldl wsStep (a, b, cs, 0) = (a + l.sum + l.length, b + l.length, l.foldl bump cs, 0)
  | [], _, _, _ => rfl
  | n :: l, a, b, cs => by
    rw [List.flatMap_cons, List.foldl_append, runL, List.foldl_append, ws_blanks, List.foldl_cons, List.foldl_nil, wsStep, if_neg (by decide)]
    simp only [Nat.zero_add]
    rw [bump_eq, ws_runs l, List.foldl_cons]
    simp only [List.sum_cons, List.length_cons, Prod.mk.injEq, true_and, and_true]
    omega
noncomputable def hist (l : List Nat) : List Nat := l.foldl bump []
theorem wsP_runs (l : List Nat) : wsP (l.flatMap runL) = (l.sum + l.length, l.length, hist l, 0) := by
  rw [wsP, ws_runs, hist]
  simp
structure Tour (bt : Nat → Nat → Bool) : Prop where
  self : ∀ c ∈ abc5, bt c c = false
  other : ∀ c ∈ abc5, ∀ d ∈ abc5, d ≠ c → bt d c = !bt c d
theorem bis_at (b : Nat → Bool) : ∀ k lo hi, lo ≤ hi → hi - lo ≤ k → lo ≤ bis b k lo hi ∧ bis b k lo hi ≤ hi ∧ (bis b k lo hi = lo ∨ b (bis b k lo hi - 1) = true) ∧ (bis b k lo hi = hi ∨ b (bis b k lo hi) = false)
  | 0, lo, hi, h1, h2 => ⟨Nat.le_refl _, h1, .inl rfl, .inl (Nat.le_antisymm h1 (Nat.sub_eq_zero_iff_le.mp (Nat.le_zero.mp h2)))⟩
  | k + 1, lo, hi, h1, h2 => by
    rw [bis]
    by_cases h : lo < hi
    · rw [if_pos h]
      have hm := mid_lt h
      generalize (lo + hi) / 2 = m at hm
      by_cases hb : b m = true
      · rw [if_pos hb]
        obtain ⟨a1, a2, a3, a4⟩ := bis_at b k (m + 1) hi hm.2 (mid2 hm.1 h2)
        exact ⟨Nat.le_trans hm.1 (Nat.le_of_succ_le a1), a2, .inr (a3.elim (fun e => by rw [e]; exact hb) id), a4⟩
      · rw [if_neg hb]
        obtain ⟨a1, a2, a3, a4⟩ := bis_at b k lo m hm.1 (mid1 hm.2 h2)
        exact ⟨a1, Nat.le_trans a2 (Nat.le_of_lt hm.2), a3, .inr (a4.elim (fun e => by rw [e]; exact Bool.eq_false_iff.mpr hb) id)⟩
    · rw [if_neg h]
      exact ⟨Nat.le_refl _, h1, .inl rfl, .inl (Nat.le_antisymm h1 (Nat.not_lt.mp h))⟩
theorem getD_mem : ∀ {l : List Nat} {i : Nat}, i < l.length → l.getD i 0 ∈ l
  | _ :: _, 0, _ => List.mem_cons_self
  | _ :: _, _ + 1, h => List.mem_cons_of_mem _ (getD_mem (Nat.lt_of_succ_lt_succ h))
section
variable {bt : Nat → Nat → Bool}
noncomputable def Ch (bt : Nat → Nat → Bool) : List Nat → Prop
  | a :: b :: r => bt a b = true ∧ Ch bt (b :: r)
  | _ => True
theorem ch_ins : ∀ {l : List Nat} {p x : Nat}, Ch bt l → p ≤ l.length → (p = 0 ∨ bt (l.getD (p - 1) 0) x = true) → (p = l.length ∨ bt x (l.getD p 0) = true) → Ch bt (insN l p x)
  | [], 0, _, _, _, _, _ => trivial
  | _ :: _, 0, _, h, _, _, hb => ⟨hb.elim (fun e => nomatch e) id, h⟩
  | [_], 1, _, _, _, ha, _ => ⟨ha.elim (fun e => nomatch e) id, trivial⟩
  | _ :: _ :: _, 1, _, h, _, ha, hb => ⟨ha.elim (fun e => nomatch e) id, hb.elim (fun e => nomatch e) id, h.2⟩
  | _ :: _ :: _, p + 2, _, h, hp, ha, hb => ⟨h.1, ch_ins (p := p + 1) h.2 (Nat.le_of_succ_le_succ hp) (.inr (ha.elim (fun e => nomatch e) id)) (hb.imp Nat.succ.inj id)⟩
theorem ch_bis (t : Tour bt) {l : List Nat} {x lo hi : Nat} {b : Nat → Bool} (h : Ch bt l) (hx : x ∈ abc5) (hl : ∀ d ∈ l, d ∈ abc5 ∧ d < x) (hb : ∀ i, i < l.length → b i = !bt x (l.getD i 0)) (h1 : lo ≤ hi) (h2 : hi ≤ l.length)
    (ha : lo = 0 ∨ bt (l.getD (lo - 1) 0) x = true) (hh : hi = l.length ∨ bt x (l.getD hi 0) = true) : Ch bt (insN l (bis b l.length lo hi) x) := by
  obtain ⟨-, a2, a3, a4⟩ := bis_at b l.length lo hi h1 (Nat.le_trans (Nat.sub_le _ _) h2)
  revert a2 a3 a4
  generalize bis b l.length lo hi = p
  intro a2 a3 a4
  refine ch_ins h (Nat.le_trans a2 h2) ?_ ?_
  · rcases a3 with rfl | a3
    · exact ha
    · cases p with
      | zero => exact .inl rfl
      | succ p =>
        have e : p < l.length := Nat.lt_of_lt_of_le a2 h2
        have k := hl _ (getD_mem e)
        exact .inr ((t.other x hx _ k.1 (Nat.ne_of_lt k.2)).trans ((hb p e).symm.trans a3))
  · rcases a4 with rfl | a4
    · exact hh
    · rcases Nat.lt_or_eq_of_le (Nat.le_trans a2 h2) with e | e
      · exact .inr (by simpa using (hb p e).symm.trans a4)
      · exact .inl e
theorem low_ok (bt : Nat → Nat → Bool) (l : List Nat) (c : Nat) : lowB bt l c ≤ l.length ∧ (lowB bt l c = 0 ∨ bt (l.getD (lowB bt l c - 1) 0) c = true) := by
  rw [lowB]
  cases e : lostB bt l c with
  | nil => exact ⟨Nat.zero_le _, .inl rfl⟩
  | cons k r =>
    have m := List.mem_filter.mp (show k ∈ lostB bt l c by rw [e]; exact List.mem_cons_self)
    exact ⟨List.mem_range.mp m.1, .inr m.2⟩
theorem high_ok (bt : Nat → Nat → Bool) (l : List Nat) (c : Nat) : lowB bt l c ≤ (highB bt l c).getD l.length ∧ (highB bt l c).getD l.length ≤ l.length ∧ ((highB bt l c).getD l.length = l.length ∨ bt c (l.getD ((highB bt l c).getD l.length) 0) = true) := by
  rw [highB]
  cases e : (wonB bt l c).getLast? with
  | none => exact ⟨(low_ok bt l c).1, Nat.le_refl _, .inl rfl⟩
  | some j =>
    have m := List.mem_filter.mp (List.mem_of_getLast? e)
    exact ⟨Nat.le_add_right _ _, Nat.le_of_lt (Nat.add_lt_of_lt_sub' (List.mem_range.mp m.1)), .inr m.2⟩
theorem bis_congr {b b' : Nat → Bool} {n : Nat} (h : ∀ i, i < n → b i = b' i) : ∀ k lo hi, hi ≤ n → bis b k lo hi = bis b' k lo hi
  | 0, _, _, _ => rfl
  | k + 1, lo, hi, hh => by
    rw [bis, bis]
    by_cases hl : lo < hi
    · have hm := (mid_lt hl).2
      rw [if_pos hl, if_pos hl, h _ (Nat.lt_of_lt_of_le hm hh), bis_congr h k _ _ hh, bis_congr h k _ _ (Nat.le_trans (Nat.le_of_lt hm) hh)]
    · rw [if_neg hl, if_neg hl]
noncomputable def RowOk (bt : Nat → Nat → Bool) (n : Nat) (l : List Nat) : Prop := Ch bt l ∧ l.length + 97 = n ∧ ∀ d ∈ l, d ∈ abc5 ∧ d < n
noncomputable def RowI (bt : Nat → Nat → Bool) (n : Nat) (t : List Nat × List Nat × List Nat) : Prop := t.2.2 = t.2.1 ∧ RowOk bt n t.1 ∧ RowOk bt n t.2.1
theorem row_step (t : Tour bt) {c lo hi : Nat} (hc : c ∈ abc5) {l : List Nat} (h : RowOk bt c l) (h1 : lo ≤ hi) (h2 : hi ≤ l.length) (ha : lo = 0 ∨ bt (l.getD (lo - 1) 0) c = true) (hh : hi = l.length ∨ bt c (l.getD hi 0) = true) :
    RowOk bt (c + 1) (insN l (bis (rwB bt c l) l.length lo hi) c) ∧ bis (rwB' bt c l) l.length lo hi = bis (rwB bt c l) l.length lo hi := by
  obtain ⟨a1, a2, a3⟩ := h
  have kw : ∀ i, i < l.length → rwB bt c l i = !bt c (l.getD i 0) := fun i hi => by
    rw [rwB, keyB, keyB, decide_eq_true rfl, decide_eq_false (Nat.ne_of_lt (a3 _ (getD_mem hi)).2), Bool.true_or, Bool.and_true, Bool.false_or]
  refine ⟨⟨ch_bis t a1 hc a3 kw h1 h2 ha hh, by rw [insN_len, ← a2, Nat.add_right_comm], fun d hd => ?_⟩, bis_congr (fun i hi => ?_) _ _ _ h2⟩
  · rcases List.mem_cons.mp ((insN_perm l _ c).mem_iff.mp hd) with rfl | h
    · exact ⟨hc, Nat.lt_succ_self _⟩
    · exact ⟨(a3 d h).1, Nat.lt_succ_of_lt (a3 d h).2⟩
  · rw [kw i hi, rwB', t.self c hc]; rfl
theorem rowI_step (t : Tour bt) {c : Nat} (hc : c ∈ abc5) : ∀ {u : List Nat × List Nat × List Nat}, RowI bt c u → RowI bt (c + 1) (stepB bt u c)
  | (_, u2, _), ⟨rfl, h1, h2⟩ => by
    obtain ⟨g1, g2, g3⟩ := high_ok bt u2 c
    have k := row_step t hc h2 g1 g2 (low_ok bt u2 c).2 g3
    exact ⟨congrArg (insN u2 · c) k.2, (row_step t hc h1 (Nat.zero_le _) (Nat.le_refl _) (.inl rfl) (.inl rfl)).1, k.1⟩
theorem ch_at : ∀ {l : List Nat} {k : Nat}, Ch bt l → k + 1 < l.length → bt (l.getD k 0) (l.getD (k + 1) 0) = true
  | _ :: _ :: _, 0, h, _ => h.1
  | _ :: b :: r, k + 1, h, hk => ch_at (l := b :: r) (k := k) h.2 (Nat.lt_of_succ_lt_succ hk)
theorem ch_five {l : List Nat} (h : Ch bt l) (e : l.length + 97 = 102) : chB bt l = true :=
  List.all_eq_true.mpr fun _ hi => ch_at h (Nat.lt_of_lt_of_eq (Nat.succ_lt_succ (List.mem_range.mp hi)) (Nat.add_right_cancel e).symm)
theorem p2_ok (t : Tour bt) : chB bt (rwsB bt abc5).1 = true ∧ chB bt (rwsB bt abc5).2.1 = true ∧ chB bt (rwsB bt abc5).2.2 = true := by
  have h0 : RowOk bt 97 [] := ⟨trivial, rfl, fun _ h => absurd h List.not_mem_nil⟩
  have h1 := rowI_step t (c := 97) (by decide) (u := ([], [], [])) ⟨rfl, h0, h0⟩
  have h2 := rowI_step t (c := 98) (by decide) h1
  have h3 := rowI_step t (c := 99) (by decide) h2
  have h4 := rowI_step t (c := 100) (by decide) h3
  have h5 := rowI_step t (c := 101) (by decide) h4
  simp only [rwsB, abc5, List.foldl_cons, List.foldl_nil]
  clear h1 h2 h3 h4
  revert h5
  generalize stepB bt _ 101 = u
  intro h5
  obtain ⟨e, a, b⟩ := h5
  rw [e]
  exact ⟨ch_five a.1 a.2.1, ch_five b.1 b.2.1, ch_five b.1 b.2.1⟩
end
noncomputable def wsum (f : Nat → Nat) : List Nat → Nat → Nat
  | [], _ => 0
  | x :: r, k => x * f k + wsum f r (k + 1)
theorem wsum_bump (f : Nat → Nat) : ∀ (n : Nat) (c : List Nat) (k : Nat), wsum f (bump c n) k = wsum f c k + f (k + n)
  | 0, [], k => by show 1 * f k + 0 = 0 + f k; omega
  | n + 1, [], k => by show 0 * f k + wsum f (bump [] n) (k + 1) = _; rw [wsum_bump f n [] (k + 1), Nat.zero_mul, Nat.add_right_comm k 1 n, Nat.zero_add]; rfl
  | 0, x :: r, k => by rw [bump, wsum, wsum, Nat.succ_mul]; show _ = _ + f k; omega
  | n + 1, x :: r, k => by rw [bump, wsum, wsum, wsum_bump f n r (k + 1), Nat.add_right_comm k 1 n, ← Nat.add_assoc]; rfl
theorem wsum_hist (f : Nat → Nat) : ∀ (l c : List Nat), wsum f (l.foldl bump c) 0 = wsum f c 0 + (l.map f).sum
  | [], _ => rfl
  | n :: l, c => by rw [List.foldl_cons, wsum_hist f l, wsum_bump, Nat.zero_add, List.map_cons, List.sum_cons, Nat.add_assoc]
theorem wsum_range (f : Nat → Nat) : ∀ (c : List Nat) (k : Nat), ((List.range c.length).map fun i => c.getD i 0 * f (k + i)).sum = wsum f c k
  | [], _ => rfl
  | x :: r, k => by
    rw [List.length_cons, List.range_succ_eq_map, List.map_cons, List.map_map, List.sum_cons, wsum, ← wsum_range f r (k + 1)]
    congr 3
    funext i
    show r.getD i 0 * f (k + (i + 1)) = _
    rw [Nat.add_right_comm k 1 i]; rfl
theorem wsum_one : ∀ (c : List Nat) (k : Nat), wsum (fun _ => 1) c k = c.sum
  | [], _ => rfl
  | x :: r, k => by rw [wsum, wsum_one r, List.sum_cons, Nat.mul_one]
theorem bump_len : ∀ (n : Nat) (c : List Nat), c.length ≤ (bump c n).length ∧ n < (bump c n).length ∧ ((bump c n).length = c.length ∨ (bump c n).length = n + 1)
  | 0, [] => ⟨Nat.zero_le _, Nat.zero_lt_one, .inr rfl⟩
  | n + 1, [] => by
    obtain ⟨-, h2, h3⟩ := bump_len n []
    exact ⟨Nat.zero_le _, Nat.succ_lt_succ h2, h3.elim (fun h => absurd h2 (by rw [h]; exact Nat.not_lt_zero n)) fun h => .inr (congrArg (· + 1) h)⟩
  | 0, x :: r => ⟨Nat.le_refl _, Nat.succ_pos _, .inl rfl⟩
  | n + 1, x :: r => by
    obtain ⟨h1, h2, h3⟩ := bump_len n r
    exact ⟨Nat.succ_le_succ h1, Nat.succ_lt_succ h2, h3.imp (congrArg (· + 1)) (congrArg (· + 1))⟩
theorem hist_len : ∀ (l c : List Nat), c.length ≤ (l.foldl bump c).length ∧ (∀ n ∈ l, n < (l.foldl bump c).length) ∧ ((l.foldl bump c).length = c.length ∨ ∃ n ∈ l, (l.foldl bump c).length = n + 1)
  | [], _ => ⟨Nat.le_refl _, fun _ h => absurd h List.not_mem_nil, .inl rfl⟩
  | m :: l, c => by
    obtain ⟨a1, a2, a3⟩ := bump_len m c
    obtain ⟨b1, b2, b3⟩ := hist_len l (bump c m)
    rw [List.foldl_cons]
    refine ⟨Nat.le_trans a1 b1, fun n hn => ?_, ?_⟩
    · rcases List.mem_cons.mp hn with rfl | hn
      · exact Nat.lt_of_lt_of_le a2 b1
      · exact b2 n hn
    · rcases b3 with b3 | ⟨n, hn, e⟩
      · rw [b3]
        exact a3.imp id fun e => ⟨m, List.mem_cons_self, e⟩
      · exact .inr ⟨n, List.mem_cons_of_mem _ hn, e⟩
theorem bump_at : ∀ (n : Nat) (c : List Nat) (m : Nat), (bump c n).getD m 0 = c.getD m 0 + if n = m then 1 else 0
  | 0, [], 0 => rfl
  | 0, [], m + 1 => rfl
  | n + 1, [], 0 => rfl
  | n + 1, [], m + 1 => by rw [bump, List.getD_cons_succ, bump_at n [] m]; simp
  | 0, x :: r, 0 => rfl
  | 0, x :: r, m + 1 => rfl
  | n + 1, x :: r, 0 => rfl
  | n + 1, x :: r, m + 1 => by rw [bump, List.getD_cons_succ, List.getD_cons_succ, bump_at n r m]; simp
theorem hist_at (m : Nat) : ∀ (l c : List Nat), (l.foldl bump c).getD m 0 = c.getD m 0 + l.count m
  | [], _ => rfl
  | n :: l, c => by
    rw [List.foldl_cons, hist_at m l, bump_at, List.count_cons]
    by_cases h : n = m <;> simp [h] <;> omega
theorem bump_comm : ∀ (m n : Nat) (c : List Nat), bump (bump c m) n = bump (bump c n) m
  | 0, 0, _ => rfl
  | 0, n + 1, [] => rfl
  | 0, n + 1, x :: r => rfl
  | m + 1, 0, [] => rfl
  | m + 1, 0, x :: r => rfl
  | m + 1, n + 1, [] => congrArg (0 :: ·) (bump_comm m n [])
  | m + 1, n + 1, x :: r => congrArg (x :: ·) (bump_comm m n r)
theorem hist_perm {l l' : List Nat} (h : l.Perm l') : hist l = hist l' := h.foldl_eq' (fun x _ y _ z => bump_comm x y z) _
theorem sum_lt {f g : Nat → Nat} {a : Nat} : ∀ {l : List Nat}, (∀ d ∈ l, f d ≤ g d) → a ∈ l → f a < g a → (l.map f).sum < (l.map g).sum
  | x :: r, h, ha, hl => by
    rw [List.map_cons, List.map_cons, List.sum_cons, List.sum_cons]
    have hx := h x List.mem_cons_self
    have hr : (r.map f).sum ≤ (r.map g).sum := List.rec (motive := fun r => (∀ d ∈ r, f d ≤ g d) → (r.map f).sum ≤ (r.map g).sum) (fun _ => Nat.le_refl _) (fun y r ih h => by
      rw [List.map_cons, List.map_cons, List.sum_cons, List.sum_cons]
      exact Nat.add_le_add (h y List.mem_cons_self) (ih fun d hd => h d (List.mem_cons_of_mem _ hd))) r fun d hd => h d (List.mem_cons_of_mem _ hd)
    rcases List.mem_cons.mp ha with rfl | ha
    · exact Nat.add_lt_add_of_lt_of_le hl hr
    · exact Nat.add_lt_add_of_le_of_lt hx (sum_lt (fun d hd => h d (List.mem_cons_of_mem _ hd)) ha hl)
theorem filt_sum (f : Nat → Bool) : ∀ l : List Nat, (l.filter f).length = (l.map fun d => (f d).toNat).sum
  | [] => rfl
  | a :: r => by
    rw [List.filter_cons, List.map_cons, List.sum_cons, ← filt_sum f r]
    cases f a <;> simp [Nat.add_comm]
section
variable {bt : Nat → Nat → Bool}
theorem sc_lt (t : Tour bt) {c : Nat} (hc : c ∈ abc5) : scB bt c < 5 := by
  rw [scB, filt_sum]
  refine sum_lt (f := fun d => (bt c d).toNat) (g := fun _ => 1) (fun d _ => Bool.toNat_le _) hc ?_
  rw [t.self c hc]; decide
theorem king (t : Tour bt) {a b : Nat} (ha : a ∈ abc5) (hb : b ∈ abc5) (hba : bt b a = true) (hm : scB bt b ≤ scB bt a) : ∃ d ∈ abc5, (bt a d && bt d b) = true := by
  refine Classical.byContradiction fun hn => absurd hm (Nat.not_le.mpr ?_)
  rw [scB, scB, filt_sum, filt_sum]
  refine sum_lt (f := fun d => (bt a d).toNat) (g := fun d => (bt b d).toNat) (fun d hd => ?_) ha (by rw [t.self a ha, hba]; decide)
  cases e : bt a d with
  | false => exact Nat.zero_le _
  | true =>
    have h1 : bt d b ≠ true := fun h => hn ⟨d, hd, by rw [e, h]; rfl⟩
    have h2 : b ≠ d := by
      rintro rfl
      have := t.other a ha b hb (by rintro rfl; rw [t.self _ ha] at hba; cases hba)
      rw [hba, e] at this
      cases this
    rw [t.other d hd b hb h2, Bool.eq_false_iff.mpr h1]
    decide
theorem runs_perm : ∀ a ∈ abc5, ∀ b ∈ abc5, a ≠ b → (abc5.filter (fun d => d == a || d == b)).Perm [a, b] := by
  decide
theorem turn_fair (t : Tour bt) {a b : Nat} (ha : a ∈ abc5) (hb : b ∈ abc5) (h : bt a b = true) : 1 ≤ scB bt a ∧ decide (hist (abc5.map (scB bt)) = hist (runsB bt a b)) = decide (scB bt a = scB bt b + 1) := by
  have hab : a ≠ b := by
    rintro rfl
    rw [t.self a ha] at h; cases h
  have h1 : 1 ≤ scB bt a := List.length_pos_of_mem (List.mem_filter.mpr ⟨hb, h⟩)
  have pm : (abc5.map (scB bt)).Perm ((abc5.filter fun d => !(d == a || d == b)).map (scB bt) ++ [scB bt a, scB bt b]) := by
    refine (((List.filter_append_perm (fun d => d == a || d == b) abc5).symm.trans List.perm_append_comm).map (scB bt)).trans ?_
    rw [List.map_append]
    exact ((runs_perm a ha b hb hab).map _).append_left _
  refine ⟨h1, ?_⟩
  rw [hist_perm pm, runsB]
  generalize (abc5.filter fun d => !(d == a || d == b)).map (scB bt) = R
  generalize scB bt a = x at *
  generalize scB bt b = y at *
  by_cases e : x = y + 1
  · rw [decide_eq_true e, hist_perm (l := R ++ [x - 1, y + 1]) (l' := R ++ [x, y])]
    · exact decide_eq_true rfl
    rw [e, Nat.add_sub_cancel]
    exact (List.Perm.swap _ _ _).append_left R
  · rw [decide_eq_false e]
    refine decide_eq_false fun hh => ?_
    have k := congrArg (List.getD · x 0) hh
    rw [hist, hist] at k
    simp only [hist_at, List.count_append, List.count_cons, List.count_nil] at k
    have e1 : (x - 1 == x) = false := by simp; omega
    have e2 : (y + 1 == x) = false := by simpa using fun q => e q.symm
    simp only [beq_self_eq_true, if_true, e1, e2] at k
    simp at k
end
noncomputable def kk (b : Bool) (n : Nat) : Nat := bif b then n else 0
noncomputable def jj (b : Bool) (n : Nat) : Nat := bif !b then n else 0
noncomputable def tri (n : Nat) : Nat := n * (n - 1) / 2
section
variable (b0 b1 b2 b3 b4 b5 b6 b7 b8 b9 : Bool)
noncomputable def ev0 : Nat := kk b0 (kk b4 (kk b7 (kk b9 1) + kk b8 (jj b9 1)) + (kk b5 (jj b7 (kk b8 1) + kk b9 (jj b8 1)) + (kk b6 (jj b8 (kk b7 1) + jj b9 (jj b7 1))))) + (kk b1 (jj b4 (kk b5 (kk b9 1) + kk b6 (jj b9 1)) + (kk b7 (jj b5 (kk b6 1) + kk b9 (jj b6 1)) + (kk b8 (jj b6 (kk b5 1) + jj b9 (jj b5 1))))) + (kk b2 (jj b5 (kk b4 (kk b8 1) + kk b6 (jj b8 1)) + (jj b7 (jj b4 (kk b6 1) + kk b8 (jj b6 1)) + (kk b9 (jj b6 (kk b4 1) + jj b8 (jj b4 1))))) + (kk b3 (jj b6 (kk b4 (kk b7 1) + kk b5 (jj b7 1)) + (jj b8 (jj b4 (kk b5 1) + kk b7 (jj b5 1)) + (jj b9 (jj b5 (kk b4 1) + jj b7 (jj b4 1))))))))
noncomputable def ev1 : Nat := jj b0 (kk b1 (kk b7 (kk b9 1) + kk b8 (jj b9 1)) + (kk b2 (jj b7 (kk b8 1) + kk b9 (jj b8 1)) + (kk b3 (jj b8 (kk b7 1) + jj b9 (jj b7 1))))) + (kk b4 (jj b1 (kk b2 (kk b9 1) + kk b3 (jj b9 1)) + (kk b7 (jj b2 (kk b3 1) + kk b9 (jj b3 1)) + (kk b8 (jj b3 (kk b2 1) + jj b9 (jj b2 1))))) + (kk b5 (jj b2 (kk b1 (kk b8 1) + kk b3 (jj b8 1)) + (jj b7 (jj b1 (kk b3 1) + kk b8 (jj b3 1)) + (kk b9 (jj b3 (kk b1 1) + jj b8 (jj b1 1))))) + (kk b6 (jj b3 (kk b1 (kk b7 1) + kk b2 (jj b7 1)) + (jj b8 (jj b1 (kk b2 1) + kk b7 (jj b2 1)) + (jj b9 (jj b2 (kk b1 1) + jj b7 (jj b1 1))))))))
noncomputable def ev2 : Nat := jj b1 (kk b0 (kk b5 (kk b9 1) + kk b6 (jj b9 1)) + (kk b2 (jj b5 (kk b6 1) + kk b9 (jj b6 1)) + (kk b3 (jj b6 (kk b5 1) + jj b9 (jj b5 1))))) + (jj b4 (jj b0 (kk b2 (kk b9 1) + kk b3 (jj b9 1)) + (kk b5 (jj b2 (kk b3 1) + kk b9 (jj b3 1)) + (kk b6 (jj b3 (kk b2 1) + jj b9 (jj b2 1))))) + (kk b7 (jj b2 (kk b0 (kk b6 1) + kk b3 (jj b6 1)) + (jj b5 (jj b0 (kk b3 1) + kk b6 (jj b3 1)) + (kk b9 (jj b3 (kk b0 1) + jj b6 (jj b0 1))))) + (kk b8 (jj b3 (kk b0 (kk b5 1) + kk b2 (jj b5 1)) + (jj b6 (jj b0 (kk b2 1) + kk b5 (jj b2 1)) + (jj b9 (jj b2 (kk b0 1) + jj b5 (jj b0 1))))))))
noncomputable def ev3 : Nat := jj b2 (kk b0 (kk b4 (kk b8 1) + kk b6 (jj b8 1)) + (kk b1 (jj b4 (kk b6 1) + kk b8 (jj b6 1)) + (kk b3 (jj b6 (kk b4 1) + jj b8 (jj b4 1))))) + (jj b5 (jj b0 (kk b1 (kk b8 1) + kk b3 (jj b8 1)) + (kk b4 (jj b1 (kk b3 1) + kk b8 (jj b3 1)) + (kk b6 (jj b3 (kk b1 1) + jj b8 (jj b1 1))))) + (jj b7 (jj b1 (kk b0 (kk b6 1) + kk b3 (jj b6 1)) + (jj b4 (jj b0 (kk b3 1) + kk b6 (jj b3 1)) + (kk b8 (jj b3 (kk b0 1) + jj b6 (jj b0 1))))) + (kk b9 (jj b3 (kk b0 (kk b4 1) + kk b1 (jj b4 1)) + (jj b6 (jj b0 (kk b1 1) + kk b4 (jj b1 1)) + (jj b8 (jj b1 (kk b0 1) + jj b4 (jj b0 1))))))))
noncomputable def ev4 : Nat := jj b3 (kk b0 (kk b4 (kk b7 1) + kk b5 (jj b7 1)) + (kk b1 (jj b4 (kk b5 1) + kk b7 (jj b5 1)) + (kk b2 (jj b5 (kk b4 1) + jj b7 (jj b4 1))))) + (jj b6 (jj b0 (kk b1 (kk b7 1) + kk b2 (jj b7 1)) + (kk b4 (jj b1 (kk b2 1) + kk b7 (jj b2 1)) + (kk b5 (jj b2 (kk b1 1) + jj b7 (jj b1 1))))) + (jj b8 (jj b1 (kk b0 (kk b5 1) + kk b2 (jj b5 1)) + (jj b4 (jj b0 (kk b2 1) + kk b5 (jj b2 1)) + (kk b7 (jj b2 (kk b0 1) + jj b5 (jj b0 1))))) + (jj b9 (jj b2 (kk b0 (kk b4 1) + kk b1 (jj b4 1)) + (jj b5 (jj b0 (kk b1 1) + kk b4 (jj b1 1)) + (jj b7 (jj b1 (kk b0 1) + jj b4 (jj b0 1))))))))
noncomputable def ev5 : Nat := kk b0 (kk b4 (kk b7 (kk b9 (jj b3 1)) + kk b8 (jj b9 (jj b2 1))) + (kk b5 (jj b7 (kk b8 (jj b3 1)) + kk b9 (jj b8 (jj b1 1))) + (kk b6 (jj b8 (kk b7 (jj b2 1)) + jj b9 (jj b7 (jj b1 1)))))) + (kk b1 (jj b4 (kk b5 (kk b9 (jj b3 1)) + kk b6 (jj b9 (jj b2 1))) + (kk b7 (jj b5 (kk b6 (jj b3 1)) + kk b9 (jj b6 (jj b0 1))) + (kk b8 (jj b6 (kk b5 (jj b2 1)) + jj b9 (jj b5 (jj b0 1)))))) + (kk b2 (jj b5 (kk b4 (kk b8 (jj b3 1)) + kk b6 (jj b8 (jj b1 1))) + (jj b7 (jj b4 (kk b6 (jj b3 1)) + kk b8 (jj b6 (jj b0 1))) + (kk b9 (jj b6 (kk b4 (jj b1 1)) + jj b8 (jj b4 (jj b0 1)))))) + (kk b3 (jj b6 (kk b4 (kk b7 (jj b2 1)) + kk b5 (jj b7 (jj b1 1))) + (jj b8 (jj b4 (kk b5 (jj b2 1)) + kk b7 (jj b5 (jj b0 1))) + (jj b9 (jj b5 (kk b4 (jj b1 1)) + jj b7 (jj b4 (jj b0 1)))))))))
noncomputable def trs : Nat := tri (0 + (kk b0 1 + (kk b1 1 + (kk b2 1 + (kk b3 1 + 0))))) + (tri (jj b0 1 + (0 + (kk b4 1 + (kk b5 1 + (kk b6 1 + 0))))) + (tri (jj b1 1 + (jj b4 1 + (0 + (kk b7 1 + (kk b8 1 + 0))))) + (tri (jj b2 1 + (jj b5 1 + (jj b7 1 + (0 + (kk b9 1 + 0))))) + (tri (jj b3 1 + (jj b6 1 + (jj b8 1 + (jj b9 1 + (0 + 0))))) + 0))))
noncomputable def sms : Nat := (0 + (kk b0 1 + (kk b1 1 + (kk b2 1 + (kk b3 1 + 0))))) + ((jj b0 1 + (0 + (kk b4 1 + (kk b5 1 + (kk b6 1 + 0))))) + ((jj b1 1 + (jj b4 1 + (0 + (kk b7 1 + (kk b8 1 + 0))))) + ((jj b2 1 + (jj b5 1 + (jj b7 1 + (0 + (kk b9 1 + 0))))) + ((jj b3 1 + (jj b6 1 + (jj b8 1 + (jj b9 1 + (0 + 0))))) + 0))))
noncomputable def chk : Bool := Nat.beq (sms b0 b1 b2 b3 b4 b5 b6 b7 b8 b9) 10 && Nat.beq (ev0 b0 b1 b2 b3 b4 b5 b6 b7 b8 b9 + (ev1 b0 b1 b2 b3 b4 b5 b6 b7 b8 b9 + (ev2 b0 b1 b2 b3 b4 b5 b6 b7 b8 b9 + (ev3 b0 b1 b2 b3 b4 b5 b6 b7 b8 b9 + (ev4 b0 b1 b2 b3 b4 b5 b6 b7 b8 b9 + 0)))) + 2 * trs b0 b1 b2 b3 b4 b5 b6 b7 b8 b9) (21 + 2 * ev5 b0 b1 b2 b3 b4 b5 b6 b7 b8 b9)
end
theorem q_all : (allB fun b0 => allB fun b1 => allB fun b2 => allB fun b3 => allB fun b4 => allB fun b5 => allB fun b6 => allB fun b7 => allB fun b8 => allB fun b9 => chk b0 b1 b2 b3 b4 b5 b6 b7 b8 b9) = true := by decide +kernel
theorem allB_at {f : Bool → Bool} (h : allB f = true) (b : Bool) : f b = true := by
  rw [allB, Bool.and_eq_true] at h
  cases b
  · exact h.1
  · exact h.2
noncomputable def addUp (f : Nat → Nat) : List Nat → Nat
  | [] => 0
  | c :: r => f c + addUp f r
theorem addUp_eq (f : Nat → Nat) : ∀ l : List Nat, (l.map f).sum = addUp f l
  | [] => rfl
  | c :: r => by rw [List.map_cons, List.sum_cons, addUp_eq f r]; rfl
noncomputable def cntF (bt : Nat → Nat → Bool) (g : Nat → Bool) : Nat → Nat → List Nat → Nat
  | 0, last, _ => bif g last then 1 else 0
  | k + 1, last, rest => match rest with
    | [] => bif g last then 1 else 0
    | x :: r => addUp (fun c => bif bt last c then cntF bt g k c ((x :: r).filter (· != c)) else 0) (x :: r)
theorem one_filt (g : Nat → Bool) (a : Nat) : ([a].filter g).length = bif g a then 1 else 0 := by
  rw [List.filter_cons]; cases g a <;> rfl
theorem cnt_eq (bt : Nat → Nat → Bool) (g : Nat → Bool) : ∀ (k last : Nat) (rest : List Nat), ((endsPB bt k last rest).filter g).length = cntF bt g k last rest
  | 0, last, _ => one_filt g last
  | k + 1, last, [] => one_filt g last
  | k + 1, last, x :: r => by
    rw [endsPB, if_neg (List.cons_ne_nil _ _), cntF, List.filter_flatMap, List.length_flatMap, addUp_eq]
    congr 1
    funext c
    cases bt last c with
    | true => rw [if_pos rfl, cond_true, cnt_eq bt g k]
    | false => rw [if_neg Bool.false_ne_true, cond_false]; rfl
noncomputable def pairs5 : List (Nat × Nat) := (gamesL false false false false false false false false false false).map (·.2)
theorem len_all (l : List Nat) : l.length = (l.filter fun _ => true).length := by rw [List.filter_eq_self.mpr fun _ _ => rfl]
theorem sc_add (bt : Nat → Nat → Bool) : scB bt = fun c => addUp (fun d => (bt c d).toNat) abc5 := funext fun c => by rw [scB, filt_sum, addUp_eq]
section
variable {b0 b1 b2 b3 b4 b5 b6 b7 b8 b9 : Bool} {bt : Nat → Nat → Bool} (h : bt = lookG (gamesL b0 b1 b2 b3 b4 b5 b6 b7 b8 b9))
include h
theorem gs_ok : (abc5.map (scB bt)).sum = 10 ∧ everyB bt + 2 * threesN (hist (abc5.map (scB bt))) = 21 + 2 * fivesB bt := by
  have e0 : (abc5.map (scB bt)).sum = sms b0 b1 b2 b3 b4 b5 b6 b7 b8 b9 := by
    rw [sc_add, h]; kernel_rfl
  have e1 : everyB bt = ev0 b0 b1 b2 b3 b4 b5 b6 b7 b8 b9 + (ev1 b0 b1 b2 b3 b4 b5 b6 b7 b8 b9 + (ev2 b0 b1 b2 b3 b4 b5 b6 b7 b8 b9 + (ev3 b0 b1 b2 b3 b4 b5 b6 b7 b8 b9 + (ev4 b0 b1 b2 b3 b4 b5 b6 b7 b8 b9 + 0)))) := by
    rw [everyB]
    simp only [len_all (endsPB _ _ _ _), cnt_eq]
    rw [h]; kernel_rfl
  have e2 : fivesB bt = ev5 b0 b1 b2 b3 b4 b5 b6 b7 b8 b9 := by
    rw [fivesB, cnt_eq, h]; kernel_rfl
  have e3 : threesN (hist (abc5.map (scB bt))) = trs b0 b1 b2 b3 b4 b5 b6 b7 b8 b9 := by
    have k := wsum_range tri (hist (abc5.map (scB bt))) 0
    simp only [Nat.zero_add] at k
    refine Eq.trans k ?_
    rw [hist, wsum_hist, show wsum tri [] 0 = 0 from rfl, Nat.zero_add, List.map_map, sc_add, h]; kernel_rfl
  rw [e0, e1, e2, e3]
  obtain ⟨k1, k2⟩ := Bool.and_eq_true_iff.mp (allB_at (allB_at (allB_at (allB_at (allB_at (allB_at (allB_at (allB_at (allB_at (allB_at q_all b0) b1) b2) b3) b4) b5) b6) b7) b8) b9)
  exact ⟨Nat.eq_of_beq_eq_true k1, Nat.eq_of_beq_eq_true k2⟩
theorem tour_of : Tour bt := by
  rw [h]
  have k : (abc5.all fun c => !lookG (gamesL b0 b1 b2 b3 b4 b5 b6 b7 b8 b9) c c) = true := by kernel_rfl
  have m : (gamesL b0 b1 b2 b3 b4 b5 b6 b7 b8 b9).map (fun p => lookG (gamesL b0 b1 b2 b3 b4 b5 b6 b7 b8 b9) p.2.2 p.2.1) = (gamesL b0 b1 b2 b3 b4 b5 b6 b7 b8 b9).map fun p => !lookG (gamesL b0 b1 b2 b3 b4 b5 b6 b7 b8 b9) p.2.1 p.2.2 := by kernel_rfl
  have hs : ∀ c ∈ abc5, ∀ d ∈ abc5, d ≠ c → (c, d) ∈ pairs5 ∨ (d, c) ∈ pairs5 := by decide
  have z : ∀ p ∈ pairs5, lookG (gamesL b0 b1 b2 b3 b4 b5 b6 b7 b8 b9) p.2 p.1 = !lookG (gamesL b0 b1 b2 b3 b4 b5 b6 b7 b8 b9) p.1 p.2 := fun p hp => by
    obtain ⟨g, hg, rfl⟩ := List.mem_map.mp (show p ∈ (gamesL b0 b1 b2 b3 b4 b5 b6 b7 b8 b9).map (·.2) from hp)
    exact List.map_inj_left.mp m g hg
  refine ⟨fun c hc => (Bool.not_eq_true' _).mp (List.all_eq_true.mp k c hc), fun c hc d hd hn => ?_⟩
  rcases hs c hc d hd hn with e | e
  · exact z _ e
  · rw [z _ e, Bool.not_not]
end
theorem ten_of {bs : List Bool} (h : bs.length = 10) : ∃ b0 b1 b2 b3 b4 b5 b6 b7 b8 b9, bs = [b0, b1, b2, b3, b4, b5, b6, b7, b8, b9] := by
  match bs, h with
  | [b0, b1, b2, b3, b4, b5, b6, b7, b8, b9], _ => exact ⟨b0, b1, b2, b3, b4, b5, b6, b7, b8, b9, rfl⟩
theorem ends_b (wt : List Str) : ∀ (k last : Nat) (rest : List Nat), endsP wt k last rest = endsPB (beats wt) k last rest
  | 0, _, _ => rfl
  | k + 1, last, rest => by
    rw [endsP, endsPB]
    by_cases h : rest = []
    · rw [if_pos h, if_pos h]
    · rw [if_neg h, if_neg h]
      congr 1
      funext c
      rw [ends_b wt k]
theorem sum_cast {α : Type} (f : α → Nat) : ∀ l : List α, (l.map fun x => ((f x : Nat) : Int)).sum = ((l.map f).sum : Nat)
  | [] => rfl
  | a :: r => by rw [List.map_cons, List.map_cons, List.sum_cons, List.sum_cons, sum_cast f r]; omega
theorem tri_cast (i : Nat) : ((((i : Nat) : Int) * (((i : Nat) : Int) - 1)).fdiv 2) = ((i * (i - 1) / 2 : Nat) : Int) := by
  cases i with
  | zero => rfl
  | succ n =>
    have e : (((n + 1 : Nat) : Int) * (((n + 1 : Nat) : Int) - 1)) = (((n + 1) * n : Nat) : Int) := by
      rw [Int.natCast_mul]
      congr 1
      omega
    rw [e, Int.fdiv_eq_ediv_of_nonneg _ (by decide), Nat.add_sub_cancel]
    rfl
theorem threes_cast (cs : List Nat) : threesV cs = 10 - (threesN cs : Nat) := by
  have e : ((List.range cs.length).map fun i => (cs.getD i 0 : Int) * ((((i : Nat) : Int) * (((i : Nat) : Int) - 1)).fdiv 2)) = (List.range cs.length).map fun i => ((cs.getD i 0 * (i * (i - 1) / 2) : Nat) : Int) :=
    List.map_congr_left fun i _ => by rw [tri_cast, ← Int.natCast_mul]
  rw [threesV, e, sum_cast]
  rfl
theorem sizes_cast (cs : List Nat) : sizesV cs = ((List.range cs.length).map fun i => i * cs.getD i 0).sum := by
  have e : ((List.range cs.length).map fun i => ((i : Nat) : Int) * (cs.getD i 0 : Int)) = (List.range cs.length).map fun i => ((i * cs.getD i 0 : Nat) : Int) :=
    List.map_congr_left fun i _ => by rw [← Int.natCast_mul]
  rw [sizesV, e, sum_cast]
theorem every_cast (wt : List Str) : everyV wt = (everyB (beats wt) : Nat) := by
  rw [everyV, sum_cast, everyB]
  simp only [ends_b]
theorem fives_cast (wt : List Str) : fivesV wt = (fivesB (beats wt) : Nat) := by
  rw [fivesV, fivesB, ends_b]
end
section
set_option maxRecDepth 100000
structure LawP (wt : List Str) (cs : List Nat) : Prop where
  sum : (abc5.map (scoreOf wt)).sum = 10
  rows : chain wt (rowsP wt abc5).1 = true ∧ chain wt (rowsP wt abc5).2.1 = true ∧ chain wt (rowsP wt abc5).2.2 = true
  sides : ∀ c ∈ abc5, sidesOk wt c
  byw : ∀ c ∈ abc5, byOk wt c
  lead : wsP (leadL wt) = (15, 5, cs, 0)
  len1 : 1 ≤ cs.length
  len5 : cs.length ≤ 5
  small : SmallL cs
  five : (cs.map fun q : Nat => (q : Int)).sum = 5
  ten : sizesV cs = 10
  every : everyV wt = 1 + 2 * (threesV cs + fivesV wt)
  most : (abc5.filter fun c => decide (scoreOf wt c = cs.length - 1)) ≠ []
  kings : kingsOk wt (cs.length - 1)
  turns : turnsOk wt cs
theorem tp_mem {b : Bool} {x y : Nat} {z : Str} (hx : x ∈ abc5) (hy : y ∈ abc5) (h : z = tp b x y) : ∃ c d, z = (⟨#[c, d]⟩ : Str) ∧ c ∈ abc5 ∧ d ∈ abc5 := by
  cases b
  · exact ⟨y, x, h, hy, hx⟩
  · exact ⟨x, y, h, hx, hy⟩
theorem score_b (wt : List Str) : scoreOf wt = scB (beats wt) := rfl
theorem step_b (wt : List Str) : rowStep wt = stepB (beats wt) := rfl
theorem rows_b (wt : List Str) : rowsP wt = rwsB (beats wt) := by
  funext cs
  rw [rowsP, rwsB, step_b]
theorem chain_b (wt : List Str) : chain wt = chB (beats wt) := rfl
theorem cast_gs {e t f : Nat} (h : e + 2 * t = 21 + 2 * f) : (e : Int) = 1 + 2 * ((10 - (t : Int)) + (f : Int)) := by omega
theorem lawP_of {bs : List Bool} (h : bs.length = 10) : ∃ cs, LawP (winsOf bs) cs := by
  obtain ⟨b0, b1, b2, b3, b4, b5, b6, b7, b8, b9, rfl⟩ := ten_of h
  clear h
  have hm : ∀ x ∈ winsOf [b0, b1, b2, b3, b4, b5, b6, b7, b8, b9], ∃ c d, x = (⟨#[c, d]⟩ : Str) ∧ c ∈ abc5 ∧ d ∈ abc5 := by
    rw [wins_tp]
    intro x hx
    simp only [List.mem_cons, List.not_mem_nil, or_false] at hx
    rcases hx with h | h | h | h | h | h | h | h | h | h <;> exact tp_mem (by decide) (by decide) h
  have hF := beats_lk b0 b1 b2 b3 b4 b5 b6 b7 b8 b9
  generalize winsOf [b0, b1, b2, b3, b4, b5, b6, b7, b8, b9] = wt at *
  have t : Tour (beats wt) := tour_of hF
  obtain ⟨h1, gs⟩ := gs_ok hF
  clear hF
  replace h1 : (abc5.map (scoreOf wt)).sum = 10 := h1
  have h5 : (abc5.map (scoreOf wt)).length = 5 := rfl
  have hs : ∀ c ∈ abc5, scoreOf wt c < 5 := fun c hc => sc_lt t hc
  obtain ⟨-, l2, l3⟩ := hist_len (abc5.map (scoreOf wt)) []
  replace l2 : ∀ c ∈ abc5, scoreOf wt c < (hist (abc5.map (scoreOf wt))).length := fun c hc => l2 _ (List.mem_map_of_mem hc)
  have l4 : ∃ c ∈ abc5, (hist (abc5.map (scoreOf wt))).length = scoreOf wt c + 1 := by
    rcases l3 with l3 | ⟨n, hn, e⟩
    · exact absurd (l2 97 (by decide)) (by rw [hist, l3]; exact Nat.not_lt_zero _)
    · obtain ⟨c, hc, rfl⟩ := List.mem_map.mp hn
      exact ⟨c, hc, e⟩
  refine ⟨hist (abc5.map (scoreOf wt)), h1, by rw [rows_b, chain_b]; exact p2_ok t, fun c hc => sides_ok hc (t.self c hc), fun c hc => by_ok hc t.self, ?_, Nat.lt_of_le_of_lt (Nat.zero_le _) (l2 97 (by decide)), ?_, ?_, ?_, ?_, ?_, ?_, ?_, ?_⟩
  · rw [leadL, wsP_runs, h1, h5]
  · obtain ⟨c, hc, e⟩ := l4
    rw [e]; exact hs c hc
  · intro k
    rw [hist, hist_at]
    refine Nat.le_trans (Nat.le_of_eq (Nat.zero_add _)) (Nat.le_trans List.count_le_length ?_)
    rw [h5]; decide
  · rw [sum_cast (fun q : Nat => q), List.map_id', ← wsum_one _ 0, hist, wsum_hist]; rfl
  · have k := wsum_range (fun i => i) (hist (abc5.map (scoreOf wt))) 0
    simp only [Nat.zero_add] at k
    simp only [sizes_cast, Nat.mul_comm _ (List.getD _ _ _)]
    rw [k, hist, wsum_hist, List.map_id', h1]; rfl
  · rw [every_cast, threes_cast, fives_cast]
    exact cast_gs gs
  · intro e
    obtain ⟨c, hc, hz⟩ := l4
    have k := List.filter_eq_nil_iff.mp e c hc
    exact k (decide_eq_true (Nat.sub_eq_of_eq_add hz).symm)
  · intro a ha b hb hba hsa e
    obtain ⟨d, hd, hd2⟩ := king t ha hb hba (Nat.le_trans (Nat.le_sub_one_of_lt (l2 b hb)) (Nat.le_of_eq hsa.symm))
    exact absurd (List.mem_filter.mpr ⟨hd, hd2⟩) (by rw [e]; exact List.not_mem_nil)
  · intro x hx
    obtain ⟨a, b, rfl, ha, hb⟩ := hm x hx
    obtain ⟨k1, k2⟩ := turn_fair t ha hb (List.any_eq_true.mpr ⟨_, hx, by simp⟩)
    exact ⟨a, b, _, _, _, rfl, ha, hb, k1, wsP_runs _, k2⟩
end
end
end
section
set_option maxRecDepth 100000
section
variable {w : World} {p : Program} {loose : List Str} {mean : ExcName → Option Value} {mg mb : Str → Option Value} {ad au : Nat} {af : Option (List Env)} {ag : Option (List Code)} {g' : Heap} {L' : Addr} {s : Shared} {Q : Flow → Shared → Prop}
  {oW oS oN oB oR oC oM oG : Obj} {r : List (Addr × Obj)} {sc pg fi se wh fa re le be th ev fv la ru tu du : Option Value}
set_option maxHeartbeats 1000000 in
theorem chainL {W S : Addr} {wv : List Value} {n : Nat} {wt : List Str} {cs : List Nat} {oD : Obj} {vN vR vG : Option Value} (P : LawP wt cs)
    (F : Fr g' L' s.heap (lawM sc pg fi se wh fa re le be th ev fv la ru tu du)) (X : (KK w.params).In g') (N : News g' L' s.heap ((205, tabObj #[]) :: (210, tabObj #[]) :: lawC L' oW oS oN oB oR oC oM oG r)) (T : Top p loose mean mg mb g') (hd : ad + 160 < recursionLimit) (hu : au + 1000 < cLine)
    (hwv : StrsAre wv wt) (hwl : wv.length < 1000) (dW : oW.data = .cell (some (.ref W))) (hW : (W, lst wv n) ∈ r) (dS : oS.data = .cell (some (.ref S))) (hS : (S, oD) ∈ r) (hD : DictSI w oD (scP wt abc5)) (hlo : (S == sysModules) = false)
    (dN : oN.data = .cell vN) (dR : oR.data = .cell vR) (dC : oC.data = .cell none) (dM : oM.data = .cell none) (dG : oG.data = .cell vG) (offr : ∀ k, @LT.lt Nat _ L' k → @LE.le Nat _ k (L' + 1 + 1 + 1 + 1 + 1 + 1 + 1 + 1) → Off k r) (off5 : Off 205 r) (off0 : Off 210 r) (hL : @LT.lt Nat _ 210 L')
    (ret : ∀ h' tk m' news ps qs, Fr g' L' h' m' → News g' L' h' ((205, tabObj ps) :: (210, tabObj qs) :: news) → Q (.ret (.bool true)) { s with heap := h', toks := tk }) :
    wpAny (model PG w) ⟨none, ad, af, ag, au⟩ (execs (lawB.drop 5) (lawEnv L')) Q NoE s := by
  have e : lawB.drop 5 = [lawSt 5, lawSt 6, lawSt 7, lawSt 8, lawSt 9, lawSt 10, lawSt 11, lawSt 12, lawSt 13, lawSt 14, lawSt 15, lawSt 16, lawSt 17, lawSt 18, lawSt 19, lawSt 20, lawSt 21] := rfl
  rw [e]
  walk_at "seal24"
  have hL5 : @LT.lt Nat _ 205 L' := Nat.lt_trans (by decide) hL
  have N5 := News.sub N (b := (205, tabObj #[]) :: lawC L' oW oS oN oB oR oC oM oG ((210, tabObj #[]) :: r)) (by walk_at "sub")
  have oR5 := offr (L' + 1 + 1 + 1 + 1 + 1) (by omega) (by omega)
  refine wpAny_execs_cons (law5 rfl F X N5 T hd hu hwv dW (List.mem_cons_of_mem _ hW) dR (by walk_at "my off") (off_cons.mpr ⟨by show (210 : Nat) ≠ 205; decide, off5⟩) hL5 P.rows ?_)
  rintro h5 tk5 oR' ps xs ⟨vR', dR'⟩ hxs F5 N5'
  dsimp only
  have x210 := hxs 210 (tabObj #[]) (by walk_at "my mem")
  have xN := hxs (L' + 1 + 1 + 1) oN (by walk_at "my mem")
  obtain ⟨r1, hr1⟩ : ∃ l, l = (205, tabObj ps) :: (xs ++ r) := ⟨_, rfl⟩
  have N6 : News g' L' h5 ((210, tabObj #[]) :: lawC L' oW oS oN oB oR' oC oM oG r1) := News.sub N5' (by rw [hr1]; walk_at "sub")
  have hr1r : ∀ q ∈ r, q ∈ r1 := fun q hq => by rw [hr1]; walk_at "my mem"
  have hxall : ∀ k, @LT.lt Nat _ L' k → @LE.le Nat _ k (L' + 1 + 1 + 1 + 1 + 1 + 1 + 1 + 1) → Off k r1 := fun k h1 h2 => by
    have xG := hxs (L' + 1 + 1 + 1 + 1 + 1 + 1 + 1 + 1) oG (by walk_at "my mem")
    rw [hr1]
    exact off_cons.mpr ⟨by show @Ne Nat 205 k; omega, off_append.mpr ⟨off_abv xG h2, offr k h1 h2⟩⟩
  have off0' : Off 210 r1 := by rw [hr1]; exact off_cons.mpr ⟨by show (205 : Nat) ≠ 210; decide, off_append.mpr ⟨off_abv x210 (Nat.le_refl _), off0⟩⟩
  refine wpAny_execs_cons (law6 rfl F5 X N6 T hd hu dS (hr1r _ hS) hD hlo dN (hxall _ (by omega) (by omega)) off0' hL P.byw ?_)
  rintro h6 tk6 oN' re' ⟨vN', dN'⟩ F6 ⟨qs, N6'⟩
  dsimp only
  obtain ⟨r2, hr2⟩ : ∃ l, l = (210, tabObj qs) :: r1 := ⟨_, rfl⟩
  have N7 : News g' L' h6 (lawC L' oW oS oN' oB oR' oC oM oG r2) := News.sub N6' (by rw [hr2]; walk_at "sub")
  have hr2r : ∀ q ∈ r1, q ∈ r2 := fun q hq => by rw [hr2]; exact List.mem_cons_of_mem _ hq
  have offr2 : ∀ k, @LT.lt Nat _ L' k → @LE.le Nat _ k (L' + 1 + 1 + 1 + 1 + 1 + 1 + 1 + 1) → Off k r2 := fun k h1 h2 => by
    rw [hr2]; exact off_cons.mpr ⟨by show @Ne Nat 210 k; omega, hxall k h1 h2⟩
  have hS2 := hr2r _ (hr1r _ hS)
  have hW2 := hr2r _ (hr1r _ hW)
  have h205 : (205, tabObj ps) ∈ r2 := hr2r _ (by rw [hr1]; exact List.mem_cons_self)
  have h210 : (210, tabObj qs) ∈ r2 := by rw [hr2]; exact List.mem_cons_self
  refine wpAny_execs_cons (law7 rfl F6 X N7 T hd hu dS hS2 hD hlo P.sum P.lead ?_)
  rintro h7 tk7 x xs7 hws7 hab7 F7 N7'
  dsimp only
  have xG7 := hab7 (L' + 1 + 1 + 1 + 1 + 1 + 1 + 1 + 1) oG (by walk_at "my mem")
  obtain ⟨r3, hr3⟩ : ∃ l, l = xs7 ++ r2 := ⟨_, rfl⟩
  rw [← hr3] at N7'
  have hr3r : ∀ q ∈ r2, q ∈ r3 := fun q hq => by rw [hr3]; exact List.mem_append_right _ hq
  have hX3 : WsIn w x (leadT wt) (15, 5, cs, 0) r3 := ⟨xs7, hws7, fun q hq => by rw [hr3]; exact List.mem_append_left _ hq⟩
  have offr3 : ∀ k, @LT.lt Nat _ L' k → @LE.le Nat _ k (L' + 1 + 1 + 1 + 1 + 1 + 1 + 1 + 1) → Off k r3 := fun k h1 h2 => by
    rw [hr3]; exact off_append.mpr ⟨off_abv xG7 h2, offr2 k h1 h2⟩
  have hcl := P.len5
  refine wpAny_execs_cons (law8 rfl F7 X N7' T hd hu hX3 (offr3 _ (by omega) (by omega)) dC ?_)
  intro h8 tk8 oC8 CT cv tb dC8 hcv hC F8 N8
  dsimp only
  refine wpAny_execs_cons (law9 rfl F8 X N8 T hd hu dC8 hcv hC (by omega) P.small ?_)
  intro h9 tk9 t9 F9 N9
  dsimp only
  refine wpAny_execs_cons (law10 rfl F9 X N9 T hd hu hwv hwl dW (hr3r _ hW2) ?_)
  intro h10 tk10 t10 F10 N10
  dsimp only
  refine wpAny_execs_cons (law11 rfl F10 X N10 T hd hu hwv hwl dW (hr3r _ hW2) ?_)
  intro h11 tk11 t11 F11 N11
  dsimp only
  rw [P.every] at F11
  refine wpAny_execs_cons (law12 rfl F11 X N11 T hd hu hX3 ?_)
  intro h12 tk12 F12 N12
  dsimp only
  refine wpAny_execs_cons (law13 rfl F12 X N12 T hd hu dC8 hcv hC (by omega) P.small P.five P.ten ?_)
  intro h13 tk13 F13 N13
  dsimp only
  refine wpAny_execs_cons (law14 rfl F13 X N13 T hd hu hX3 P.sum P.lead ?_)
  intro h14 tk14 y xs14 hws14 hab14 F14 N14'
  dsimp only
  have xG14 := hab14 (L' + 1 + 1 + 1 + 1 + 1 + 1 + 1 + 1) oG (by walk_at "my mem")
  obtain ⟨r4, hr4⟩ : ∃ l, l = xs14 ++ r3 := ⟨_, rfl⟩
  rw [← hr4] at N14'
  have hr4r : ∀ q ∈ r3, q ∈ r4 := fun q hq => by rw [hr4]; exact List.mem_append_right _ hq
  have hY4 : WsIn w y (laterT wt) (20, 5, cs, 5) r4 := ⟨xs14, hws14, fun q hq => by rw [hr4]; exact List.mem_append_left _ hq⟩
  have hX4 := hX3.sub hr4r
  have offr4 : ∀ k, @LT.lt Nat _ L' k → @LE.le Nat _ k (L' + 1 + 1 + 1 + 1 + 1 + 1 + 1 + 1) → Off k r4 := fun k h1 h2 => by
    rw [hr4]; exact off_append.mpr ⟨off_abv xG14 h2, offr3 k h1 h2⟩
  have hS4 := hr4r _ (hr3r _ hS2)
  have hW4 := hr4r _ (hr3r _ hW2)
  refine wpAny_execs_cons (law15 rfl F14 X N14' T hd hu dC8 hcv (hr4r _ hC) hY4 (by omega) P.len1 ?_)
  intro h15 tk15 F15 N15
  dsimp only
  refine wpAny_execs_cons (law16 rfl F15 X N15 T hd hu hX4 hY4 ?_)
  intro h16 tk16 F16 N16
  dsimp only
  refine wpAny_execs_cons (law17 rfl F16 X N16 T hd hu hX4 (by omega) P.len1 dM (offr4 _ (by omega) (by omega)) ?_)
  intro h17 tk17 t17 oM17 dM17 F17 N17
  dsimp only
  rw [Nat.max_zero] at dM17
  refine wpAny_execs_cons (law18 rfl F17 X N17 T hd hu dS hS4 hD hlo dM17 P.most ?_)
  intro h18 tk18 F18 N18
  dsimp only
  refine wpAny_execs_cons (law19 rfl F18 X N18 T hd hu hwv dW hW4 dS hS4 hD hlo dM17 dG (offr4 _ (by omega) (by omega)) P.kings ?_)
  rintro h19 tk19 oG19 ⟨vG19, dG19⟩ F19 N19
  dsimp only
  refine wpAny_execs_cons (law20 rfl F19 X N19 T hd hu hX4 hwv hwl dW hW4 dS hS4 hD hlo dG19 (offr4 _ (by omega) (by omega)) P.turns ?_)
  intro h20 tk20 oG20 ru20 tu20 du20 F20 N20
  dsimp only
  have h205' := hr4r _ (hr3r _ h205)
  have h210' := hr4r _ (hr3r _ h210)
  have e21 : lawSt 21 = Stmt.Return _ _ := rfl
  rw [e21]
  have N21 := News.sub N20 (b := (205, tabObj ps) :: (210, tabObj qs) :: []) (by walk_at "sub")
  k_steps
  exact ret _ _ _ _ ps qs F20 N21
end
end
section
set_option maxRecDepth 100000
section
variable {w : World} {p : Program} {loose : List Str} {mean : ExcName → Option Value} {mg mb : Str → Option Value} {ad au : Nat} {af : Option (List Env)} {ag : Option (List Code)} {g' : Heap} {L' : Addr} {s : Shared} {Q : Flow → Shared → Prop}
  {oW oS oN oB oR oC oM oG : Obj} {r : List (Addr × Obj)} {sc pg fi se wh fa re le be th ev fv la ru tu du : Option Value}
theorem wins_ten {bs : List Bool} (h : bs.length = 10) : (winsOf bs).length = 10 := by rw [winsOf, List.length_map, List.length_range, h]
set_option maxHeartbeats 1000000 in
theorem chainF {rest : List Stmt} {SC : Addr} {sv : List Value} {sn : List Int} (F : Fr g' L' s.heap (mp [(Str.ofString "script", some (.ref SC))])) (X : (KK w.params).In g') (N : News g' L' s.heap (lawC L' oW oS oN oB oR oC oM oG r)) (T : Top p loose mean mg mb g') (hd : ad + 160 < recursionLimit) (hu : au + 1000 < cLine)
    (hS : g'.IsList SC sv.toArray) (hsn : IntsAre sv sn) (hsl : sv.length ≤ 63) (bR : Blw L' r) (dW : oW.data = .cell none) (dS : oS.data = .cell none) (dN : oN.data = .cell none) (dB : oB.data = .cell none) (hgb : AllBare s.gens)
    (ret : ∀ h' tk gs oW' oS' oN' oB' oD W S wv n wt cs sc pg fi se wh fa, AllBare gs → LawP wt cs → StrsAre wv wt → wv.length < 1000 → oW'.data = .cell (some (.ref W)) → oS'.data = .cell (some (.ref S)) → DictSI w oD (scP wt abc5) → (S == sysModules) = false → (∃ v, oN'.data = .cell v) →
      @LT.lt Nat _ (L' + 1 + 1 + 1 + 1 + 1 + 1 + 1 + 1) W → @LT.lt Nat _ (L' + 1 + 1 + 1 + 1 + 1 + 1 + 1 + 1) S → Fr g' L' h' (lawM sc pg fi se wh fa none none none none none none none none none none) → News g' L' h' (lawC L' oW' oS' oN' oB' oR oC oM oG ((S, oD) :: (W, lst wv n) :: r)) →
      wpAny (model PG w) ⟨none, ad, af, ag, au⟩ (execs rest (lawEnv L')) Q NoE { s with heap := h', toks := tk, gens := gs }) :
    wpAny (model PG w) ⟨none, ad, af, ag, au⟩ (execs (lawSt 0 :: lawSt 1 :: lawSt 2 :: lawSt 3 :: rest) (lawEnv L')) Q NoE s := by
  refine wpAny_execs_cons (law0 rfl F X N T (by omega) hS hsn hsl bR dW ?_)
  intro h0 tk0 W wv n page tp bs oW' hbl hpg hwv dW' lW bW F0 N0
  dsimp only
  obtain ⟨cs, P⟩ := lawP_of hbl
  have hwl : wv.length < 1000 := by rw [StrsAre.length hwv, wins_ten hbl]; decide
  refine wpAny_execs_cons (law1 rfl F0 X N0 T (by omega) hu hbl hpg hwv dW' List.mem_cons_self ?_)
  intro h1 tk1 F1 N1
  dsimp only
  have offW : ∀ k, @LT.lt Nat _ L' k → @LE.le Nat _ k (L' + 1 + 1 + 1 + 1 + 1 + 1 + 1 + 1) → Off k ((W, lst wv n) :: r) := fun k h1 h2 => off_cons.mpr ⟨by show @Ne Nat W k; omega, off_blw bR (Nat.le_of_lt h1)⟩
  refine wpAny_execs_cons (law2 rfl F1 N1 X T (by omega) dS (offW _ (by omega) (by omega)) ?_)
  intro h2 tk2 S oS' oD hD hlo F2 dS' lS bS N2
  dsimp only
  refine wpAny_execs_cons (law3 rfl F2 X N2 T hd hu hwv dW' List.mem_cons_self dS' dN dB hD hlo bS lS offW P.sides hgb ?_)
  rintro h3 tk3 gs oD' oN' oB' fi se hgs hD' hN' F3 N3
  exact ret _ _ gs _ _ oN' oB' oD' W S wv n _ cs _ _ fi se _ _ hgs P hwv hwl dW' dS' hD' hlo hN' lW lS F3 N3
end
end
section
set_option maxRecDepth 100000
section
variable {w : World} {p : Program} {loose : List Str} {mean : ExcName → Option Value} {mg mb : Str → Option Value} {ad au : Nat} {af : Option (List Env)} {ag : Option (List Code)} {g' : Heap} {L' : Addr} {s : Shared} {Q : Flow → Shared → Prop}
  {oW oS oN oB oR oC oM oG : Obj} {r : List (Addr × Obj)} {sc pg fi se wh fa re le be th ev fv la ru tu du : Option Value}
set_option maxHeartbeats 1000000 in
theorem bodyL (hfr : af = some [lawEnv L']) {SC : Addr} {sv : List Value} {sn : List Int} (F : Fr g' L' s.heap (mp [(Str.ofString "script", some (.ref SC))])) (X : (KK w.params).In g') (N : News g' L' s.heap (lawC L' oW oS oN oB oR oC oM oG [(205, tabObj #[]), (210, tabObj #[])])) (T : Top p loose mean mg mb g') (hd : ad + 160 < recursionLimit) (hu : au + 1000 < cLine)
    (hS : g'.IsList SC sv.toArray) (hsn : IntsAre sv sn) (hsl : sv.length ≤ 63) (hL : @LT.lt Nat _ 210 L') (dW : oW.data = .cell none) (dS : oS.data = .cell none) (dN : oN.data = .cell none) (dB : oB.data = .cell none) (dR : oR.data = .cell none) (dC : oC.data = .cell none) (dM : oM.data = .cell none) (dG : oG.data = .cell none) (hgb : AllBare s.gens)
    (ret : ∀ h' tk gs m' news ps qs, AllBare gs → Fr g' L' h' m' → News g' L' h' ((205, tabObj ps) :: (210, tabObj qs) :: news) → Q (.ret (.bool true)) { s with heap := h', toks := tk, gens := gs }) :
    wpAny (model PG w) ⟨none, ad, af, ag, au⟩ (execs lawB (lawEnv L')) Q NoE s := by
  have e : lawB = lawSt 0 :: lawSt 1 :: lawSt 2 :: lawSt 3 :: lawSt 4 :: lawB.drop 5 := rfl
  rw [e]
  have b0 : Blw L' [((205 : Addr), tabObj #[]), (210, tabObj #[])] := blw_cons.mpr ⟨by show @LT.lt Nat _ 205 L'; omega, blw_cons.mpr ⟨hL, blw_nil _⟩⟩
  refine chainF F X N T hd hu hS hsn hsl b0 dW dS dN dB hgb ?_
  rintro h3 tk3 gs oW' oS' oN' oB' oD W S wv n wt cs sc pg fi se wh fa hgs P hwv hwl dW' dS' hD hlo ⟨vN, dN'⟩ lW lS F3 N3
  refine wpAny_execs_cons (law4 rfl hfr F3 X N3 T hd hu hgs ?_)
  intro h4 tk4 gs4 wh' fa' hgs4 F4 N4
  dsimp only
  have N5 := News.sub N4 (b := (205, tabObj #[]) :: (210, tabObj #[]) :: lawC L' oW' oS' oN' oB' oR oC oM oG [(S, oD), (W, lst wv n)]) (by walk_at "sub")
  refine chainL P F4 X N5 T hd hu hwv hwl dW' (List.mem_cons_of_mem _ List.mem_cons_self) dS' List.mem_cons_self hD hlo dN' dR dC dM dG (fun k h1 h2 => off_cons.mpr ⟨by show @Ne Nat S k; omega, off_cons.mpr ⟨by show @Ne Nat W k; omega, off_nil _⟩⟩) (off_cons.mpr ⟨by show @Ne Nat S 205; omega, off_cons.mpr ⟨by show @Ne Nat W 205; omega, off_nil _⟩⟩) (off_cons.mpr ⟨by show @Ne Nat S 210; omega, off_cons.mpr ⟨by show @Ne Nat W 210; omega, off_nil _⟩⟩) hL ?_
  intro h' tk m' news ps qs F' N'
  exact ret h' tk gs4 m' news ps qs hgs4 F' N'
end
end
section
set_option maxRecDepth 100000
theorem post_true {M : Model} {A : Around} {cd : Code} {s s₁ : Shared} {cw : ClaimW} {cl : Str → Option Addr} {mean : ExcName → Option Value} {args : List WData} {tabs : List (Addr × Addr)} (hT : TabsAt tabs s₁.heap) (hr : ∀ x, cw.raises args x = false) (hp : cw.post args (.bool true) args = true)
    (h : codeAny M A cd (fun r s' => r = .ok (.ret (.bool true)) ∧ (∀ b o, (ghostOf s₁.heap tabs).get? b = some o → s'.heap.get? b = some o) ∧ s'.os = s₁.os ∧ AllBare s'.gens ∧ GrownAll tabs s'.heap) s) : codeAny M A cd (GoodWG cw cl mean args s₁) s :=
  codeAny_mono h fun r s' ⟨hrt, hk, hos, hg, hgr⟩ => by
    subst hrt
    have grown : ∀ b o, b ∈ tabs.map (·.2) → s₁.heap.get? b = some o → isCodeTable s₁.heap b ∧ o = tabObj #[] ∧ ∃ ps, s'.heap.get? b = some (tabObj ps) := fun b o hb e => by
      obtain ⟨q, hq, rfl⟩ := List.mem_map.mp hb
      have e2 := (hT q hq).2
      rw [e] at e2
      exact ⟨((hT q hq).1.tab (hT q hq).2).isCodeTable, Option.some.inj e2, hgr.get q hq⟩
    refine ⟨.inl ⟨_, _, [], rfl, hr, ReadsW.bool true, hp, fun _ => ⟨List.nodup_nil, fun _ hm => (nomatch hm)⟩⟩, ⟨fun b o e => ?_, fun b o e => ?_⟩, hos, hg⟩
    · by_cases hb : b ∈ tabs.map (·.2)
      · obtain ⟨ht, rfl, ps, hP⟩ := grown b o hb e
        exact .inr (.inl ⟨ht, rfl, #[], ps, rfl, by rw [Array.empty_append]; exact hP⟩)
      · exact .inl (hk b o (ghost_ne e hb))
    · by_cases hb : b ∈ tabs.map (·.2)
      · obtain ⟨_, _, ps, hP⟩ := grown b o hb e
        exact ⟨_, hP⟩
      · exact ⟨o, hk b o (ghost_ne e hb)⟩
end
section
set_option maxRecDepth 100000
theorem cellsC {cm : Str → Option Value} {n : Str} {c : Addr} {l : List (Str × Addr)} {cells : List (Addr × Obj)} (x : CellsAre cm ((n, c) :: l) cells) (P : List (Addr × Obj) → Prop) (k : ∀ o r, o.data = .cell (cm n) → CellsAre cm l r → P ((c, o) :: r)) : P cells := by
  cases x with | cons h x => exact k _ _ h x
theorem cells8 {cm : Str → Option Value} {n₁ n₂ n₃ n₄ n₅ n₆ n₇ n₈ : Str} {c₁ c₂ c₃ c₄ c₅ c₆ c₇ c₈ : Addr} {cells : List (Addr × Obj)} (x : CellsAre cm [(n₁, c₁), (n₂, c₂), (n₃, c₃), (n₄, c₄), (n₅, c₅), (n₆, c₆), (n₇, c₇), (n₈, c₈)] cells) (P : List (Addr × Obj) → Prop)
    (k : ∀ o₁ o₂ o₃ o₄ o₅ o₆ o₇ o₈ : Obj, o₁.data = .cell (cm n₁) → o₂.data = .cell (cm n₂) → o₃.data = .cell (cm n₃) → o₄.data = .cell (cm n₄) → o₅.data = .cell (cm n₅) → o₆.data = .cell (cm n₆) → o₇.data = .cell (cm n₇) → o₈.data = .cell (cm n₈) → P [(c₁, o₁), (c₂, o₂), (c₃, o₃), (c₄, o₄), (c₅, o₅), (c₆, o₆), (c₇, o₇), (c₈, o₈)]) : P cells := by
  refine cellsC x (fun r => P (r)) fun o₁ r₁ h₁ x => ?_
  refine cellsC x (fun r => P (_ :: r)) fun o₂ r₂ h₂ x => ?_
  refine cellsC x (fun r => P (_ :: _ :: r)) fun o₃ r₃ h₃ x => ?_
  refine cellsC x (fun r => P (_ :: _ :: _ :: r)) fun o₄ r₄ h₄ x => ?_
  refine cellsC x (fun r => P (_ :: _ :: _ :: _ :: r)) fun o₅ r₅ h₅ x => ?_
  refine cellsC x (fun r => P (_ :: _ :: _ :: _ :: _ :: r)) fun o₆ r₆ h₆ x => ?_
  refine cellsC x (fun r => P (_ :: _ :: _ :: _ :: _ :: _ :: r)) fun o₇ r₇ h₇ x => ?_
  refine cellsC x (fun r => P (_ :: _ :: _ :: _ :: _ :: _ :: _ :: r)) fun o₈ r₈ h₈ x => ?_
  cases x
  exact k _ _ _ _ _ _ _ _ h₁ h₂ h₃ h₄ h₅ h₆ h₇ h₈
section
variable {prog : Program} {w : World} {A : Around} {s : Shared} {K : Frag}
  {R : Result → Shared → Prop} {name qual : Str} {params : Arguments} {body : List Stmt} {scope : Scope} {dV kV doc pm cdv ct oc : Value} {an od : Option Addr} {osl : Array (Option Value)} {f : Addr} {args : Args}
theorem enterTop (binds : List (Str × Value)) (X : K.In s.heap) (lim : s.heap.NoLimit)
    (ho : K.lookup f = some ⟨oc, od, .func (fnX name qual params body scope [] dV kV doc pm an cdv ct), osl⟩) (hcd : codeIn K cdv qual = true) (hroom : A.depth < recursionLimit)
    (hbind : BindsTo s (fnX name qual params body scope [] dV kV doc pm an cdv ct) args binds)
    (hkind : ∀ n, ∀ x ∈ binds, scope.names.lookup x.1 = some .local ∨ (scope.names.lookup x.1 = some .cell ∧ ((cellsFrom n scope.names []).lookup x.1).isSome = true))
    (hnd : ((cellsFrom 0 scope.names []).map (·.1)).Nodup) (hco : scope.isCoroutine = false) (hgen : scope.isGenerator = false) (hk : scope.kind = .function) (ml : List (Str × Option Value)) (hml : ∀ L', bindM (envX qual scope L' f cdv (cellsFrom (L' + 1) scope.names [])).kindOf binds [] = ml)
    (h : ∀ L' h₁ tk cells, Fr s.heap L' h₁ (mp ml) → News s.heap L' h₁ cells → CellsAre (bindC (envX qual scope L' f cdv (cellsFrom (L' + 1) scope.names [])).kindOf binds fun _ => none) (cellsFrom (L' + 1) scope.names []) cells →
      wpAny (model prog w) (A.deeper (envX qual scope L' f cdv (cellsFrom (L' + 1) scope.names []))) (execs body (envX qual scope L' f cdv (cellsFrom (L' + 1) scope.names [])))
        (fun fl s' => R (.ok (.ret (match fl with | .ret v => v | _ => .none))) s') NoE { s with heap := h₁, toks := tk }) : codeAny (model prog w) A (.call (.ref f) args) R s := by
  have hs := X _ _ ho
  refine codeAny_call_function hroom hs rfl hco hgen rfl (codeRec_of X hcd) (hbind _ _ _ _ ?_)
  refine wpAny_newFunctionEnv_cells hk (hkind _) fun env' he s' x => ?_
  subst he
  refine ⟨lim.keeps x.toInCall.keep, codeAny_func ?_⟩
  obtain ⟨h₁, tk, rfl, _⟩ := x.done
  have hk₁ := x.toInCall.keep
  obtain ⟨cells, NC, Y⟩ := Cl.news (h₀ := s.heap) (Nat.le_refl _) fun n c hm => ⟨x.cell n c (lookup_of_mem_nodup (cellsFrom_names scope.names 0 (s.heap.objs.size + 1) [] [] rfl ▸ hnd) hm), x.above n c hm⟩
  have hns : h₁.Ns s.heap.objs.size (mp ml) := by
    have q := x.toInCall.ns
    rw [bindL_mp0] at q
    exact hml s.heap.objs.size ▸ q
  exact wpAny_mono (h s.heap.objs.size h₁ tk cells ⟨hns, hk₁, Nat.le_refl _⟩ NC Y) (fun fl s' hl => hl) fun _ _ y => y.elim
end
set_option maxHeartbeats 4000000 in
theorem law_top {w : World} {s₁ : Shared} {p : Program} {loose : List Str} {mean : ExcName → Option Value} {mg mb : Str → Option Value} {cw : ClaimW} {cl : Str → Option Addr} {means : ExcName → Option Value} {args : List WData} {SC : Addr} {sv : List Value} {sn : List Int}
    (hg : s₁.gens = #[]) (X : (KK w.params).In s₁.heap) (T : Top p loose mean mg mb s₁.heap) (hT : TabsAt [(207, 205), (212, 210)] s₁.heap) (hS : s₁.heap.IsList SC sv.toArray) (hsn : IntsAre sv sn) (hsl : sv.length ≤ 63)
    (hr : ∀ x, cw.raises args x = false) (hp : cw.post args (.bool true) args = true) (hK : noTabs (KK w.params) = true) :
    codeAny (model PG w) callerA (.call (.ref 225) ⟨[.ref SC], []⟩) (GoodWG cw cl means args s₁) s₁ := by
  refine post_true hT hr hp ?_
  have Xg := ghost_K hT X hK
  have Tg := ghost_top hT T
  refine enterTop (K := KK w.params) [(Str.ofString "script", .ref SC)] X T.nolimit rfl ?cd ?ro ?bd ?lo ?ce rfl rfl rfl [(Str.ofString "script", some (.ref SC))] (fun _ => rfl) ?_
  case cd => k_is
  case ro => show callerA.depth < recursionLimit; decide
  case bd => first | exact BindsTo.of_eq rfl | exact binds_K (by k_in) rfl (by k_is) rfl rfl rfl
  case lo => intro n; exact kinds_of ⟨.inl rfl, trivial⟩
  case ce => decide +kernel
  intro L' h₁ tk cells F N Y
  revert N
  refine cells8 Y (fun c => News s₁.heap L' h₁ c → wpAny _ _ _ _ _ _) ?_
  intro oG oM oC oR oB oN oS oW dG dM dC dR dB dN dS dW N
  have z : ∀ q ∈ tabNews [((207 : Addr), (205 : Addr)), (212, 210)], @LT.lt Nat _ q.1 L' := fun q hq => ghost_lt hT F q hq
  refine bodyL (SC := SC) (sv := sv) (sn := sn) (ag := callerA.guards) rfl (ghost_fr hT F) Xg (ghost_news hT F N) Tg (by decide) (by decide) (ghost_list hT hS) hsn hsl (z (210, tabObj #[]) (by simp)) dW dS dN dB dR dC dM dG (by rw [hg]; exact PyProof.Rows.AllBare.empty) ?_
  intro h' tk' gs m' news ps qs hb F' N'
  refine ⟨rfl, F'.keep, rfl, hb, GrownAt.of N' List.mem_cons_self, GrownAt.of N' (List.mem_cons_of_mem _ List.mem_cons_self), trivial⟩
end
section
set_option maxRecDepth 100000
set_option maxHeartbeats 8000000
set_option pp.maxSteps 3000 in
theorem fin : PySem.Challenge.rw_wy0036_01.Holds := by
  w_on; refine holds_law well fun said => ?_
  refine holds_open (r := rowR) (q := qv) (loose := lsv) (XP := XL qv []) (YP := hk.says) left hk.of hk.keeps (fun s e => xl_of s (Bool.and_eq_true_iff.mp e).1) XL.keeps (by rfl) (by rfl) (by rfl) (fun s e => recFacts_of (Bool.and_eq_true_iff.mp e).2) (by rfl) (by first | assumption | decide +kernel) (by decide +kernel) ⟨rfl, rfl, rfl, rfl, rfl, by decide +kernel⟩ ?hw ?hc
  case hw => w_witness2
  intro w s₀ s₁ mg mb G Y fa o pm cd doc dV kV ho hd hcd hD hmg hg args vals as hpre hlay hrd hwl hlo
  have KX := km_in_of Y
  km_tabs Y
  refine Ground.open G ?_
  intro T B D TE TW
  try (refine guard_noD D (by decide +kernel) ?_; clear D)
  have hT9 : TabsAt [(207, 205), (212, 210)] s₁.heap := List.forall_mem_cons.mpr ⟨⟨codeHd_of_K (c := 207) (P := 205) KX (by kernel_rfl), hT8 205 (by k_mem)⟩, List.forall_mem_cons.mpr ⟨⟨codeHd_of_K (c := 212) (P := 210) KX (by kernel_rfl), hT8 210 (by k_mem)⟩, fun _ h => nomatch h⟩⟩
  have e1 := mg_of KX T.g (show nsIn (KK w.params) mainGlobals (Str.ofString "law") = some (some (.ref 225)) by k_is)
  have hm : mg (Str.ofString "law") = some (.ref fa) := hmg
  have e2 : fa = 225 := by
    rw [hm] at e1
    cases e1
    rfl
  subst e2
  clear hmg hm e1 hd hcd hD ho B TE TW
  wrow_args hpre hlay hrd hwl hlo
  rename_i sn _ _ _ _ _ _ SC sv _ hL _ _ _ hI _ hlen _
  refine enter_call ?_
  refine law_top hg KX T hT9 hL hI ?_ ?_ ?_ ?_
  · have e := hI.length
    omega
  · exact fun _ => rfl
  · first | wrow_post | (simp only [rowR]; rfl) | with_unfolding_all rfl
  · kernel_rfl
end
end
end
end
end
end
end
end Mine
theorem PySem.Challenge.cw_wy0036_01_holds : PySem.Challenge.rw_wy0036_01.Holds := by
  exact Mine.fin
