import PyProof.Rows.All
import Wide.All
import OpenK.AllK
import Wide.FinOn
import KE.BitLaws
import Open.Pieces
import OpenK.KQuick
import KE.KNestM
import KE.KLam
import PySem.Challenge.RW_im0103_01
set_option Elab.async false
set_option pp.deepTerms false
set_option rowWalk.seconds 0
set_option linter.unusedVariables false
set_option linter.unusedSimpArgs false
section
set_option maxRecDepth 100000
set_option maxHeartbeats 0
open PySem PySem.W PyProof.Rows
namespace Mine
noncomputable def sPar : Stmt → Arguments | .FunctionDef _ ps _ _ _ _ _ _ _ _ => ps | _ => ⟨[], [], none, [], [], none, []⟩
noncomputable def sBody : Stmt → List Stmt | .FunctionDef _ _ b _ _ _ _ _ _ _ => b | _ => []
noncomputable def sOwn : Stmt → Scope | .FunctionDef _ _ _ _ _ _ own _ _ _ => own | _ => PySem.Challenge.pw_im0103_01.main.scope
noncomputable def sIn : Stmt → List Stmt | .ClassDef _ _ _ b _ _ _ _ _ _ _ => b | _ => []
noncomputable def sPass : Stmt := .Pass ⟨0, 0, 0, 0⟩
noncomputable def pTop (i : Nat) : Stmt := PySem.Challenge.pw_im0103_01.main.body.getD i sPass
noncomputable def pCls : List Stmt := sIn (pTop 2)
noncomputable def pDef (i : Nat) : Stmt := pCls.getD i sPass
noncomputable def KF (P : Params) : Frag :=
(nat_lit 3, { cls := Value.type "dict", data := Data.dict #[{ hash := PyData.keyHash P (Str.ofString "__name__"), key := Value.str (Str.ofString "__name__") 165, val := Value.str (Str.ofString "law_im0103_01") 2249 }, { hash := PyData.keyHash P (Str.ofString "__doc__"), key := Value.str (Str.ofString "__doc__") 166, val := Value.none }, { hash := PyData.keyHash P (Str.ofString "__package__"), key := Value.str (Str.ofString "__package__") 167, val := Value.none }, { hash := PyData.keyHash P (Str.ofString "__loader__"), key := Value.str (Str.ofString "__loader__") 168, val := Value.builtin "__main__.__loader__#opaque" }, { hash := PyData.keyHash P (Str.ofString "__spec__"), key := Value.str (Str.ofString "__spec__") 169, val := Value.none }, { hash := PyData.keyHash P (Str.ofString "__annotations__"), key := Value.str (Str.ofString "__annotations__") 170, val := Value.ref 6 }, { hash := PyData.keyHash P (Str.ofString "__builtins__"), key := Value.str (Str.ofString "__builtins__") 171, val := Value.ref 4 }, { hash := PyData.keyHash P (Str.ofString "__file__"), key := Value.str (Str.ofString "__file__") 173, val := Value.str (Str.ofString "/claim/cut.py") 172 }, { hash := PyData.keyHash P (Str.ofString "__cached__"), key := Value.str (Str.ofString "__cached__") 174, val := Value.none }, { hash := PyData.keyHash P (Str.ofString "_wall"), key := Value.str (Str.ofString "_wall") 193, val := Value.ref 21 }, { hash := PyData.keyHash P (Str.ofString "MPU"), key := Value.str (Str.ofString "MPU") 2248, val := Value.ref 1428 }, { hash := PyData.keyHash P (Str.ofString "_law_starts"), key := Value.str (Str.ofString "_law_starts") 2256, val := Value.ref 1439 }, { hash := PyData.keyHash P (Str.ofString "_law_code"), key := Value.str (Str.ofString "_law_code") 2424, val := Value.ref 1440 }, { hash := PyData.keyHash P (Str.ofString "_law_cycles"), key := Value.str (Str.ofString "_law_cycles") 2430, val := Value.ref 1447 }, { hash := PyData.keyHash P (Str.ofString "_law_signed"), key := Value.str (Str.ofString "_law_signed") 2437, val := Value.ref 1454 }, { hash := PyData.keyHash P (Str.ofString "law"), key := Value.str (Str.ofString "law") 2443, val := Value.ref 1459 }] 16 }) ::
(nat_lit 29, { cls := Value.type "tuple", data := Data.seq #[Value.none, Value.int 0 238] }) ::
(nat_lit 35, { cls := Value.type "code", data := Data.fields #[Value.str (Str.ofString "__init__") 239, Value.str (Str.ofString "MPU.__init__") 240, Value.str (Str.ofString "/claim/cut.py") 241, Value.int 22 0, Value.int 3 0, Value.int 0 0, Value.int 0 0, Value.int 3 0, Value.ref 30, Value.bool Bool.true, Value.int 181 0, Value.ref 31, Value.none, Value.ref 32, Value.ref 33, Value.ref 34, Value.int 245 0, Value.int 22 0, Value.str (Str.ofString "/claim/cut.py") 246] }) ::
(nat_lit 36, { cls := Value.type "function", data := Data.func { name := Str.ofString "__init__", qualname := Str.ofString "MPU.__init__", params := sPar (pDef 15), body := FuncBody.stmts (sBody (pDef 15)), scope := sOwn (pDef 15), globals := 3, closure := [], defaults := Value.ref 29, kwdefaults := Value.none, pyModule := Value.str (Str.ofString "py65.devices.mpu6502") 194, code := Value.ref 35 } }) ::
(nat_lit 42, { cls := Value.type "code", data := Data.fields #[Value.str (Str.ofString "step") 248, Value.str (Str.ofString "MPU.step") 249, Value.str (Str.ofString "/claim/cut.py") 250, Value.int 37 0, Value.int 1 0, Value.int 0 0, Value.int 0 0, Value.int 3 0, Value.ref 37, Value.bool Bool.true, Value.int 181 0, Value.ref 38, Value.none, Value.ref 39, Value.ref 40, Value.ref 41, Value.int 253 0, Value.int 37 0, Value.str (Str.ofString "/claim/cut.py") 254] }) ::
(nat_lit 43, { cls := Value.type "function", data := Data.func { name := Str.ofString "step", qualname := Str.ofString "MPU.step", params := sPar (pDef 16), body := FuncBody.stmts (sBody (pDef 16)), scope := sOwn (pDef 16), globals := 3, closure := [], defaults := Value.none, kwdefaults := Value.none, pyModule := Value.str (Str.ofString "py65.devices.mpu6502") 194, code := Value.ref 42 } }) ::
(nat_lit 49, { cls := Value.type "code", data := Data.fields #[Value.str (Str.ofString "reset") 256, Value.str (Str.ofString "MPU.reset") 257, Value.str (Str.ofString "/claim/cut.py") 258, Value.int 47 0, Value.int 1 0, Value.int 0 0, Value.int 0 0, Value.int 3 0, Value.ref 44, Value.bool Bool.true, Value.int 181 0, Value.ref 45, Value.none, Value.ref 46, Value.ref 47, Value.ref 48, Value.int 260 0, Value.int 47 0, Value.str (Str.ofString "/claim/cut.py") 261] }) ::
(nat_lit 50, { cls := Value.type "function", data := Data.func { name := Str.ofString "reset", qualname := Str.ofString "MPU.reset", params := sPar (pDef 17), body := FuncBody.stmts (sBody (pDef 17)), scope := sOwn (pDef 17), globals := 3, closure := [], defaults := Value.none, kwdefaults := Value.none, pyModule := Value.str (Str.ofString "py65.devices.mpu6502") 194, code := Value.ref 49 } }) ::
(nat_lit 70, { cls := Value.type "code", data := Data.fields #[Value.str (Str.ofString "ByteAt") 277, Value.str (Str.ofString "MPU.ByteAt") 278, Value.str (Str.ofString "/claim/cut.py") 279, Value.int 64 0, Value.int 2 0, Value.int 0 0, Value.int 0 0, Value.int 3 0, Value.ref 65, Value.bool Bool.true, Value.int 181 0, Value.ref 66, Value.none, Value.ref 67, Value.ref 68, Value.ref 69, Value.int 282 0, Value.int 64 0, Value.str (Str.ofString "/claim/cut.py") 283] }) ::
(nat_lit 71, { cls := Value.type "function", data := Data.func { name := Str.ofString "ByteAt", qualname := Str.ofString "MPU.ByteAt", params := sPar (pDef 20), body := FuncBody.stmts (sBody (pDef 20)), scope := sOwn (pDef 20), globals := 3, closure := [], defaults := Value.none, kwdefaults := Value.none, pyModule := Value.str (Str.ofString "py65.devices.mpu6502") 194, code := Value.ref 70 } }) ::
(nat_lit 77, { cls := Value.type "code", data := Data.fields #[Value.str (Str.ofString "WordAt") 285, Value.str (Str.ofString "MPU.WordAt") 286, Value.str (Str.ofString "/claim/cut.py") 287, Value.int 67 0, Value.int 2 0, Value.int 0 0, Value.int 0 0, Value.int 3 0, Value.ref 72, Value.bool Bool.true, Value.int 181 0, Value.ref 73, Value.none, Value.ref 74, Value.ref 75, Value.ref 76, Value.int 290 0, Value.int 67 0, Value.str (Str.ofString "/claim/cut.py") 291] }) ::
(nat_lit 78, { cls := Value.type "function", data := Data.func { name := Str.ofString "WordAt", qualname := Str.ofString "MPU.WordAt", params := sPar (pDef 21), body := FuncBody.stmts (sBody (pDef 21)), scope := sOwn (pDef 21), globals := 3, closure := [], defaults := Value.none, kwdefaults := Value.none, pyModule := Value.str (Str.ofString "py65.devices.mpu6502") 194, code := Value.ref 77 } }) ::
(nat_lit 84, { cls := Value.type "code", data := Data.fields #[Value.str (Str.ofString "WrapAt") 293, Value.str (Str.ofString "MPU.WrapAt") 294, Value.str (Str.ofString "/claim/cut.py") 295, Value.int 70 0, Value.int 2 0, Value.int 0 0, Value.int 0 0, Value.int 3 0, Value.ref 79, Value.bool Bool.true, Value.int 181 0, Value.ref 80, Value.none, Value.ref 81, Value.ref 82, Value.ref 83, Value.int 300 0, Value.int 70 0, Value.str (Str.ofString "/claim/cut.py") 301] }) ::
(nat_lit 85, { cls := Value.type "function", data := Data.func { name := Str.ofString "WrapAt", qualname := Str.ofString "MPU.WrapAt", params := sPar (pDef 22), body := FuncBody.stmts (sBody (pDef 22)), scope := sOwn (pDef 22), globals := 3, closure := [], defaults := Value.none, kwdefaults := Value.none, pyModule := Value.str (Str.ofString "py65.devices.mpu6502") 194, code := Value.ref 84 } }) ::
(nat_lit 91, { cls := Value.type "code", data := Data.fields #[Value.str (Str.ofString "ProgramCounter") 303, Value.str (Str.ofString "MPU.ProgramCounter") 304, Value.str (Str.ofString "/claim/cut.py") 305, Value.int 74 0, Value.int 1 0, Value.int 0 0, Value.int 0 0, Value.int 3 0, Value.ref 86, Value.bool Bool.true, Value.int 181 0, Value.ref 87, Value.none, Value.ref 88, Value.ref 89, Value.ref 90, Value.int 307 0, Value.int 74 0, Value.str (Str.ofString "/claim/cut.py") 308] }) ::
(nat_lit 92, { cls := Value.type "function", data := Data.func { name := Str.ofString "ProgramCounter", qualname := Str.ofString "MPU.ProgramCounter", params := sPar (pDef 23), body := FuncBody.stmts (sBody (pDef 23)), scope := sOwn (pDef 23), globals := 3, closure := [], defaults := Value.none, kwdefaults := Value.none, pyModule := Value.str (Str.ofString "py65.devices.mpu6502") 194, code := Value.ref 91 } }) ::
(nat_lit 98, { cls := Value.type "code", data := Data.fields #[Value.str (Str.ofString "ImmediateByte") 310, Value.str (Str.ofString "MPU.ImmediateByte") 311, Value.str (Str.ofString "/claim/cut.py") 312, Value.int 77 0, Value.int 1 0, Value.int 0 0, Value.int 0 0, Value.int 3 0, Value.ref 93, Value.bool Bool.true, Value.int 181 0, Value.ref 94, Value.none, Value.ref 95, Value.ref 96, Value.ref 97, Value.int 314 0, Value.int 77 0, Value.str (Str.ofString "/claim/cut.py") 315] }) ::
(nat_lit 99, { cls := Value.type "function", data := Data.func { name := Str.ofString "ImmediateByte", qualname := Str.ofString "MPU.ImmediateByte", params := sPar (pDef 24), body := FuncBody.stmts (sBody (pDef 24)), scope := sOwn (pDef 24), globals := 3, closure := [], defaults := Value.none, kwdefaults := Value.none, pyModule := Value.str (Str.ofString "py65.devices.mpu6502") 194, code := Value.ref 98 } }) ::
(nat_lit 105, { cls := Value.type "code", data := Data.fields #[Value.str (Str.ofString "ZeroPageAddr") 317, Value.str (Str.ofString "MPU.ZeroPageAddr") 318, Value.str (Str.ofString "/claim/cut.py") 319, Value.int 80 0, Value.int 1 0, Value.int 0 0, Value.int 0 0, Value.int 3 0, Value.ref 100, Value.bool Bool.true, Value.int 181 0, Value.ref 101, Value.none, Value.ref 102, Value.ref 103, Value.ref 104, Value.int 321 0, Value.int 80 0, Value.str (Str.ofString "/claim/cut.py") 322] }) ::
(nat_lit 106, { cls := Value.type "function", data := Data.func { name := Str.ofString "ZeroPageAddr", qualname := Str.ofString "MPU.ZeroPageAddr", params := sPar (pDef 25), body := FuncBody.stmts (sBody (pDef 25)), scope := sOwn (pDef 25), globals := 3, closure := [], defaults := Value.none, kwdefaults := Value.none, pyModule := Value.str (Str.ofString "py65.devices.mpu6502") 194, code := Value.ref 105 } }) ::
(nat_lit 112, { cls := Value.type "code", data := Data.fields #[Value.str (Str.ofString "ZeroPageXAddr") 324, Value.str (Str.ofString "MPU.ZeroPageXAddr") 325, Value.str (Str.ofString "/claim/cut.py") 326, Value.int 83 0, Value.int 1 0, Value.int 0 0, Value.int 0 0, Value.int 3 0, Value.ref 107, Value.bool Bool.true, Value.int 181 0, Value.ref 108, Value.none, Value.ref 109, Value.ref 110, Value.ref 111, Value.int 328 0, Value.int 83 0, Value.str (Str.ofString "/claim/cut.py") 329] }) ::
(nat_lit 113, { cls := Value.type "function", data := Data.func { name := Str.ofString "ZeroPageXAddr", qualname := Str.ofString "MPU.ZeroPageXAddr", params := sPar (pDef 26), body := FuncBody.stmts (sBody (pDef 26)), scope := sOwn (pDef 26), globals := 3, closure := [], defaults := Value.none, kwdefaults := Value.none, pyModule := Value.str (Str.ofString "py65.devices.mpu6502") 194, code := Value.ref 112 } }) ::
(nat_lit 140, { cls := Value.type "code", data := Data.fields #[Value.str (Str.ofString "AbsoluteAddr") 354, Value.str (Str.ofString "MPU.AbsoluteAddr") 355, Value.str (Str.ofString "/claim/cut.py") 356, Value.int 102 0, Value.int 1 0, Value.int 0 0, Value.int 0 0, Value.int 3 0, Value.ref 135, Value.bool Bool.true, Value.int 181 0, Value.ref 136, Value.none, Value.ref 137, Value.ref 138, Value.ref 139, Value.int 358 0, Value.int 102 0, Value.str (Str.ofString "/claim/cut.py") 359] }) ::
(nat_lit 141, { cls := Value.type "function", data := Data.func { name := Str.ofString "AbsoluteAddr", qualname := Str.ofString "MPU.AbsoluteAddr", params := sPar (pDef 30), body := FuncBody.stmts (sBody (pDef 30)), scope := sOwn (pDef 30), globals := 3, closure := [], defaults := Value.none, kwdefaults := Value.none, pyModule := Value.str (Str.ofString "py65.devices.mpu6502") 194, code := Value.ref 140 } }) ::
(nat_lit 154, { cls := Value.type "code", data := Data.fields #[Value.str (Str.ofString "AbsoluteYAddr") 370, Value.str (Str.ofString "MPU.AbsoluteYAddr") 371, Value.str (Str.ofString "/claim/cut.py") 372, Value.int 115 0, Value.int 1 0, Value.int 0 0, Value.int 0 0, Value.int 3 0, Value.ref 149, Value.bool Bool.true, Value.int 181 0, Value.ref 150, Value.none, Value.ref 151, Value.ref 152, Value.ref 153, Value.int 376 0, Value.int 115 0, Value.str (Str.ofString "/claim/cut.py") 377] }) ::
(nat_lit 155, { cls := Value.type "function", data := Data.func { name := Str.ofString "AbsoluteYAddr", qualname := Str.ofString "MPU.AbsoluteYAddr", params := sPar (pDef 32), body := FuncBody.stmts (sBody (pDef 32)), scope := sOwn (pDef 32), globals := 3, closure := [], defaults := Value.none, kwdefaults := Value.none, pyModule := Value.str (Str.ofString "py65.devices.mpu6502") 194, code := Value.ref 154 } }) ::
(nat_lit 161, { cls := Value.type "code", data := Data.fields #[Value.str (Str.ofString "BranchRelAddr") 379, Value.str (Str.ofString "MPU.BranchRelAddr") 380, Value.str (Str.ofString "/claim/cut.py") 381, Value.int 125 0, Value.int 1 0, Value.int 0 0, Value.int 0 0, Value.int 3 0, Value.ref 156, Value.bool Bool.true, Value.int 181 0, Value.ref 157, Value.none, Value.ref 158, Value.ref 159, Value.ref 160, Value.int 384 0, Value.int 125 0, Value.str (Str.ofString "/claim/cut.py") 385] }) ::
(nat_lit 162, { cls := Value.type "function", data := Data.func { name := Str.ofString "BranchRelAddr", qualname := Str.ofString "MPU.BranchRelAddr", params := sPar (pDef 33), body := FuncBody.stmts (sBody (pDef 33)), scope := sOwn (pDef 33), globals := 3, closure := [], defaults := Value.none, kwdefaults := Value.none, pyModule := Value.str (Str.ofString "py65.devices.mpu6502") 194, code := Value.ref 161 } }) ::
(nat_lit 168, { cls := Value.type "code", data := Data.fields #[Value.str (Str.ofString "stPush") 387, Value.str (Str.ofString "MPU.stPush") 388, Value.str (Str.ofString "/claim/cut.py") 389, Value.int 137 0, Value.int 2 0, Value.int 0 0, Value.int 0 0, Value.int 3 0, Value.ref 163, Value.bool Bool.true, Value.int 181 0, Value.ref 164, Value.none, Value.ref 165, Value.ref 166, Value.ref 167, Value.int 392 0, Value.int 137 0, Value.str (Str.ofString "/claim/cut.py") 393] }) ::
(nat_lit 169, { cls := Value.type "function", data := Data.func { name := Str.ofString "stPush", qualname := Str.ofString "MPU.stPush", params := sPar (pDef 34), body := FuncBody.stmts (sBody (pDef 34)), scope := sOwn (pDef 34), globals := 3, closure := [], defaults := Value.none, kwdefaults := Value.none, pyModule := Value.str (Str.ofString "py65.devices.mpu6502") 194, code := Value.ref 168 } }) ::
(nat_lit 175, { cls := Value.type "code", data := Data.fields #[Value.str (Str.ofString "stPop") 395, Value.str (Str.ofString "MPU.stPop") 396, Value.str (Str.ofString "/claim/cut.py") 397, Value.int 142 0, Value.int 1 0, Value.int 0 0, Value.int 0 0, Value.int 3 0, Value.ref 170, Value.bool Bool.true, Value.int 181 0, Value.ref 171, Value.none, Value.ref 172, Value.ref 173, Value.ref 174, Value.int 399 0, Value.int 142 0, Value.str (Str.ofString "/claim/cut.py") 400] }) ::
(nat_lit 176, { cls := Value.type "function", data := Data.func { name := Str.ofString "stPop", qualname := Str.ofString "MPU.stPop", params := sPar (pDef 35), body := FuncBody.stmts (sBody (pDef 35)), scope := sOwn (pDef 35), globals := 3, closure := [], defaults := Value.none, kwdefaults := Value.none, pyModule := Value.str (Str.ofString "py65.devices.mpu6502") 194, code := Value.ref 175 } }) ::
(nat_lit 196, { cls := Value.type "code", data := Data.fields #[Value.str (Str.ofString "FlagsNZ") 418, Value.str (Str.ofString "MPU.FlagsNZ") 419, Value.str (Str.ofString "/claim/cut.py") 420, Value.int 156 0, Value.int 2 0, Value.int 0 0, Value.int 0 0, Value.int 3 0, Value.ref 191, Value.bool Bool.true, Value.int 181 0, Value.ref 192, Value.none, Value.ref 193, Value.ref 194, Value.ref 195, Value.int 423 0, Value.int 156 0, Value.str (Str.ofString "/claim/cut.py") 424] }) ::
(nat_lit 197, { cls := Value.type "function", data := Data.func { name := Str.ofString "FlagsNZ", qualname := Str.ofString "MPU.FlagsNZ", params := sPar (pDef 38), body := FuncBody.stmts (sBody (pDef 38)), scope := sOwn (pDef 38), globals := 3, closure := [], defaults := Value.none, kwdefaults := Value.none, pyModule := Value.str (Str.ofString "py65.devices.mpu6502") 194, code := Value.ref 196 } }) ::
(nat_lit 210, { cls := Value.type "code", data := Data.fields #[Value.str (Str.ofString "opASL") 434, Value.str (Str.ofString "MPU.opASL") 435, Value.str (Str.ofString "/claim/cut.py") 436, Value.int 167 0, Value.int 2 0, Value.int 0 0, Value.int 0 0, Value.int 3 0, Value.ref 205, Value.bool Bool.true, Value.int 181 0, Value.ref 206, Value.none, Value.ref 207, Value.ref 208, Value.ref 209, Value.int 441 0, Value.int 167 0, Value.str (Str.ofString "/claim/cut.py") 442] }) ::
(nat_lit 211, { cls := Value.type "function", data := Data.func { name := Str.ofString "opASL", qualname := Str.ofString "MPU.opASL", params := sPar (pDef 40), body := FuncBody.stmts (sBody (pDef 40)), scope := sOwn (pDef 40), globals := 3, closure := [], defaults := Value.none, kwdefaults := Value.none, pyModule := Value.str (Str.ofString "py65.devices.mpu6502") 194, code := Value.ref 210 } }) ::
(nat_lit 224, { cls := Value.type "code", data := Data.fields #[Value.str (Str.ofString "opBCL") 454, Value.str (Str.ofString "MPU.opBCL") 455, Value.str (Str.ofString "/claim/cut.py") 456, Value.int 204 0, Value.int 2 0, Value.int 0 0, Value.int 0 0, Value.int 3 0, Value.ref 219, Value.bool Bool.true, Value.int 181 0, Value.ref 220, Value.none, Value.ref 221, Value.ref 222, Value.ref 223, Value.int 459 0, Value.int 204 0, Value.str (Str.ofString "/claim/cut.py") 460] }) ::
(nat_lit 225, { cls := Value.type "function", data := Data.func { name := Str.ofString "opBCL", qualname := Str.ofString "MPU.opBCL", params := sPar (pDef 42), body := FuncBody.stmts (sBody (pDef 42)), scope := sOwn (pDef 42), globals := 3, closure := [], defaults := Value.none, kwdefaults := Value.none, pyModule := Value.str (Str.ofString "py65.devices.mpu6502") 194, code := Value.ref 224 } }) ::
(nat_lit 231, { cls := Value.type "code", data := Data.fields #[Value.str (Str.ofString "opBST") 462, Value.str (Str.ofString "MPU.opBST") 463, Value.str (Str.ofString "/claim/cut.py") 464, Value.int 210 0, Value.int 2 0, Value.int 0 0, Value.int 0 0, Value.int 3 0, Value.ref 226, Value.bool Bool.true, Value.int 181 0, Value.ref 227, Value.none, Value.ref 228, Value.ref 229, Value.ref 230, Value.int 467 0, Value.int 210 0, Value.str (Str.ofString "/claim/cut.py") 468] }) ::
(nat_lit 232, { cls := Value.type "function", data := Data.func { name := Str.ofString "opBST", qualname := Str.ofString "MPU.opBST", params := sPar (pDef 43), body := FuncBody.stmts (sBody (pDef 43)), scope := sOwn (pDef 43), globals := 3, closure := [], defaults := Value.none, kwdefaults := Value.none, pyModule := Value.str (Str.ofString "py65.devices.mpu6502") 194, code := Value.ref 231 } }) ::
(nat_lit 238, { cls := Value.type "code", data := Data.fields #[Value.str (Str.ofString "opCLR") 470, Value.str (Str.ofString "MPU.opCLR") 471, Value.str (Str.ofString "/claim/cut.py") 472, Value.int 216 0, Value.int 2 0, Value.int 0 0, Value.int 0 0, Value.int 3 0, Value.ref 233, Value.bool Bool.true, Value.int 181 0, Value.ref 234, Value.none, Value.ref 235, Value.ref 236, Value.ref 237, Value.int 475 0, Value.int 216 0, Value.str (Str.ofString "/claim/cut.py") 476] }) ::
(nat_lit 239, { cls := Value.type "function", data := Data.func { name := Str.ofString "opCLR", qualname := Str.ofString "MPU.opCLR", params := sPar (pDef 44), body := FuncBody.stmts (sBody (pDef 44)), scope := sOwn (pDef 44), globals := 3, closure := [], defaults := Value.none, kwdefaults := Value.none, pyModule := Value.str (Str.ofString "py65.devices.mpu6502") 194, code := Value.ref 238 } }) ::
(nat_lit 245, { cls := Value.type "code", data := Data.fields #[Value.str (Str.ofString "opSET") 478, Value.str (Str.ofString "MPU.opSET") 479, Value.str (Str.ofString "/claim/cut.py") 480, Value.int 219 0, Value.int 2 0, Value.int 0 0, Value.int 0 0, Value.int 3 0, Value.ref 240, Value.bool Bool.true, Value.int 181 0, Value.ref 241, Value.none, Value.ref 242, Value.ref 243, Value.ref 244, Value.int 483 0, Value.int 219 0, Value.str (Str.ofString "/claim/cut.py") 484] }) ::
(nat_lit 246, { cls := Value.type "function", data := Data.func { name := Str.ofString "opSET", qualname := Str.ofString "MPU.opSET", params := sPar (pDef 45), body := FuncBody.stmts (sBody (pDef 45)), scope := sOwn (pDef 45), globals := 3, closure := [], defaults := Value.none, kwdefaults := Value.none, pyModule := Value.str (Str.ofString "py65.devices.mpu6502") 194, code := Value.ref 245 } }) ::
(nat_lit 252, { cls := Value.type "code", data := Data.fields #[Value.str (Str.ofString "opAND") 486, Value.str (Str.ofString "MPU.opAND") 487, Value.str (Str.ofString "/claim/cut.py") 488, Value.int 222 0, Value.int 2 0, Value.int 0 0, Value.int 0 0, Value.int 3 0, Value.ref 247, Value.bool Bool.true, Value.int 181 0, Value.ref 248, Value.none, Value.ref 249, Value.ref 250, Value.ref 251, Value.int 491 0, Value.int 222 0, Value.str (Str.ofString "/claim/cut.py") 492] }) ::
(nat_lit 253, { cls := Value.type "function", data := Data.func { name := Str.ofString "opAND", qualname := Str.ofString "MPU.opAND", params := sPar (pDef 46), body := FuncBody.stmts (sBody (pDef 46)), scope := sOwn (pDef 46), globals := 3, closure := [], defaults := Value.none, kwdefaults := Value.none, pyModule := Value.str (Str.ofString "py65.devices.mpu6502") 194, code := Value.ref 252 } }) ::
(nat_lit 266, { cls := Value.type "code", data := Data.fields #[Value.str (Str.ofString "opROL") 503, Value.str (Str.ofString "MPU.opROL") 504, Value.str (Str.ofString "/claim/cut.py") 505, Value.int 233 0, Value.int 2 0, Value.int 0 0, Value.int 0 0, Value.int 3 0, Value.ref 261, Value.bool Bool.true, Value.int 181 0, Value.ref 262, Value.none, Value.ref 263, Value.ref 264, Value.ref 265, Value.int 510 0, Value.int 233 0, Value.str (Str.ofString "/claim/cut.py") 511] }) ::
(nat_lit 267, { cls := Value.type "function", data := Data.func { name := Str.ofString "opROL", qualname := Str.ofString "MPU.opROL", params := sPar (pDef 48), body := FuncBody.stmts (sBody (pDef 48)), scope := sOwn (pDef 48), globals := 3, closure := [], defaults := Value.none, kwdefaults := Value.none, pyModule := Value.str (Str.ofString "py65.devices.mpu6502") 194, code := Value.ref 266 } }) ::
(nat_lit 273, { cls := Value.type "code", data := Data.fields #[Value.str (Str.ofString "opEOR") 513, Value.str (Str.ofString "MPU.opEOR") 514, Value.str (Str.ofString "/claim/cut.py") 515, Value.int 256 0, Value.int 2 0, Value.int 0 0, Value.int 0 0, Value.int 3 0, Value.ref 268, Value.bool Bool.true, Value.int 181 0, Value.ref 269, Value.none, Value.ref 270, Value.ref 271, Value.ref 272, Value.int 518 0, Value.int 256 0, Value.str (Str.ofString "/claim/cut.py") 519] }) ::
(nat_lit 274, { cls := Value.type "function", data := Data.func { name := Str.ofString "opEOR", qualname := Str.ofString "MPU.opEOR", params := sPar (pDef 49), body := FuncBody.stmts (sBody (pDef 49)), scope := sOwn (pDef 49), globals := 3, closure := [], defaults := Value.none, kwdefaults := Value.none, pyModule := Value.str (Str.ofString "py65.devices.mpu6502") 194, code := Value.ref 273 } }) ::
(nat_lit 280, { cls := Value.type "code", data := Data.fields #[Value.str (Str.ofString "opADC") 521, Value.str (Str.ofString "MPU.opADC") 522, Value.str (Str.ofString "/claim/cut.py") 523, Value.int 260 0, Value.int 2 0, Value.int 0 0, Value.int 0 0, Value.int 3 0, Value.ref 275, Value.bool Bool.true, Value.int 181 0, Value.ref 276, Value.none, Value.ref 277, Value.ref 278, Value.ref 279, Value.int 536 0, Value.int 260 0, Value.str (Str.ofString "/claim/cut.py") 537] }) ::
(nat_lit 281, { cls := Value.type "function", data := Data.func { name := Str.ofString "opADC", qualname := Str.ofString "MPU.opADC", params := sPar (pDef 50), body := FuncBody.stmts (sBody (pDef 50)), scope := sOwn (pDef 50), globals := 3, closure := [], defaults := Value.none, kwdefaults := Value.none, pyModule := Value.str (Str.ofString "py65.devices.mpu6502") 194, code := Value.ref 280 } }) ::
(nat_lit 287, { cls := Value.type "code", data := Data.fields #[Value.str (Str.ofString "opROR") 539, Value.str (Str.ofString "MPU.opROR") 540, Value.str (Str.ofString "/claim/cut.py") 541, Value.int 309 0, Value.int 2 0, Value.int 0 0, Value.int 0 0, Value.int 3 0, Value.ref 282, Value.bool Bool.true, Value.int 181 0, Value.ref 283, Value.none, Value.ref 284, Value.ref 285, Value.ref 286, Value.int 546 0, Value.int 309 0, Value.str (Str.ofString "/claim/cut.py") 547] }) ::
(nat_lit 288, { cls := Value.type "function", data := Data.func { name := Str.ofString "opROR", qualname := Str.ofString "MPU.opROR", params := sPar (pDef 51), body := FuncBody.stmts (sBody (pDef 51)), scope := sOwn (pDef 51), globals := 3, closure := [], defaults := Value.none, kwdefaults := Value.none, pyModule := Value.str (Str.ofString "py65.devices.mpu6502") 194, code := Value.ref 287 } }) ::
(nat_lit 294, { cls := Value.type "code", data := Data.fields #[Value.str (Str.ofString "opSTA") 549, Value.str (Str.ofString "MPU.opSTA") 550, Value.str (Str.ofString "/claim/cut.py") 551, Value.int 331 0, Value.int 2 0, Value.int 0 0, Value.int 0 0, Value.int 3 0, Value.ref 289, Value.bool Bool.true, Value.int 181 0, Value.ref 290, Value.none, Value.ref 291, Value.ref 292, Value.ref 293, Value.int 554 0, Value.int 331 0, Value.str (Str.ofString "/claim/cut.py") 555] }) ::
(nat_lit 295, { cls := Value.type "function", data := Data.func { name := Str.ofString "opSTA", qualname := Str.ofString "MPU.opSTA", params := sPar (pDef 52), body := FuncBody.stmts (sBody (pDef 52)), scope := sOwn (pDef 52), globals := 3, closure := [], defaults := Value.none, kwdefaults := Value.none, pyModule := Value.str (Str.ofString "py65.devices.mpu6502") 194, code := Value.ref 294 } }) ::
(nat_lit 315, { cls := Value.type "code", data := Data.fields #[Value.str (Str.ofString "opCMPR") 573, Value.str (Str.ofString "MPU.opCMPR") 574, Value.str (Str.ofString "/claim/cut.py") 575, Value.int 340 0, Value.int 3 0, Value.int 0 0, Value.int 0 0, Value.int 3 0, Value.ref 310, Value.bool Bool.true, Value.int 181 0, Value.ref 311, Value.none, Value.ref 312, Value.ref 313, Value.ref 314, Value.int 580 0, Value.int 340 0, Value.str (Str.ofString "/claim/cut.py") 581] }) ::
(nat_lit 316, { cls := Value.type "function", data := Data.func { name := Str.ofString "opCMPR", qualname := Str.ofString "MPU.opCMPR", params := sPar (pDef 55), body := FuncBody.stmts (sBody (pDef 55)), scope := sOwn (pDef 55), globals := 3, closure := [], defaults := Value.none, kwdefaults := Value.none, pyModule := Value.str (Str.ofString "py65.devices.mpu6502") 194, code := Value.ref 315 } }) ::
(nat_lit 322, { cls := Value.type "code", data := Data.fields #[Value.str (Str.ofString "opSBC") 583, Value.str (Str.ofString "MPU.opSBC") 584, Value.str (Str.ofString "/claim/cut.py") 585, Value.int 349 0, Value.int 2 0, Value.int 0 0, Value.int 0 0, Value.int 3 0, Value.ref 317, Value.bool Bool.true, Value.int 181 0, Value.ref 318, Value.none, Value.ref 319, Value.ref 320, Value.ref 321, Value.int 597 0, Value.int 349 0, Value.str (Str.ofString "/claim/cut.py") 598] }) ::
(nat_lit 323, { cls := Value.type "function", data := Data.func { name := Str.ofString "opSBC", qualname := Str.ofString "MPU.opSBC", params := sPar (pDef 56), body := FuncBody.stmts (sBody (pDef 56)), scope := sOwn (pDef 56), globals := 3, closure := [], defaults := Value.none, kwdefaults := Value.none, pyModule := Value.str (Str.ofString "py65.devices.mpu6502") 194, code := Value.ref 322 } }) ::
(nat_lit 329, { cls := Value.type "code", data := Data.fields #[Value.str (Str.ofString "opDECR") 600, Value.str (Str.ofString "MPU.opDECR") 601, Value.str (Str.ofString "/claim/cut.py") 602, Value.int 392 0, Value.int 2 0, Value.int 0 0, Value.int 0 0, Value.int 3 0, Value.ref 324, Value.bool Bool.true, Value.int 181 0, Value.ref 325, Value.none, Value.ref 326, Value.ref 327, Value.ref 328, Value.int 607 0, Value.int 392 0, Value.str (Str.ofString "/claim/cut.py") 608] }) ::
(nat_lit 330, { cls := Value.type "function", data := Data.func { name := Str.ofString "opDECR", qualname := Str.ofString "MPU.opDECR", params := sPar (pDef 57), body := FuncBody.stmts (sBody (pDef 57)), scope := sOwn (pDef 57), globals := 3, closure := [], defaults := Value.none, kwdefaults := Value.none, pyModule := Value.str (Str.ofString "py65.devices.mpu6502") 194, code := Value.ref 329 } }) ::
(nat_lit 343, { cls := Value.type "code", data := Data.fields #[Value.str (Str.ofString "opLDA") 620, Value.str (Str.ofString "MPU.opLDA") 621, Value.str (Str.ofString "/claim/cut.py") 622, Value.int 426 0, Value.int 2 0, Value.int 0 0, Value.int 0 0, Value.int 3 0, Value.ref 338, Value.bool Bool.true, Value.int 181 0, Value.ref 339, Value.none, Value.ref 340, Value.ref 341, Value.ref 342, Value.int 625 0, Value.int 426 0, Value.str (Str.ofString "/claim/cut.py") 626] }) ::
(nat_lit 344, { cls := Value.type "function", data := Data.func { name := Str.ofString "opLDA", qualname := Str.ofString "MPU.opLDA", params := sPar (pDef 59), body := FuncBody.stmts (sBody (pDef 59)), scope := sOwn (pDef 59), globals := 3, closure := [], defaults := Value.none, kwdefaults := Value.none, pyModule := Value.str (Str.ofString "py65.devices.mpu6502") 194, code := Value.ref 343 } }) ::
(nat_lit 413, { cls := Value.type "code", data := Data.fields #[Value.str (Str.ofString "inst_0x0a") 694, Value.str (Str.ofString "MPU.inst_0x0a") 695, Value.str (Str.ofString "/claim/cut.py") 696, Value.int 468 0, Value.int 1 0, Value.int 0 0, Value.int 0 0, Value.int 3 0, Value.ref 408, Value.bool Bool.true, Value.int 181 0, Value.ref 409, Value.none, Value.ref 410, Value.ref 411, Value.ref 412, Value.int 698 0, Value.int 468 0, Value.str (Str.ofString "/claim/cut.py") 699] }) ::
(nat_lit 414, { cls := Value.type "function", data := Data.func { name := Str.ofString "inst_0x0a", qualname := Str.ofString "MPU.inst_0x0a", params := sPar (pDef 69), body := FuncBody.stmts (sBody (pDef 69)), scope := sOwn (pDef 69), globals := 3, closure := [], defaults := Value.none, kwdefaults := Value.none, pyModule := Value.str (Str.ofString "py65.devices.mpu6502") 194, code := Value.ref 413 } }) ::
(nat_lit 462, { cls := Value.type "code", data := Data.fields #[Value.str (Str.ofString "inst_0x18") 743, Value.str (Str.ofString "MPU.inst_0x18") 744, Value.str (Str.ofString "/claim/cut.py") 745, Value.int 494 0, Value.int 1 0, Value.int 0 0, Value.int 0 0, Value.int 3 0, Value.ref 457, Value.bool Bool.true, Value.int 181 0, Value.ref 458, Value.none, Value.ref 459, Value.ref 460, Value.ref 461, Value.int 747 0, Value.int 494 0, Value.str (Str.ofString "/claim/cut.py") 748] }) ::
(nat_lit 463, { cls := Value.type "function", data := Data.func { name := Str.ofString "inst_0x18", qualname := Str.ofString "MPU.inst_0x18", params := sPar (pDef 76), body := FuncBody.stmts (sBody (pDef 76)), scope := sOwn (pDef 76), globals := 3, closure := [], defaults := Value.none, kwdefaults := Value.none, pyModule := Value.str (Str.ofString "py65.devices.mpu6502") 194, code := Value.ref 462 } }) ::
(nat_lit 532, { cls := Value.type "code", data := Data.fields #[Value.str (Str.ofString "inst_0x29") 813, Value.str (Str.ofString "MPU.inst_0x29") 814, Value.str (Str.ofString "/claim/cut.py") 815, Value.int 532 0, Value.int 1 0, Value.int 0 0, Value.int 0 0, Value.int 3 0, Value.ref 527, Value.bool Bool.true, Value.int 181 0, Value.ref 528, Value.none, Value.ref 529, Value.ref 530, Value.ref 531, Value.int 817 0, Value.int 532 0, Value.str (Str.ofString "/claim/cut.py") 818] }) ::
(nat_lit 533, { cls := Value.type "function", data := Data.func { name := Str.ofString "inst_0x29", qualname := Str.ofString "MPU.inst_0x29", params := sPar (pDef 86), body := FuncBody.stmts (sBody (pDef 86)), scope := sOwn (pDef 86), globals := 3, closure := [], defaults := Value.none, kwdefaults := Value.none, pyModule := Value.str (Str.ofString "py65.devices.mpu6502") 194, code := Value.ref 532 } }) ::
(nat_lit 539, { cls := Value.type "code", data := Data.fields #[Value.str (Str.ofString "inst_0x2a") 820, Value.str (Str.ofString "MPU.inst_0x2a") 821, Value.str (Str.ofString "/claim/cut.py") 822, Value.int 536 0, Value.int 1 0, Value.int 0 0, Value.int 0 0, Value.int 3 0, Value.ref 534, Value.bool Bool.true, Value.int 181 0, Value.ref 535, Value.none, Value.ref 536, Value.ref 537, Value.ref 538, Value.int 824 0, Value.int 536 0, Value.str (Str.ofString "/claim/cut.py") 825] }) ::
(nat_lit 540, { cls := Value.type "function", data := Data.func { name := Str.ofString "inst_0x2a", qualname := Str.ofString "MPU.inst_0x2a", params := sPar (pDef 87), body := FuncBody.stmts (sBody (pDef 87)), scope := sOwn (pDef 87), globals := 3, closure := [], defaults := Value.none, kwdefaults := Value.none, pyModule := Value.str (Str.ofString "py65.devices.mpu6502") 194, code := Value.ref 539 } }) ::
(nat_lit 595, { cls := Value.type "code", data := Data.fields #[Value.str (Str.ofString "inst_0x38") 876, Value.str (Str.ofString "MPU.inst_0x38") 877, Value.str (Str.ofString "/claim/cut.py") 878, Value.int 566 0, Value.int 1 0, Value.int 0 0, Value.int 0 0, Value.int 3 0, Value.ref 590, Value.bool Bool.true, Value.int 181 0, Value.ref 591, Value.none, Value.ref 592, Value.ref 593, Value.ref 594, Value.int 880 0, Value.int 566 0, Value.str (Str.ofString "/claim/cut.py") 881] }) ::
(nat_lit 596, { cls := Value.type "function", data := Data.func { name := Str.ofString "inst_0x38", qualname := Str.ofString "MPU.inst_0x38", params := sPar (pDef 95), body := FuncBody.stmts (sBody (pDef 95)), scope := sOwn (pDef 95), globals := 3, closure := [], defaults := Value.none, kwdefaults := Value.none, pyModule := Value.str (Str.ofString "py65.devices.mpu6502") 194, code := Value.ref 595 } }) ::
(nat_lit 651, { cls := Value.type "code", data := Data.fields #[Value.str (Str.ofString "inst_0x48") 932, Value.str (Str.ofString "MPU.inst_0x48") 933, Value.str (Str.ofString "/claim/cut.py") 934, Value.int 597 0, Value.int 1 0, Value.int 0 0, Value.int 0 0, Value.int 3 0, Value.ref 646, Value.bool Bool.true, Value.int 181 0, Value.ref 647, Value.none, Value.ref 648, Value.ref 649, Value.ref 650, Value.int 936 0, Value.int 597 0, Value.str (Str.ofString "/claim/cut.py") 937] }) ::
(nat_lit 652, { cls := Value.type "function", data := Data.func { name := Str.ofString "inst_0x48", qualname := Str.ofString "MPU.inst_0x48", params := sPar (pDef 103), body := FuncBody.stmts (sBody (pDef 103)), scope := sOwn (pDef 103), globals := 3, closure := [], defaults := Value.none, kwdefaults := Value.none, pyModule := Value.str (Str.ofString "py65.devices.mpu6502") 194, code := Value.ref 651 } }) ::
(nat_lit 658, { cls := Value.type "code", data := Data.fields #[Value.str (Str.ofString "inst_0x49") 939, Value.str (Str.ofString "MPU.inst_0x49") 940, Value.str (Str.ofString "/claim/cut.py") 941, Value.int 600 0, Value.int 1 0, Value.int 0 0, Value.int 0 0, Value.int 3 0, Value.ref 653, Value.bool Bool.true, Value.int 181 0, Value.ref 654, Value.none, Value.ref 655, Value.ref 656, Value.ref 657, Value.int 943 0, Value.int 600 0, Value.str (Str.ofString "/claim/cut.py") 944] }) ::
(nat_lit 659, { cls := Value.type "function", data := Data.func { name := Str.ofString "inst_0x49", qualname := Str.ofString "MPU.inst_0x49", params := sPar (pDef 104), body := FuncBody.stmts (sBody (pDef 104)), scope := sOwn (pDef 104), globals := 3, closure := [], defaults := Value.none, kwdefaults := Value.none, pyModule := Value.str (Str.ofString "py65.devices.mpu6502") 194, code := Value.ref 658 } }) ::
(nat_lit 672, { cls := Value.type "code", data := Data.fields #[Value.str (Str.ofString "inst_0x4c") 953, Value.str (Str.ofString "MPU.inst_0x4c") 954, Value.str (Str.ofString "/claim/cut.py") 955, Value.int 607 0, Value.int 1 0, Value.int 0 0, Value.int 0 0, Value.int 3 0, Value.ref 667, Value.bool Bool.true, Value.int 181 0, Value.ref 668, Value.none, Value.ref 669, Value.ref 670, Value.ref 671, Value.int 957 0, Value.int 607 0, Value.str (Str.ofString "/claim/cut.py") 958] }) ::
(nat_lit 673, { cls := Value.type "function", data := Data.func { name := Str.ofString "inst_0x4c", qualname := Str.ofString "MPU.inst_0x4c", params := sPar (pDef 106), body := FuncBody.stmts (sBody (pDef 106)), scope := sOwn (pDef 106), globals := 3, closure := [], defaults := Value.none, kwdefaults := Value.none, pyModule := Value.str (Str.ofString "py65.devices.mpu6502") 194, code := Value.ref 672 } }) ::
(nat_lit 777, { cls := Value.type "code", data := Data.fields #[Value.str (Str.ofString "inst_0x68") 1058, Value.str (Str.ofString "MPU.inst_0x68") 1059, Value.str (Str.ofString "/claim/cut.py") 1060, Value.int 664 0, Value.int 1 0, Value.int 0 0, Value.int 0 0, Value.int 3 0, Value.ref 772, Value.bool Bool.true, Value.int 181 0, Value.ref 773, Value.none, Value.ref 774, Value.ref 775, Value.ref 776, Value.int 1062 0, Value.int 664 0, Value.str (Str.ofString "/claim/cut.py") 1063] }) ::
(nat_lit 778, { cls := Value.type "function", data := Data.func { name := Str.ofString "inst_0x68", qualname := Str.ofString "MPU.inst_0x68", params := sPar (pDef 121), body := FuncBody.stmts (sBody (pDef 121)), scope := sOwn (pDef 121), globals := 3, closure := [], defaults := Value.none, kwdefaults := Value.none, pyModule := Value.str (Str.ofString "py65.devices.mpu6502") 194, code := Value.ref 777 } }) ::
(nat_lit 798, { cls := Value.type "code", data := Data.fields #[Value.str (Str.ofString "inst_0x6c") 1079, Value.str (Str.ofString "MPU.inst_0x6c") 1080, Value.str (Str.ofString "/claim/cut.py") 1081, Value.int 675 0, Value.int 1 0, Value.int 0 0, Value.int 0 0, Value.int 3 0, Value.ref 793, Value.bool Bool.true, Value.int 181 0, Value.ref 794, Value.none, Value.ref 795, Value.ref 796, Value.ref 797, Value.int 1084 0, Value.int 675 0, Value.str (Str.ofString "/claim/cut.py") 1085] }) ::
(nat_lit 799, { cls := Value.type "function", data := Data.func { name := Str.ofString "inst_0x6c", qualname := Str.ofString "MPU.inst_0x6c", params := sPar (pDef 124), body := FuncBody.stmts (sBody (pDef 124)), scope := sOwn (pDef 124), globals := 3, closure := [], defaults := Value.none, kwdefaults := Value.none, pyModule := Value.str (Str.ofString "py65.devices.mpu6502") 194, code := Value.ref 798 } }) ::
(nat_lit 833, { cls := Value.type "code", data := Data.fields #[Value.str (Str.ofString "inst_0x75") 1115, Value.str (Str.ofString "MPU.inst_0x75") 1116, Value.str (Str.ofString "/claim/cut.py") 1117, Value.int 694 0, Value.int 1 0, Value.int 0 0, Value.int 0 0, Value.int 3 0, Value.ref 828, Value.bool Bool.true, Value.int 181 0, Value.ref 829, Value.none, Value.ref 830, Value.ref 831, Value.ref 832, Value.int 1119 0, Value.int 694 0, Value.str (Str.ofString "/claim/cut.py") 1120] }) ::
(nat_lit 834, { cls := Value.type "function", data := Data.func { name := Str.ofString "inst_0x75", qualname := Str.ofString "MPU.inst_0x75", params := sPar (pDef 129), body := FuncBody.stmts (sBody (pDef 129)), scope := sOwn (pDef 129), globals := 3, closure := [], defaults := Value.none, kwdefaults := Value.none, pyModule := Value.str (Str.ofString "py65.devices.mpu6502") 194, code := Value.ref 833 } }) ::
(nat_lit 840, { cls := Value.type "code", data := Data.fields #[Value.str (Str.ofString "inst_0x76") 1122, Value.str (Str.ofString "MPU.inst_0x76") 1123, Value.str (Str.ofString "/claim/cut.py") 1124, Value.int 698 0, Value.int 1 0, Value.int 0 0, Value.int 0 0, Value.int 3 0, Value.ref 835, Value.bool Bool.true, Value.int 181 0, Value.ref 836, Value.none, Value.ref 837, Value.ref 838, Value.ref 839, Value.int 1126 0, Value.int 698 0, Value.str (Str.ofString "/claim/cut.py") 1127] }) ::
(nat_lit 841, { cls := Value.type "function", data := Data.func { name := Str.ofString "inst_0x76", qualname := Str.ofString "MPU.inst_0x76", params := sPar (pDef 130), body := FuncBody.stmts (sBody (pDef 130)), scope := sOwn (pDef 130), globals := 3, closure := [], defaults := Value.none, kwdefaults := Value.none, pyModule := Value.str (Str.ofString "py65.devices.mpu6502") 194, code := Value.ref 840 } }) ::
(nat_lit 889, { cls := Value.type "code", data := Data.fields #[Value.str (Str.ofString "inst_0x85") 1171, Value.str (Str.ofString "MPU.inst_0x85") 1172, Value.str (Str.ofString "/claim/cut.py") 1173, Value.int 725 0, Value.int 1 0, Value.int 0 0, Value.int 0 0, Value.int 3 0, Value.ref 884, Value.bool Bool.true, Value.int 181 0, Value.ref 885, Value.none, Value.ref 886, Value.ref 887, Value.ref 888, Value.int 1175 0, Value.int 725 0, Value.str (Str.ofString "/claim/cut.py") 1176] }) ::
(nat_lit 890, { cls := Value.type "function", data := Data.func { name := Str.ofString "inst_0x85", qualname := Str.ofString "MPU.inst_0x85", params := sPar (pDef 137), body := FuncBody.stmts (sBody (pDef 137)), scope := sOwn (pDef 137), globals := 3, closure := [], defaults := Value.none, kwdefaults := Value.none, pyModule := Value.str (Str.ofString "py65.devices.mpu6502") 194, code := Value.ref 889 } }) ::
(nat_lit 903, { cls := Value.type "code", data := Data.fields #[Value.str (Str.ofString "inst_0x88") 1185, Value.str (Str.ofString "MPU.inst_0x88") 1186, Value.str (Str.ofString "/claim/cut.py") 1187, Value.int 733 0, Value.int 1 0, Value.int 0 0, Value.int 0 0, Value.int 3 0, Value.ref 898, Value.bool Bool.true, Value.int 181 0, Value.ref 899, Value.none, Value.ref 900, Value.ref 901, Value.ref 902, Value.int 1189 0, Value.int 733 0, Value.str (Str.ofString "/claim/cut.py") 1190] }) ::
(nat_lit 904, { cls := Value.type "function", data := Data.func { name := Str.ofString "inst_0x88", qualname := Str.ofString "MPU.inst_0x88", params := sPar (pDef 139), body := FuncBody.stmts (sBody (pDef 139)), scope := sOwn (pDef 139), globals := 3, closure := [], defaults := Value.none, kwdefaults := Value.none, pyModule := Value.str (Str.ofString "py65.devices.mpu6502") 194, code := Value.ref 903 } }) ::
(nat_lit 924, { cls := Value.type "code", data := Data.fields #[Value.str (Str.ofString "inst_0x8d") 1206, Value.str (Str.ofString "MPU.inst_0x8d") 1207, Value.str (Str.ofString "/claim/cut.py") 1208, Value.int 746 0, Value.int 1 0, Value.int 0 0, Value.int 0 0, Value.int 3 0, Value.ref 919, Value.bool Bool.true, Value.int 181 0, Value.ref 920, Value.none, Value.ref 921, Value.ref 922, Value.ref 923, Value.int 1210 0, Value.int 746 0, Value.str (Str.ofString "/claim/cut.py") 1211] }) ::
(nat_lit 925, { cls := Value.type "function", data := Data.func { name := Str.ofString "inst_0x8d", qualname := Str.ofString "MPU.inst_0x8d", params := sPar (pDef 142), body := FuncBody.stmts (sBody (pDef 142)), scope := sOwn (pDef 142), globals := 3, closure := [], defaults := Value.none, kwdefaults := Value.none, pyModule := Value.str (Str.ofString "py65.devices.mpu6502") 194, code := Value.ref 924 } }) ::
(nat_lit 959, { cls := Value.type "code", data := Data.fields #[Value.str (Str.ofString "inst_0x95") 1241, Value.str (Str.ofString "MPU.inst_0x95") 1242, Value.str (Str.ofString "/claim/cut.py") 1243, Value.int 765 0, Value.int 1 0, Value.int 0 0, Value.int 0 0, Value.int 3 0, Value.ref 954, Value.bool Bool.true, Value.int 181 0, Value.ref 955, Value.none, Value.ref 956, Value.ref 957, Value.ref 958, Value.int 1245 0, Value.int 765 0, Value.str (Str.ofString "/claim/cut.py") 1246] }) ::
(nat_lit 960, { cls := Value.type "function", data := Data.func { name := Str.ofString "inst_0x95", qualname := Str.ofString "MPU.inst_0x95", params := sPar (pDef 147), body := FuncBody.stmts (sBody (pDef 147)), scope := sOwn (pDef 147), globals := 3, closure := [], defaults := Value.none, kwdefaults := Value.none, pyModule := Value.str (Str.ofString "py65.devices.mpu6502") 194, code := Value.ref 959 } }) ::
(nat_lit 973, { cls := Value.type "code", data := Data.fields #[Value.str (Str.ofString "inst_0x98") 1255, Value.str (Str.ofString "MPU.inst_0x98") 1256, Value.str (Str.ofString "/claim/cut.py") 1257, Value.int 773 0, Value.int 1 0, Value.int 0 0, Value.int 0 0, Value.int 3 0, Value.ref 968, Value.bool Bool.true, Value.int 181 0, Value.ref 969, Value.none, Value.ref 970, Value.ref 971, Value.ref 972, Value.int 1259 0, Value.int 773 0, Value.str (Str.ofString "/claim/cut.py") 1260] }) ::
(nat_lit 974, { cls := Value.type "function", data := Data.func { name := Str.ofString "inst_0x98", qualname := Str.ofString "MPU.inst_0x98", params := sPar (pDef 149), body := FuncBody.stmts (sBody (pDef 149)), scope := sOwn (pDef 149), globals := 3, closure := [], defaults := Value.none, kwdefaults := Value.none, pyModule := Value.str (Str.ofString "py65.devices.mpu6502") 194, code := Value.ref 973 } }) ::
(nat_lit 1029, { cls := Value.type "code", data := Data.fields #[Value.str (Str.ofString "inst_0xa5") 1311, Value.str (Str.ofString "MPU.inst_0xa5") 1312, Value.str (Str.ofString "/claim/cut.py") 1313, Value.int 804 0, Value.int 1 0, Value.int 0 0, Value.int 0 0, Value.int 3 0, Value.ref 1024, Value.bool Bool.true, Value.int 181 0, Value.ref 1025, Value.none, Value.ref 1026, Value.ref 1027, Value.ref 1028, Value.int 1315 0, Value.int 804 0, Value.str (Str.ofString "/claim/cut.py") 1316] }) ::
(nat_lit 1030, { cls := Value.type "function", data := Data.func { name := Str.ofString "inst_0xa5", qualname := Str.ofString "MPU.inst_0xa5", params := sPar (pDef 157), body := FuncBody.stmts (sBody (pDef 157)), scope := sOwn (pDef 157), globals := 3, closure := [], defaults := Value.none, kwdefaults := Value.none, pyModule := Value.str (Str.ofString "py65.devices.mpu6502") 194, code := Value.ref 1029 } }) ::
(nat_lit 1043, { cls := Value.type "code", data := Data.fields #[Value.str (Str.ofString "inst_0xa8") 1325, Value.str (Str.ofString "MPU.inst_0xa8") 1326, Value.str (Str.ofString "/claim/cut.py") 1327, Value.int 812 0, Value.int 1 0, Value.int 0 0, Value.int 0 0, Value.int 3 0, Value.ref 1038, Value.bool Bool.true, Value.int 181 0, Value.ref 1039, Value.none, Value.ref 1040, Value.ref 1041, Value.ref 1042, Value.int 1329 0, Value.int 812 0, Value.str (Str.ofString "/claim/cut.py") 1330] }) ::
(nat_lit 1044, { cls := Value.type "function", data := Data.func { name := Str.ofString "inst_0xa8", qualname := Str.ofString "MPU.inst_0xa8", params := sPar (pDef 159), body := FuncBody.stmts (sBody (pDef 159)), scope := sOwn (pDef 159), globals := 3, closure := [], defaults := Value.none, kwdefaults := Value.none, pyModule := Value.str (Str.ofString "py65.devices.mpu6502") 194, code := Value.ref 1043 } }) ::
(nat_lit 1050, { cls := Value.type "code", data := Data.fields #[Value.str (Str.ofString "inst_0xa9") 1332, Value.str (Str.ofString "MPU.inst_0xa9") 1333, Value.str (Str.ofString "/claim/cut.py") 1334, Value.int 816 0, Value.int 1 0, Value.int 0 0, Value.int 0 0, Value.int 3 0, Value.ref 1045, Value.bool Bool.true, Value.int 181 0, Value.ref 1046, Value.none, Value.ref 1047, Value.ref 1048, Value.ref 1049, Value.int 1336 0, Value.int 816 0, Value.str (Str.ofString "/claim/cut.py") 1337] }) ::
(nat_lit 1051, { cls := Value.type "function", data := Data.func { name := Str.ofString "inst_0xa9", qualname := Str.ofString "MPU.inst_0xa9", params := sPar (pDef 160), body := FuncBody.stmts (sBody (pDef 160)), scope := sOwn (pDef 160), globals := 3, closure := [], defaults := Value.none, kwdefaults := Value.none, pyModule := Value.str (Str.ofString "py65.devices.mpu6502") 194, code := Value.ref 1050 } }) ::
(nat_lit 1106, { cls := Value.type "code", data := Data.fields #[Value.str (Str.ofString "inst_0xb5") 1388, Value.str (Str.ofString "MPU.inst_0xb5") 1389, Value.str (Str.ofString "/claim/cut.py") 1390, Value.int 847 0, Value.int 1 0, Value.int 0 0, Value.int 0 0, Value.int 3 0, Value.ref 1101, Value.bool Bool.true, Value.int 181 0, Value.ref 1102, Value.none, Value.ref 1103, Value.ref 1104, Value.ref 1105, Value.int 1392 0, Value.int 847 0, Value.str (Str.ofString "/claim/cut.py") 1393] }) ::
(nat_lit 1107, { cls := Value.type "function", data := Data.func { name := Str.ofString "inst_0xb5", qualname := Str.ofString "MPU.inst_0xb5", params := sPar (pDef 168), body := FuncBody.stmts (sBody (pDef 168)), scope := sOwn (pDef 168), globals := 3, closure := [], defaults := Value.none, kwdefaults := Value.none, pyModule := Value.str (Str.ofString "py65.devices.mpu6502") 194, code := Value.ref 1106 } }) ::
(nat_lit 1127, { cls := Value.type "code", data := Data.fields #[Value.str (Str.ofString "inst_0xb9") 1409, Value.str (Str.ofString "MPU.inst_0xb9") 1410, Value.str (Str.ofString "/claim/cut.py") 1411, Value.int 858 0, Value.int 1 0, Value.int 0 0, Value.int 0 0, Value.int 3 0, Value.ref 1122, Value.bool Bool.true, Value.int 181 0, Value.ref 1123, Value.none, Value.ref 1124, Value.ref 1125, Value.ref 1126, Value.int 1413 0, Value.int 858 0, Value.str (Str.ofString "/claim/cut.py") 1414] }) ::
(nat_lit 1128, { cls := Value.type "function", data := Data.func { name := Str.ofString "inst_0xb9", qualname := Str.ofString "MPU.inst_0xb9", params := sPar (pDef 171), body := FuncBody.stmts (sBody (pDef 171)), scope := sOwn (pDef 171), globals := 3, closure := [], defaults := Value.none, kwdefaults := Value.none, pyModule := Value.str (Str.ofString "py65.devices.mpu6502") 194, code := Value.ref 1127 } }) ::
(nat_lit 1197, { cls := Value.type "code", data := Data.fields #[Value.str (Str.ofString "inst_0xc8") 1479, Value.str (Str.ofString "MPU.inst_0xc8") 1480, Value.str (Str.ofString "/claim/cut.py") 1481, Value.int 898 0, Value.int 1 0, Value.int 0 0, Value.int 0 0, Value.int 3 0, Value.ref 1192, Value.bool Bool.true, Value.int 181 0, Value.ref 1193, Value.none, Value.ref 1194, Value.ref 1195, Value.ref 1196, Value.int 1483 0, Value.int 898 0, Value.str (Str.ofString "/claim/cut.py") 1484] }) ::
(nat_lit 1198, { cls := Value.type "function", data := Data.func { name := Str.ofString "inst_0xc8", qualname := Str.ofString "MPU.inst_0xc8", params := sPar (pDef 181), body := FuncBody.stmts (sBody (pDef 181)), scope := sOwn (pDef 181), globals := 3, closure := [], defaults := Value.none, kwdefaults := Value.none, pyModule := Value.str (Str.ofString "py65.devices.mpu6502") 194, code := Value.ref 1197 } }) ::
(nat_lit 1211, { cls := Value.type "code", data := Data.fields #[Value.str (Str.ofString "inst_0xca") 1493, Value.str (Str.ofString "MPU.inst_0xca") 1494, Value.str (Str.ofString "/claim/cut.py") 1495, Value.int 907 0, Value.int 1 0, Value.int 0 0, Value.int 0 0, Value.int 3 0, Value.ref 1206, Value.bool Bool.true, Value.int 181 0, Value.ref 1207, Value.none, Value.ref 1208, Value.ref 1209, Value.ref 1210, Value.int 1497 0, Value.int 907 0, Value.str (Str.ofString "/claim/cut.py") 1498] }) ::
(nat_lit 1212, { cls := Value.type "function", data := Data.func { name := Str.ofString "inst_0xca", qualname := Str.ofString "MPU.inst_0xca", params := sPar (pDef 183), body := FuncBody.stmts (sBody (pDef 183)), scope := sOwn (pDef 183), globals := 3, closure := [], defaults := Value.none, kwdefaults := Value.none, pyModule := Value.str (Str.ofString "py65.devices.mpu6502") 194, code := Value.ref 1211 } }) ::
(nat_lit 1239, { cls := Value.type "code", data := Data.fields #[Value.str (Str.ofString "inst_0xd0") 1521, Value.str (Str.ofString "MPU.inst_0xd0") 1522, Value.str (Str.ofString "/claim/cut.py") 1523, Value.int 924 0, Value.int 1 0, Value.int 0 0, Value.int 0 0, Value.int 3 0, Value.ref 1234, Value.bool Bool.true, Value.int 181 0, Value.ref 1235, Value.none, Value.ref 1236, Value.ref 1237, Value.ref 1238, Value.int 1525 0, Value.int 924 0, Value.str (Str.ofString "/claim/cut.py") 1526] }) ::
(nat_lit 1240, { cls := Value.type "function", data := Data.func { name := Str.ofString "inst_0xd0", qualname := Str.ofString "MPU.inst_0xd0", params := sPar (pDef 187), body := FuncBody.stmts (sBody (pDef 187)), scope := sOwn (pDef 187), globals := 3, closure := [], defaults := Value.none, kwdefaults := Value.none, pyModule := Value.str (Str.ofString "py65.devices.mpu6502") 194, code := Value.ref 1239 } }) ::
(nat_lit 1253, { cls := Value.type "code", data := Data.fields #[Value.str (Str.ofString "inst_0xd5") 1535, Value.str (Str.ofString "MPU.inst_0xd5") 1536, Value.str (Str.ofString "/claim/cut.py") 1537, Value.int 931 0, Value.int 1 0, Value.int 0 0, Value.int 0 0, Value.int 3 0, Value.ref 1248, Value.bool Bool.true, Value.int 181 0, Value.ref 1249, Value.none, Value.ref 1250, Value.ref 1251, Value.ref 1252, Value.int 1539 0, Value.int 931 0, Value.str (Str.ofString "/claim/cut.py") 1540] }) ::
(nat_lit 1254, { cls := Value.type "function", data := Data.func { name := Str.ofString "inst_0xd5", qualname := Str.ofString "MPU.inst_0xd5", params := sPar (pDef 189), body := FuncBody.stmts (sBody (pDef 189)), scope := sOwn (pDef 189), globals := 3, closure := [], defaults := Value.none, kwdefaults := Value.none, pyModule := Value.str (Str.ofString "py65.devices.mpu6502") 194, code := Value.ref 1253 } }) ::
(nat_lit 1260, { cls := Value.type "code", data := Data.fields #[Value.str (Str.ofString "inst_0xd6") 1542, Value.str (Str.ofString "MPU.inst_0xd6") 1543, Value.str (Str.ofString "/claim/cut.py") 1544, Value.int 935 0, Value.int 1 0, Value.int 0 0, Value.int 0 0, Value.int 3 0, Value.ref 1255, Value.bool Bool.true, Value.int 181 0, Value.ref 1256, Value.none, Value.ref 1257, Value.ref 1258, Value.ref 1259, Value.int 1546 0, Value.int 935 0, Value.str (Str.ofString "/claim/cut.py") 1547] }) ::
(nat_lit 1261, { cls := Value.type "function", data := Data.func { name := Str.ofString "inst_0xd6", qualname := Str.ofString "MPU.inst_0xd6", params := sPar (pDef 190), body := FuncBody.stmts (sBody (pDef 190)), scope := sOwn (pDef 190), globals := 3, closure := [], defaults := Value.none, kwdefaults := Value.none, pyModule := Value.str (Str.ofString "py65.devices.mpu6502") 194, code := Value.ref 1260 } }) ::
(nat_lit 1330, { cls := Value.type "code", data := Data.fields #[Value.str (Str.ofString "inst_0xe8") 1612, Value.str (Str.ofString "MPU.inst_0xe8") 1613, Value.str (Str.ofString "/claim/cut.py") 1614, Value.int 974 0, Value.int 1 0, Value.int 0 0, Value.int 0 0, Value.int 3 0, Value.ref 1325, Value.bool Bool.true, Value.int 181 0, Value.ref 1326, Value.none, Value.ref 1327, Value.ref 1328, Value.ref 1329, Value.int 1616 0, Value.int 974 0, Value.str (Str.ofString "/claim/cut.py") 1617] }) ::
(nat_lit 1331, { cls := Value.type "function", data := Data.func { name := Str.ofString "inst_0xe8", qualname := Str.ofString "MPU.inst_0xe8", params := sPar (pDef 200), body := FuncBody.stmts (sBody (pDef 200)), scope := sOwn (pDef 200), globals := 3, closure := [], defaults := Value.none, kwdefaults := Value.none, pyModule := Value.str (Str.ofString "py65.devices.mpu6502") 194, code := Value.ref 1330 } }) ::
(nat_lit 1372, { cls := Value.type "code", data := Data.fields #[Value.str (Str.ofString "inst_0xf0") 1654, Value.str (Str.ofString "MPU.inst_0xf0") 1655, Value.str (Str.ofString "/claim/cut.py") 1656, Value.int 998 0, Value.int 1 0, Value.int 0 0, Value.int 0 0, Value.int 3 0, Value.ref 1367, Value.bool Bool.true, Value.int 181 0, Value.ref 1368, Value.none, Value.ref 1369, Value.ref 1370, Value.ref 1371, Value.int 1658 0, Value.int 998 0, Value.str (Str.ofString "/claim/cut.py") 1659] }) ::
(nat_lit 1373, { cls := Value.type "function", data := Data.func { name := Str.ofString "inst_0xf0", qualname := Str.ofString "MPU.inst_0xf0", params := sPar (pDef 206), body := FuncBody.stmts (sBody (pDef 206)), scope := sOwn (pDef 206), globals := 3, closure := [], defaults := Value.none, kwdefaults := Value.none, pyModule := Value.str (Str.ofString "py65.devices.mpu6502") 194, code := Value.ref 1372 } }) ::
(nat_lit 1386, { cls := Value.type "code", data := Data.fields #[Value.str (Str.ofString "inst_0xf5") 1668, Value.str (Str.ofString "MPU.inst_0xf5") 1669, Value.str (Str.ofString "/claim/cut.py") 1670, Value.int 1005 0, Value.int 1 0, Value.int 0 0, Value.int 0 0, Value.int 3 0, Value.ref 1381, Value.bool Bool.true, Value.int 181 0, Value.ref 1382, Value.none, Value.ref 1383, Value.ref 1384, Value.ref 1385, Value.int 1672 0, Value.int 1005 0, Value.str (Str.ofString "/claim/cut.py") 1673] }) ::
(nat_lit 1387, { cls := Value.type "function", data := Data.func { name := Str.ofString "inst_0xf5", qualname := Str.ofString "MPU.inst_0xf5", params := sPar (pDef 208), body := FuncBody.stmts (sBody (pDef 208)), scope := sOwn (pDef 208), globals := 3, closure := [], defaults := Value.none, kwdefaults := Value.none, pyModule := Value.str (Str.ofString "py65.devices.mpu6502") 194, code := Value.ref 1386 } }) ::
(nat_lit 1423, { cls := Value.type "list", data := Data.seq #[Value.ref 372, Value.ref 379, Value.ref 365, Value.ref 365, Value.ref 365, Value.ref 386, Value.ref 393, Value.ref 365, Value.ref 400, Value.ref 407, Value.ref 414, Value.ref 365, Value.ref 365, Value.ref 421, Value.ref 428, Value.ref 365, Value.ref 435, Value.ref 442, Value.ref 365, Value.ref 365, Value.ref 365, Value.ref 449, Value.ref 456, Value.ref 365, Value.ref 463, Value.ref 470, Value.ref 365, Value.ref 365, Value.ref 365, Value.ref 477, Value.ref 484, Value.ref 365, Value.ref 491, Value.ref 498, Value.ref 365, Value.ref 365, Value.ref 505, Value.ref 512, Value.ref 519, Value.ref 365, Value.ref 526, Value.ref 533, Value.ref 540, Value.ref 365, Value.ref 547, Value.ref 554, Value.ref 561, Value.ref 365, Value.ref 568, Value.ref 575, Value.ref 365, Value.ref 365, Value.ref 365, Value.ref 582, Value.ref 589, Value.ref 365, Value.ref 596, Value.ref 603, Value.ref 365, Value.ref 365, Value.ref 365, Value.ref 610, Value.ref 617, Value.ref 365, Value.ref 624, Value.ref 631, Value.ref 365, Value.ref 365, Value.ref 365, Value.ref 638, Value.ref 645, Value.ref 365, Value.ref 652, Value.ref 659, Value.ref 666, Value.ref 365, Value.ref 673, Value.ref 680, Value.ref 687, Value.ref 365, Value.ref 694, Value.ref 701, Value.ref 365, Value.ref 365, Value.ref 365, Value.ref 708, Value.ref 715, Value.ref 365, Value.ref 722, Value.ref 729, Value.ref 365, Value.ref 365, Value.ref 365, Value.ref 736, Value.ref 743, Value.ref 365, Value.ref 750, Value.ref 757, Value.ref 365, Value.ref 365, Value.ref 365, Value.ref 764, Value.ref 771, Value.ref 365, Value.ref 778, Value.ref 785, Value.ref 792, Value.ref 365, Value.ref 799, Value.ref 806, Value.ref 813, Value.ref 365, Value.ref 820, Value.ref 827, Value.ref 365, Value.ref 365, Value.ref 365, Value.ref 834, Value.ref 841, Value.ref 365, Value.ref 848, Value.ref 855, Value.ref 365, Value.ref 365, Value.ref 365, Value.ref 862, Value.ref 869, Value.ref 365, Value.ref 365, Value.ref 876, Value.ref 365, Value.ref 365, Value.ref 883, Value.ref 890, Value.ref 897, Value.ref 365, Value.ref 904, Value.ref 365, Value.ref 911, Value.ref 365, Value.ref 918, Value.ref 925, Value.ref 932, Value.ref 365, Value.ref 939, Value.ref 946, Value.ref 365, Value.ref 365, Value.ref 953, Value.ref 960, Value.ref 967, Value.ref 365, Value.ref 974, Value.ref 981, Value.ref 988, Value.ref 365, Value.ref 365, Value.ref 995, Value.ref 365, Value.ref 365, Value.ref 1002, Value.ref 1009, Value.ref 1016, Value.ref 365, Value.ref 1023, Value.ref 1030, Value.ref 1037, Value.ref 365, Value.ref 1044, Value.ref 1051, Value.ref 1058, Value.ref 365, Value.ref 1065, Value.ref 1072, Value.ref 1079, Value.ref 365, Value.ref 1086, Value.ref 1093, Value.ref 365, Value.ref 365, Value.ref 1100, Value.ref 1107, Value.ref 1114, Value.ref 365, Value.ref 1121, Value.ref 1128, Value.ref 1135, Value.ref 365, Value.ref 1142, Value.ref 1149, Value.ref 1156, Value.ref 365, Value.ref 1163, Value.ref 1170, Value.ref 365, Value.ref 365, Value.ref 1177, Value.ref 1184, Value.ref 1191, Value.ref 365, Value.ref 1198, Value.ref 1205, Value.ref 1212, Value.ref 365, Value.ref 1219, Value.ref 1226, Value.ref 1233, Value.ref 365, Value.ref 1240, Value.ref 1247, Value.ref 365, Value.ref 365, Value.ref 365, Value.ref 1254, Value.ref 1261, Value.ref 365, Value.ref 1268, Value.ref 1275, Value.ref 365, Value.ref 365, Value.ref 365, Value.ref 1282, Value.ref 1289, Value.ref 365, Value.ref 1296, Value.ref 1303, Value.ref 365, Value.ref 365, Value.ref 1310, Value.ref 1317, Value.ref 1324, Value.ref 365, Value.ref 1331, Value.ref 1338, Value.ref 1345, Value.ref 365, Value.ref 1352, Value.ref 1359, Value.ref 1366, Value.ref 365, Value.ref 1373, Value.ref 1380, Value.ref 365, Value.ref 365, Value.ref 365, Value.ref 1387, Value.ref 1394, Value.ref 365, Value.ref 1401, Value.ref 1408, Value.ref 365, Value.ref 365, Value.ref 365, Value.ref 1415, Value.ref 1422, Value.ref 365] }) ::
(nat_lit 1424, { cls := Value.type "list", data := Data.seq #[Value.int 7 1711, Value.int 6 1712, Value.int 0 1713, Value.int 0 1714, Value.int 0 1715, Value.int 3 1716, Value.int 5 1717, Value.int 0 1718, Value.int 3 1719, Value.int 2 1720, Value.int 2 1721, Value.int 0 1722, Value.int 0 1723, Value.int 4 1724, Value.int 6 1725, Value.int 0 1726, Value.int 2 1727, Value.int 5 1728, Value.int 0 1729, Value.int 0 1730, Value.int 0 1731, Value.int 4 1732, Value.int 6 1733, Value.int 0 1734, Value.int 2 1735, Value.int 4 1736, Value.int 0 1737, Value.int 0 1738, Value.int 0 1739, Value.int 4 1740, Value.int 7 1741, Value.int 0 1742, Value.int 6 1743, Value.int 6 1744, Value.int 0 1745, Value.int 0 1746, Value.int 3 1747, Value.int 3 1748, Value.int 5 1749, Value.int 0 1750, Value.int 4 1751, Value.int 2 1752, Value.int 2 1753, Value.int 0 1754, Value.int 4 1755, Value.int 4 1756, Value.int 6 1757, Value.int 0 1758, Value.int 2 1759, Value.int 5 1760, Value.int 0 1761, Value.int 0 1762, Value.int 0 1763, Value.int 4 1764, Value.int 6 1765, Value.int 0 1766, Value.int 2 1767, Value.int 4 1768, Value.int 0 1769, Value.int 0 1770, Value.int 0 1771, Value.int 4 1772, Value.int 7 1773, Value.int 0 1774, Value.int 6 1775, Value.int 6 1776, Value.int 0 1777, Value.int 0 1778, Value.int 0 1779, Value.int 3 1780, Value.int 5 1781, Value.int 0 1782, Value.int 3 1783, Value.int 2 1784, Value.int 2 1785, Value.int 0 1786, Value.int 3 1787, Value.int 4 1788, Value.int 6 1789, Value.int 0 1790, Value.int 2 1791, Value.int 5 1792, Value.int 0 1793, Value.int 0 1794, Value.int 0 1795, Value.int 4 1796, Value.int 6 1797, Value.int 0 1798, Value.int 2 1799, Value.int 4 1800, Value.int 0 1801, Value.int 0 1802, Value.int 0 1803, Value.int 4 1804, Value.int 7 1805, Value.int 0 1806, Value.int 6 1807, Value.int 6 1808, Value.int 0 1809, Value.int 0 1810, Value.int 0 1811, Value.int 3 1812, Value.int 5 1813, Value.int 0 1814, Value.int 4 1815, Value.int 2 1816, Value.int 2 1817, Value.int 0 1818, Value.int 5 1819, Value.int 4 1820, Value.int 6 1821, Value.int 0 1822, Value.int 2 1823, Value.int 5 1824, Value.int 0 1825, Value.int 0 1826, Value.int 0 1827, Value.int 4 1828, Value.int 6 1829, Value.int 0 1830, Value.int 2 1831, Value.int 4 1832, Value.int 0 1833, Value.int 0 1834, Value.int 0 1835, Value.int 4 1836, Value.int 7 1837, Value.int 0 1838, Value.int 0 1839, Value.int 6 1840, Value.int 0 1841, Value.int 0 1842, Value.int 3 1843, Value.int 3 1844, Value.int 3 1845, Value.int 0 1846, Value.int 2 1847, Value.int 0 1848, Value.int 2 1849, Value.int 0 1850, Value.int 4 1851, Value.int 4 1852, Value.int 4 1853, Value.int 0 1854, Value.int 2 1855, Value.int 6 1856, Value.int 0 1857, Value.int 0 1858, Value.int 4 1859, Value.int 4 1860, Value.int 4 1861, Value.int 0 1862, Value.int 2 1863, Value.int 5 1864, Value.int 2 1865, Value.int 0 1866, Value.int 0 1867, Value.int 5 1868, Value.int 0 1869, Value.int 0 1870, Value.int 2 1871, Value.int 6 1872, Value.int 2 1873, Value.int 0 1874, Value.int 3 1875, Value.int 3 1876, Value.int 3 1877, Value.int 0 1878, Value.int 2 1879, Value.int 2 1880, Value.int 2 1881, Value.int 0 1882, Value.int 4 1883, Value.int 4 1884, Value.int 4 1885, Value.int 0 1886, Value.int 2 1887, Value.int 5 1888, Value.int 0 1889, Value.int 0 1890, Value.int 4 1891, Value.int 4 1892, Value.int 4 1893, Value.int 0 1894, Value.int 2 1895, Value.int 4 1896, Value.int 2 1897, Value.int 0 1898, Value.int 4 1899, Value.int 4 1900, Value.int 4 1901, Value.int 0 1902, Value.int 2 1903, Value.int 6 1904, Value.int 0 1905, Value.int 0 1906, Value.int 3 1907, Value.int 3 1908, Value.int 5 1909, Value.int 0 1910, Value.int 2 1911, Value.int 2 1912, Value.int 2 1913, Value.int 0 1914, Value.int 4 1915, Value.int 4 1916, Value.int 3 1917, Value.int 0 1918, Value.int 2 1919, Value.int 5 1920, Value.int 0 1921, Value.int 0 1922, Value.int 0 1923, Value.int 4 1924, Value.int 6 1925, Value.int 0 1926, Value.int 2 1927, Value.int 4 1928, Value.int 0 1929, Value.int 0 1930, Value.int 0 1931, Value.int 4 1932, Value.int 7 1933, Value.int 0 1934, Value.int 2 1935, Value.int 6 1936, Value.int 0 1937, Value.int 0 1938, Value.int 3 1939, Value.int 3 1940, Value.int 5 1941, Value.int 0 1942, Value.int 2 1943, Value.int 2 1944, Value.int 2 1945, Value.int 0 1946, Value.int 4 1947, Value.int 4 1948, Value.int 6 1949, Value.int 0 1950, Value.int 2 1951, Value.int 5 1952, Value.int 0 1953, Value.int 0 1954, Value.int 0 1955, Value.int 4 1956, Value.int 6 1957, Value.int 0 1958, Value.int 2 1959, Value.int 4 1960, Value.int 0 1961, Value.int 0 1962, Value.int 0 1963, Value.int 4 1964, Value.int 7 1965, Value.int 0 1966] }) ::
(nat_lit 1425, { cls := Value.type "list", data := Data.seq #[Value.int 0 1968, Value.int 0 1969, Value.int 0 1970, Value.int 0 1971, Value.int 0 1972, Value.int 0 1973, Value.int 0 1974, Value.int 0 1975, Value.int 0 1976, Value.int 0 1977, Value.int 0 1978, Value.int 0 1979, Value.int 0 1980, Value.int 0 1981, Value.int 0 1982, Value.int 0 1983, Value.int 2 1984, Value.int 1 1985, Value.int 0 1986, Value.int 0 1987, Value.int 0 1988, Value.int 0 1989, Value.int 0 1990, Value.int 0 1991, Value.int 0 1992, Value.int 1 1993, Value.int 0 1994, Value.int 0 1995, Value.int 0 1996, Value.int 1 1997, Value.int 0 1998, Value.int 0 1999, Value.int 0 2000, Value.int 0 2001, Value.int 0 2002, Value.int 0 2003, Value.int 0 2004, Value.int 0 2005, Value.int 0 2006, Value.int 0 2007, Value.int 0 2008, Value.int 0 2009, Value.int 0 2010, Value.int 0 2011, Value.int 0 2012, Value.int 0 2013, Value.int 0 2014, Value.int 0 2015, Value.int 2 2016, Value.int 1 2017, Value.int 0 2018, Value.int 0 2019, Value.int 0 2020, Value.int 0 2021, Value.int 0 2022, Value.int 0 2023, Value.int 0 2024, Value.int 1 2025, Value.int 0 2026, Value.int 0 2027, Value.int 0 2028, Value.int 1 2029, Value.int 0 2030, Value.int 0 2031, Value.int 0 2032, Value.int 0 2033, Value.int 0 2034, Value.int 0 2035, Value.int 0 2036, Value.int 0 2037, Value.int 0 2038, Value.int 0 2039, Value.int 0 2040, Value.int 0 2041, Value.int 0 2042, Value.int 0 2043, Value.int 0 2044, Value.int 0 2045, Value.int 0 2046, Value.int 0 2047, Value.int 2 2048, Value.int 1 2049, Value.int 0 2050, Value.int 0 2051, Value.int 0 2052, Value.int 0 2053, Value.int 0 2054, Value.int 0 2055, Value.int 0 2056, Value.int 1 2057, Value.int 0 2058, Value.int 0 2059, Value.int 0 2060, Value.int 1 2061, Value.int 0 2062, Value.int 0 2063, Value.int 0 2064, Value.int 0 2065, Value.int 0 2066, Value.int 0 2067, Value.int 0 2068, Value.int 0 2069, Value.int 0 2070, Value.int 0 2071, Value.int 0 2072, Value.int 0 2073, Value.int 0 2074, Value.int 0 2075, Value.int 0 2076, Value.int 0 2077, Value.int 0 2078, Value.int 0 2079, Value.int 2 2080, Value.int 1 2081, Value.int 0 2082, Value.int 0 2083, Value.int 0 2084, Value.int 0 2085, Value.int 0 2086, Value.int 0 2087, Value.int 0 2088, Value.int 1 2089, Value.int 0 2090, Value.int 0 2091, Value.int 0 2092, Value.int 1 2093, Value.int 0 2094, Value.int 0 2095, Value.int 0 2096, Value.int 0 2097, Value.int 0 2098, Value.int 0 2099, Value.int 0 2100, Value.int 0 2101, Value.int 0 2102, Value.int 0 2103, Value.int 0 2104, Value.int 0 2105, Value.int 0 2106, Value.int 0 2107, Value.int 0 2108, Value.int 0 2109, Value.int 0 2110, Value.int 0 2111, Value.int 2 2112, Value.int 0 2113, Value.int 0 2114, Value.int 0 2115, Value.int 0 2116, Value.int 0 2117, Value.int 0 2118, Value.int 0 2119, Value.int 0 2120, Value.int 0 2121, Value.int 0 2122, Value.int 0 2123, Value.int 0 2124, Value.int 0 2125, Value.int 0 2126, Value.int 0 2127, Value.int 0 2128, Value.int 0 2129, Value.int 0 2130, Value.int 0 2131, Value.int 0 2132, Value.int 0 2133, Value.int 0 2134, Value.int 0 2135, Value.int 0 2136, Value.int 0 2137, Value.int 0 2138, Value.int 0 2139, Value.int 0 2140, Value.int 0 2141, Value.int 0 2142, Value.int 0 2143, Value.int 2 2144, Value.int 1 2145, Value.int 0 2146, Value.int 0 2147, Value.int 0 2148, Value.int 0 2149, Value.int 0 2150, Value.int 0 2151, Value.int 0 2152, Value.int 1 2153, Value.int 0 2154, Value.int 0 2155, Value.int 1 2156, Value.int 1 2157, Value.int 1 2158, Value.int 0 2159, Value.int 0 2160, Value.int 0 2161, Value.int 0 2162, Value.int 0 2163, Value.int 0 2164, Value.int 0 2165, Value.int 0 2166, Value.int 0 2167, Value.int 0 2168, Value.int 0 2169, Value.int 0 2170, Value.int 0 2171, Value.int 0 2172, Value.int 0 2173, Value.int 0 2174, Value.int 0 2175, Value.int 2 2176, Value.int 1 2177, Value.int 0 2178, Value.int 0 2179, Value.int 0 2180, Value.int 0 2181, Value.int 0 2182, Value.int 0 2183, Value.int 0 2184, Value.int 1 2185, Value.int 0 2186, Value.int 0 2187, Value.int 0 2188, Value.int 1 2189, Value.int 0 2190, Value.int 0 2191, Value.int 0 2192, Value.int 0 2193, Value.int 0 2194, Value.int 0 2195, Value.int 0 2196, Value.int 0 2197, Value.int 0 2198, Value.int 0 2199, Value.int 0 2200, Value.int 0 2201, Value.int 0 2202, Value.int 0 2203, Value.int 0 2204, Value.int 0 2205, Value.int 0 2206, Value.int 0 2207, Value.int 2 2208, Value.int 1 2209, Value.int 0 2210, Value.int 0 2211, Value.int 0 2212, Value.int 0 2213, Value.int 0 2214, Value.int 0 2215, Value.int 0 2216, Value.int 1 2217, Value.int 0 2218, Value.int 0 2219, Value.int 0 2220, Value.int 1 2221, Value.int 0 2222, Value.int 0 2223] }) ::
(nat_lit 1427, { cls := Value.type "dict", data := Data.dict #[{ hash := PyData.keyHash P (Str.ofString "__module__"), key := Value.str (Str.ofString "__module__") 203, val := Value.str (Str.ofString "py65.devices.mpu6502") 194 }, { hash := PyData.keyHash P (Str.ofString "__firstlineno__"), key := Value.str (Str.ofString "__firstlineno__") 207, val := Value.int 5 206 }, { hash := PyData.keyHash P (Str.ofString "RESET"), key := Value.str (Str.ofString "RESET") 209, val := Value.int 65532 208 }, { hash := PyData.keyHash P (Str.ofString "NMI"), key := Value.str (Str.ofString "NMI") 211, val := Value.int 65530 210 }, { hash := PyData.keyHash P (Str.ofString "IRQ"), key := Value.str (Str.ofString "IRQ") 213, val := Value.int 65534 212 }, { hash := PyData.keyHash P (Str.ofString "NEGATIVE"), key := Value.str (Str.ofString "NEGATIVE") 215, val := Value.int 128 214 }, { hash := PyData.keyHash P (Str.ofString "OVERFLOW"), key := Value.str (Str.ofString "OVERFLOW") 217, val := Value.int 64 216 }, { hash := PyData.keyHash P (Str.ofString "UNUSED"), key := Value.str (Str.ofString "UNUSED") 219, val := Value.int 32 218 }, { hash := PyData.keyHash P (Str.ofString "BREAK"), key := Value.str (Str.ofString "BREAK") 221, val := Value.int 16 220 }, { hash := PyData.keyHash P (Str.ofString "DECIMAL"), key := Value.str (Str.ofString "DECIMAL") 223, val := Value.int 8 222 }, { hash := PyData.keyHash P (Str.ofString "INTERRUPT"), key := Value.str (Str.ofString "INTERRUPT") 225, val := Value.int 4 224 }, { hash := PyData.keyHash P (Str.ofString "ZERO"), key := Value.str (Str.ofString "ZERO") 227, val := Value.int 2 226 }, { hash := PyData.keyHash P (Str.ofString "CARRY"), key := Value.str (Str.ofString "CARRY") 229, val := Value.int 1 228 }, { hash := PyData.keyHash P (Str.ofString "BYTE_WIDTH"), key := Value.str (Str.ofString "BYTE_WIDTH") 231, val := Value.int 8 230 }, { hash := PyData.keyHash P (Str.ofString "BYTE_FORMAT"), key := Value.str (Str.ofString "BYTE_FORMAT") 233, val := Value.str (Str.ofString "%02x") 232 }, { hash := PyData.keyHash P (Str.ofString "ADDR_WIDTH"), key := Value.str (Str.ofString "ADDR_WIDTH") 235, val := Value.int 16 234 }, { hash := PyData.keyHash P (Str.ofString "ADDR_FORMAT"), key := Value.str (Str.ofString "ADDR_FORMAT") 237, val := Value.str (Str.ofString "%04x") 236 }, { hash := PyData.keyHash P (Str.ofString "__init__"), key := Value.str (Str.ofString "__init__") 247, val := Value.ref 36 }, { hash := PyData.keyHash P (Str.ofString "step"), key := Value.str (Str.ofString "step") 255, val := Value.ref 43 }, { hash := PyData.keyHash P (Str.ofString "reset"), key := Value.str (Str.ofString "reset") 262, val := Value.ref 50 }, { hash := PyData.keyHash P (Str.ofString "irq"), key := Value.str (Str.ofString "irq") 269, val := Value.ref 57 }, { hash := PyData.keyHash P (Str.ofString "nmi"), key := Value.str (Str.ofString "nmi") 276, val := Value.ref 64 }, { hash := PyData.keyHash P (Str.ofString "ByteAt"), key := Value.str (Str.ofString "ByteAt") 284, val := Value.ref 71 }, { hash := PyData.keyHash P (Str.ofString "WordAt"), key := Value.str (Str.ofString "WordAt") 292, val := Value.ref 78 }, { hash := PyData.keyHash P (Str.ofString "WrapAt"), key := Value.str (Str.ofString "WrapAt") 302, val := Value.ref 85 }, { hash := PyData.keyHash P (Str.ofString "ProgramCounter"), key := Value.str (Str.ofString "ProgramCounter") 309, val := Value.ref 92 }, { hash := PyData.keyHash P (Str.ofString "ImmediateByte"), key := Value.str (Str.ofString "ImmediateByte") 316, val := Value.ref 99 }, { hash := PyData.keyHash P (Str.ofString "ZeroPageAddr"), key := Value.str (Str.ofString "ZeroPageAddr") 323, val := Value.ref 106 }, { hash := PyData.keyHash P (Str.ofString "ZeroPageXAddr"), key := Value.str (Str.ofString "ZeroPageXAddr") 330, val := Value.ref 113 }, { hash := PyData.keyHash P (Str.ofString "ZeroPageYAddr"), key := Value.str (Str.ofString "ZeroPageYAddr") 337, val := Value.ref 120 }, { hash := PyData.keyHash P (Str.ofString "IndirectXAddr"), key := Value.str (Str.ofString "IndirectXAddr") 344, val := Value.ref 127 }, { hash := PyData.keyHash P (Str.ofString "IndirectYAddr"), key := Value.str (Str.ofString "IndirectYAddr") 353, val := Value.ref 134 }, { hash := PyData.keyHash P (Str.ofString "AbsoluteAddr"), key := Value.str (Str.ofString "AbsoluteAddr") 360, val := Value.ref 141 }, { hash := PyData.keyHash P (Str.ofString "AbsoluteXAddr"), key := Value.str (Str.ofString "AbsoluteXAddr") 369, val := Value.ref 148 }, { hash := PyData.keyHash P (Str.ofString "AbsoluteYAddr"), key := Value.str (Str.ofString "AbsoluteYAddr") 378, val := Value.ref 155 }, { hash := PyData.keyHash P (Str.ofString "BranchRelAddr"), key := Value.str (Str.ofString "BranchRelAddr") 386, val := Value.ref 162 }, { hash := PyData.keyHash P (Str.ofString "stPush"), key := Value.str (Str.ofString "stPush") 394, val := Value.ref 169 }, { hash := PyData.keyHash P (Str.ofString "stPop"), key := Value.str (Str.ofString "stPop") 401, val := Value.ref 176 }, { hash := PyData.keyHash P (Str.ofString "stPushWord"), key := Value.str (Str.ofString "stPushWord") 409, val := Value.ref 183 }, { hash := PyData.keyHash P (Str.ofString "stPopWord"), key := Value.str (Str.ofString "stPopWord") 417, val := Value.ref 190 }, { hash := PyData.keyHash P (Str.ofString "FlagsNZ"), key := Value.str (Str.ofString "FlagsNZ") 425, val := Value.ref 197 }, { hash := PyData.keyHash P (Str.ofString "opORA"), key := Value.str (Str.ofString "opORA") 433, val := Value.ref 204 }, { hash := PyData.keyHash P (Str.ofString "opASL"), key := Value.str (Str.ofString "opASL") 443, val := Value.ref 211 }, { hash := PyData.keyHash P (Str.ofString "opLSR"), key := Value.str (Str.ofString "opLSR") 453, val := Value.ref 218 }, { hash := PyData.keyHash P (Str.ofString "opBCL"), key := Value.str (Str.ofString "opBCL") 461, val := Value.ref 225 }, { hash := PyData.keyHash P (Str.ofString "opBST"), key := Value.str (Str.ofString "opBST") 469, val := Value.ref 232 }, { hash := PyData.keyHash P (Str.ofString "opCLR"), key := Value.str (Str.ofString "opCLR") 477, val := Value.ref 239 }, { hash := PyData.keyHash P (Str.ofString "opSET"), key := Value.str (Str.ofString "opSET") 485, val := Value.ref 246 }, { hash := PyData.keyHash P (Str.ofString "opAND"), key := Value.str (Str.ofString "opAND") 493, val := Value.ref 253 }, { hash := PyData.keyHash P (Str.ofString "opBIT"), key := Value.str (Str.ofString "opBIT") 502, val := Value.ref 260 }, { hash := PyData.keyHash P (Str.ofString "opROL"), key := Value.str (Str.ofString "opROL") 512, val := Value.ref 267 }, { hash := PyData.keyHash P (Str.ofString "opEOR"), key := Value.str (Str.ofString "opEOR") 520, val := Value.ref 274 }, { hash := PyData.keyHash P (Str.ofString "opADC"), key := Value.str (Str.ofString "opADC") 538, val := Value.ref 281 }, { hash := PyData.keyHash P (Str.ofString "opROR"), key := Value.str (Str.ofString "opROR") 548, val := Value.ref 288 }, { hash := PyData.keyHash P (Str.ofString "opSTA"), key := Value.str (Str.ofString "opSTA") 556, val := Value.ref 295 }, { hash := PyData.keyHash P (Str.ofString "opSTY"), key := Value.str (Str.ofString "opSTY") 564, val := Value.ref 302 }, { hash := PyData.keyHash P (Str.ofString "opSTX"), key := Value.str (Str.ofString "opSTX") 572, val := Value.ref 309 }, { hash := PyData.keyHash P (Str.ofString "opCMPR"), key := Value.str (Str.ofString "opCMPR") 582, val := Value.ref 316 }, { hash := PyData.keyHash P (Str.ofString "opSBC"), key := Value.str (Str.ofString "opSBC") 599, val := Value.ref 323 }, { hash := PyData.keyHash P (Str.ofString "opDECR"), key := Value.str (Str.ofString "opDECR") 609, val := Value.ref 330 }, { hash := PyData.keyHash P (Str.ofString "opINCR"), key := Value.str (Str.ofString "opINCR") 619, val := Value.ref 337 }, { hash := PyData.keyHash P (Str.ofString "opLDA"), key := Value.str (Str.ofString "opLDA") 627, val := Value.ref 344 }, { hash := PyData.keyHash P (Str.ofString "opLDY"), key := Value.str (Str.ofString "opLDY") 635, val := Value.ref 351 }, { hash := PyData.keyHash P (Str.ofString "opLDX"), key := Value.str (Str.ofString "opLDX") 643, val := Value.ref 358 }, { hash := PyData.keyHash P (Str.ofString "inst_not_implemented"), key := Value.str (Str.ofString "inst_not_implemented") 650, val := Value.ref 365 }, { hash := PyData.keyHash P (Str.ofString "inst_0x00"), key := Value.str (Str.ofString "inst_0x00") 658, val := Value.ref 372 }, { hash := PyData.keyHash P (Str.ofString "inst_0x01"), key := Value.str (Str.ofString "inst_0x01") 665, val := Value.ref 379 }, { hash := PyData.keyHash P (Str.ofString "inst_0x05"), key := Value.str (Str.ofString "inst_0x05") 672, val := Value.ref 386 }, { hash := PyData.keyHash P (Str.ofString "inst_0x06"), key := Value.str (Str.ofString "inst_0x06") 679, val := Value.ref 393 }, { hash := PyData.keyHash P (Str.ofString "inst_0x08"), key := Value.str (Str.ofString "inst_0x08") 686, val := Value.ref 400 }, { hash := PyData.keyHash P (Str.ofString "inst_0x09"), key := Value.str (Str.ofString "inst_0x09") 693, val := Value.ref 407 }, { hash := PyData.keyHash P (Str.ofString "inst_0x0a"), key := Value.str (Str.ofString "inst_0x0a") 700, val := Value.ref 414 }, { hash := PyData.keyHash P (Str.ofString "inst_0x0d"), key := Value.str (Str.ofString "inst_0x0d") 707, val := Value.ref 421 }, { hash := PyData.keyHash P (Str.ofString "inst_0x0e"), key := Value.str (Str.ofString "inst_0x0e") 714, val := Value.ref 428 }, { hash := PyData.keyHash P (Str.ofString "inst_0x10"), key := Value.str (Str.ofString "inst_0x10") 721, val := Value.ref 435 }, { hash := PyData.keyHash P (Str.ofString "inst_0x11"), key := Value.str (Str.ofString "inst_0x11") 728, val := Value.ref 442 }, { hash := PyData.keyHash P (Str.ofString "inst_0x15"), key := Value.str (Str.ofString "inst_0x15") 735, val := Value.ref 449 }, { hash := PyData.keyHash P (Str.ofString "inst_0x16"), key := Value.str (Str.ofString "inst_0x16") 742, val := Value.ref 456 }, { hash := PyData.keyHash P (Str.ofString "inst_0x18"), key := Value.str (Str.ofString "inst_0x18") 749, val := Value.ref 463 }, { hash := PyData.keyHash P (Str.ofString "inst_0x19"), key := Value.str (Str.ofString "inst_0x19") 756, val := Value.ref 470 }, { hash := PyData.keyHash P (Str.ofString "inst_0x1d"), key := Value.str (Str.ofString "inst_0x1d") 763, val := Value.ref 477 }, { hash := PyData.keyHash P (Str.ofString "inst_0x1e"), key := Value.str (Str.ofString "inst_0x1e") 770, val := Value.ref 484 }, { hash := PyData.keyHash P (Str.ofString "inst_0x20"), key := Value.str (Str.ofString "inst_0x20") 777, val := Value.ref 491 }, { hash := PyData.keyHash P (Str.ofString "inst_0x21"), key := Value.str (Str.ofString "inst_0x21") 784, val := Value.ref 498 }, { hash := PyData.keyHash P (Str.ofString "inst_0x24"), key := Value.str (Str.ofString "inst_0x24") 791, val := Value.ref 505 }, { hash := PyData.keyHash P (Str.ofString "inst_0x25"), key := Value.str (Str.ofString "inst_0x25") 798, val := Value.ref 512 }, { hash := PyData.keyHash P (Str.ofString "inst_0x26"), key := Value.str (Str.ofString "inst_0x26") 805, val := Value.ref 519 }, { hash := PyData.keyHash P (Str.ofString "inst_0x28"), key := Value.str (Str.ofString "inst_0x28") 812, val := Value.ref 526 }, { hash := PyData.keyHash P (Str.ofString "inst_0x29"), key := Value.str (Str.ofString "inst_0x29") 819, val := Value.ref 533 }, { hash := PyData.keyHash P (Str.ofString "inst_0x2a"), key := Value.str (Str.ofString "inst_0x2a") 826, val := Value.ref 540 }, { hash := PyData.keyHash P (Str.ofString "inst_0x2c"), key := Value.str (Str.ofString "inst_0x2c") 833, val := Value.ref 547 }, { hash := PyData.keyHash P (Str.ofString "inst_0x2d"), key := Value.str (Str.ofString "inst_0x2d") 840, val := Value.ref 554 }, { hash := PyData.keyHash P (Str.ofString "inst_0x2e"), key := Value.str (Str.ofString "inst_0x2e") 847, val := Value.ref 561 }, { hash := PyData.keyHash P (Str.ofString "inst_0x30"), key := Value.str (Str.ofString "inst_0x30") 854, val := Value.ref 568 }, { hash := PyData.keyHash P (Str.ofString "inst_0x31"), key := Value.str (Str.ofString "inst_0x31") 861, val := Value.ref 575 }, { hash := PyData.keyHash P (Str.ofString "inst_0x35"), key := Value.str (Str.ofString "inst_0x35") 868, val := Value.ref 582 }, { hash := PyData.keyHash P (Str.ofString "inst_0x36"), key := Value.str (Str.ofString "inst_0x36") 875, val := Value.ref 589 }, { hash := PyData.keyHash P (Str.ofString "inst_0x38"), key := Value.str (Str.ofString "inst_0x38") 882, val := Value.ref 596 }, { hash := PyData.keyHash P (Str.ofString "inst_0x39"), key := Value.str (Str.ofString "inst_0x39") 889, val := Value.ref 603 }, { hash := PyData.keyHash P (Str.ofString "inst_0x3d"), key := Value.str (Str.ofString "inst_0x3d") 896, val := Value.ref 610 }, { hash := PyData.keyHash P (Str.ofString "inst_0x3e"), key := Value.str (Str.ofString "inst_0x3e") 903, val := Value.ref 617 }, { hash := PyData.keyHash P (Str.ofString "inst_0x40"), key := Value.str (Str.ofString "inst_0x40") 910, val := Value.ref 624 }, { hash := PyData.keyHash P (Str.ofString "inst_0x41"), key := Value.str (Str.ofString "inst_0x41") 917, val := Value.ref 631 }, { hash := PyData.keyHash P (Str.ofString "inst_0x45"), key := Value.str (Str.ofString "inst_0x45") 924, val := Value.ref 638 }, { hash := PyData.keyHash P (Str.ofString "inst_0x46"), key := Value.str (Str.ofString "inst_0x46") 931, val := Value.ref 645 }, { hash := PyData.keyHash P (Str.ofString "inst_0x48"), key := Value.str (Str.ofString "inst_0x48") 938, val := Value.ref 652 }, { hash := PyData.keyHash P (Str.ofString "inst_0x49"), key := Value.str (Str.ofString "inst_0x49") 945, val := Value.ref 659 }, { hash := PyData.keyHash P (Str.ofString "inst_0x4a"), key := Value.str (Str.ofString "inst_0x4a") 952, val := Value.ref 666 }, { hash := PyData.keyHash P (Str.ofString "inst_0x4c"), key := Value.str (Str.ofString "inst_0x4c") 959, val := Value.ref 673 }, { hash := PyData.keyHash P (Str.ofString "inst_0x4d"), key := Value.str (Str.ofString "inst_0x4d") 966, val := Value.ref 680 }, { hash := PyData.keyHash P (Str.ofString "inst_0x4e"), key := Value.str (Str.ofString "inst_0x4e") 973, val := Value.ref 687 }, { hash := PyData.keyHash P (Str.ofString "inst_0x50"), key := Value.str (Str.ofString "inst_0x50") 980, val := Value.ref 694 }, { hash := PyData.keyHash P (Str.ofString "inst_0x51"), key := Value.str (Str.ofString "inst_0x51") 987, val := Value.ref 701 }, { hash := PyData.keyHash P (Str.ofString "inst_0x55"), key := Value.str (Str.ofString "inst_0x55") 994, val := Value.ref 708 }, { hash := PyData.keyHash P (Str.ofString "inst_0x56"), key := Value.str (Str.ofString "inst_0x56") 1001, val := Value.ref 715 }, { hash := PyData.keyHash P (Str.ofString "inst_0x58"), key := Value.str (Str.ofString "inst_0x58") 1008, val := Value.ref 722 }, { hash := PyData.keyHash P (Str.ofString "inst_0x59"), key := Value.str (Str.ofString "inst_0x59") 1015, val := Value.ref 729 }, { hash := PyData.keyHash P (Str.ofString "inst_0x5d"), key := Value.str (Str.ofString "inst_0x5d") 1022, val := Value.ref 736 }, { hash := PyData.keyHash P (Str.ofString "inst_0x5e"), key := Value.str (Str.ofString "inst_0x5e") 1029, val := Value.ref 743 }, { hash := PyData.keyHash P (Str.ofString "inst_0x60"), key := Value.str (Str.ofString "inst_0x60") 1036, val := Value.ref 750 }, { hash := PyData.keyHash P (Str.ofString "inst_0x61"), key := Value.str (Str.ofString "inst_0x61") 1043, val := Value.ref 757 }, { hash := PyData.keyHash P (Str.ofString "inst_0x65"), key := Value.str (Str.ofString "inst_0x65") 1050, val := Value.ref 764 }, { hash := PyData.keyHash P (Str.ofString "inst_0x66"), key := Value.str (Str.ofString "inst_0x66") 1057, val := Value.ref 771 }, { hash := PyData.keyHash P (Str.ofString "inst_0x68"), key := Value.str (Str.ofString "inst_0x68") 1064, val := Value.ref 778 }, { hash := PyData.keyHash P (Str.ofString "inst_0x69"), key := Value.str (Str.ofString "inst_0x69") 1071, val := Value.ref 785 }, { hash := PyData.keyHash P (Str.ofString "inst_0x6a"), key := Value.str (Str.ofString "inst_0x6a") 1078, val := Value.ref 792 }, { hash := PyData.keyHash P (Str.ofString "inst_0x6c"), key := Value.str (Str.ofString "inst_0x6c") 1086, val := Value.ref 799 }, { hash := PyData.keyHash P (Str.ofString "inst_0x6d"), key := Value.str (Str.ofString "inst_0x6d") 1093, val := Value.ref 806 }, { hash := PyData.keyHash P (Str.ofString "inst_0x6e"), key := Value.str (Str.ofString "inst_0x6e") 1100, val := Value.ref 813 }, { hash := PyData.keyHash P (Str.ofString "inst_0x70"), key := Value.str (Str.ofString "inst_0x70") 1107, val := Value.ref 820 }, { hash := PyData.keyHash P (Str.ofString "inst_0x71"), key := Value.str (Str.ofString "inst_0x71") 1114, val := Value.ref 827 }, { hash := PyData.keyHash P (Str.ofString "inst_0x75"), key := Value.str (Str.ofString "inst_0x75") 1121, val := Value.ref 834 }, { hash := PyData.keyHash P (Str.ofString "inst_0x76"), key := Value.str (Str.ofString "inst_0x76") 1128, val := Value.ref 841 }, { hash := PyData.keyHash P (Str.ofString "inst_0x78"), key := Value.str (Str.ofString "inst_0x78") 1135, val := Value.ref 848 }, { hash := PyData.keyHash P (Str.ofString "inst_0x79"), key := Value.str (Str.ofString "inst_0x79") 1142, val := Value.ref 855 }, { hash := PyData.keyHash P (Str.ofString "inst_0x7d"), key := Value.str (Str.ofString "inst_0x7d") 1149, val := Value.ref 862 }, { hash := PyData.keyHash P (Str.ofString "inst_0x7e"), key := Value.str (Str.ofString "inst_0x7e") 1156, val := Value.ref 869 }, { hash := PyData.keyHash P (Str.ofString "inst_0x81"), key := Value.str (Str.ofString "inst_0x81") 1163, val := Value.ref 876 }, { hash := PyData.keyHash P (Str.ofString "inst_0x84"), key := Value.str (Str.ofString "inst_0x84") 1170, val := Value.ref 883 }, { hash := PyData.keyHash P (Str.ofString "inst_0x85"), key := Value.str (Str.ofString "inst_0x85") 1177, val := Value.ref 890 }, { hash := PyData.keyHash P (Str.ofString "inst_0x86"), key := Value.str (Str.ofString "inst_0x86") 1184, val := Value.ref 897 }, { hash := PyData.keyHash P (Str.ofString "inst_0x88"), key := Value.str (Str.ofString "inst_0x88") 1191, val := Value.ref 904 }, { hash := PyData.keyHash P (Str.ofString "inst_0x8a"), key := Value.str (Str.ofString "inst_0x8a") 1198, val := Value.ref 911 }, { hash := PyData.keyHash P (Str.ofString "inst_0x8c"), key := Value.str (Str.ofString "inst_0x8c") 1205, val := Value.ref 918 }, { hash := PyData.keyHash P (Str.ofString "inst_0x8d"), key := Value.str (Str.ofString "inst_0x8d") 1212, val := Value.ref 925 }, { hash := PyData.keyHash P (Str.ofString "inst_0x8e"), key := Value.str (Str.ofString "inst_0x8e") 1219, val := Value.ref 932 }, { hash := PyData.keyHash P (Str.ofString "inst_0x90"), key := Value.str (Str.ofString "inst_0x90") 1226, val := Value.ref 939 }, { hash := PyData.keyHash P (Str.ofString "inst_0x91"), key := Value.str (Str.ofString "inst_0x91") 1233, val := Value.ref 946 }, { hash := PyData.keyHash P (Str.ofString "inst_0x94"), key := Value.str (Str.ofString "inst_0x94") 1240, val := Value.ref 953 }, { hash := PyData.keyHash P (Str.ofString "inst_0x95"), key := Value.str (Str.ofString "inst_0x95") 1247, val := Value.ref 960 }, { hash := PyData.keyHash P (Str.ofString "inst_0x96"), key := Value.str (Str.ofString "inst_0x96") 1254, val := Value.ref 967 }, { hash := PyData.keyHash P (Str.ofString "inst_0x98"), key := Value.str (Str.ofString "inst_0x98") 1261, val := Value.ref 974 }, { hash := PyData.keyHash P (Str.ofString "inst_0x99"), key := Value.str (Str.ofString "inst_0x99") 1268, val := Value.ref 981 }, { hash := PyData.keyHash P (Str.ofString "inst_0x9a"), key := Value.str (Str.ofString "inst_0x9a") 1275, val := Value.ref 988 }, { hash := PyData.keyHash P (Str.ofString "inst_0x9d"), key := Value.str (Str.ofString "inst_0x9d") 1282, val := Value.ref 995 }, { hash := PyData.keyHash P (Str.ofString "inst_0xa0"), key := Value.str (Str.ofString "inst_0xa0") 1289, val := Value.ref 1002 }, { hash := PyData.keyHash P (Str.ofString "inst_0xa1"), key := Value.str (Str.ofString "inst_0xa1") 1296, val := Value.ref 1009 }, { hash := PyData.keyHash P (Str.ofString "inst_0xa2"), key := Value.str (Str.ofString "inst_0xa2") 1303, val := Value.ref 1016 }, { hash := PyData.keyHash P (Str.ofString "inst_0xa4"), key := Value.str (Str.ofString "inst_0xa4") 1310, val := Value.ref 1023 }, { hash := PyData.keyHash P (Str.ofString "inst_0xa5"), key := Value.str (Str.ofString "inst_0xa5") 1317, val := Value.ref 1030 }, { hash := PyData.keyHash P (Str.ofString "inst_0xa6"), key := Value.str (Str.ofString "inst_0xa6") 1324, val := Value.ref 1037 }, { hash := PyData.keyHash P (Str.ofString "inst_0xa8"), key := Value.str (Str.ofString "inst_0xa8") 1331, val := Value.ref 1044 }, { hash := PyData.keyHash P (Str.ofString "inst_0xa9"), key := Value.str (Str.ofString "inst_0xa9") 1338, val := Value.ref 1051 }, { hash := PyData.keyHash P (Str.ofString "inst_0xaa"), key := Value.str (Str.ofString "inst_0xaa") 1345, val := Value.ref 1058 }, { hash := PyData.keyHash P (Str.ofString "inst_0xac"), key := Value.str (Str.ofString "inst_0xac") 1352, val := Value.ref 1065 }, { hash := PyData.keyHash P (Str.ofString "inst_0xad"), key := Value.str (Str.ofString "inst_0xad") 1359, val := Value.ref 1072 }, { hash := PyData.keyHash P (Str.ofString "inst_0xae"), key := Value.str (Str.ofString "inst_0xae") 1366, val := Value.ref 1079 }, { hash := PyData.keyHash P (Str.ofString "inst_0xb0"), key := Value.str (Str.ofString "inst_0xb0") 1373, val := Value.ref 1086 }, { hash := PyData.keyHash P (Str.ofString "inst_0xb1"), key := Value.str (Str.ofString "inst_0xb1") 1380, val := Value.ref 1093 }, { hash := PyData.keyHash P (Str.ofString "inst_0xb4"), key := Value.str (Str.ofString "inst_0xb4") 1387, val := Value.ref 1100 }, { hash := PyData.keyHash P (Str.ofString "inst_0xb5"), key := Value.str (Str.ofString "inst_0xb5") 1394, val := Value.ref 1107 }, { hash := PyData.keyHash P (Str.ofString "inst_0xb6"), key := Value.str (Str.ofString "inst_0xb6") 1401, val := Value.ref 1114 }, { hash := PyData.keyHash P (Str.ofString "inst_0xb8"), key := Value.str (Str.ofString "inst_0xb8") 1408, val := Value.ref 1121 }, { hash := PyData.keyHash P (Str.ofString "inst_0xb9"), key := Value.str (Str.ofString "inst_0xb9") 1415, val := Value.ref 1128 }, { hash := PyData.keyHash P (Str.ofString "inst_0xba"), key := Value.str (Str.ofString "inst_0xba") 1422, val := Value.ref 1135 }, { hash := PyData.keyHash P (Str.ofString "inst_0xbc"), key := Value.str (Str.ofString "inst_0xbc") 1429, val := Value.ref 1142 }, { hash := PyData.keyHash P (Str.ofString "inst_0xbd"), key := Value.str (Str.ofString "inst_0xbd") 1436, val := Value.ref 1149 }, { hash := PyData.keyHash P (Str.ofString "inst_0xbe"), key := Value.str (Str.ofString "inst_0xbe") 1443, val := Value.ref 1156 }, { hash := PyData.keyHash P (Str.ofString "inst_0xc0"), key := Value.str (Str.ofString "inst_0xc0") 1450, val := Value.ref 1163 }, { hash := PyData.keyHash P (Str.ofString "inst_0xc1"), key := Value.str (Str.ofString "inst_0xc1") 1457, val := Value.ref 1170 }, { hash := PyData.keyHash P (Str.ofString "inst_0xc4"), key := Value.str (Str.ofString "inst_0xc4") 1464, val := Value.ref 1177 }, { hash := PyData.keyHash P (Str.ofString "inst_0xc5"), key := Value.str (Str.ofString "inst_0xc5") 1471, val := Value.ref 1184 }, { hash := PyData.keyHash P (Str.ofString "inst_0xc6"), key := Value.str (Str.ofString "inst_0xc6") 1478, val := Value.ref 1191 }, { hash := PyData.keyHash P (Str.ofString "inst_0xc8"), key := Value.str (Str.ofString "inst_0xc8") 1485, val := Value.ref 1198 }, { hash := PyData.keyHash P (Str.ofString "inst_0xc9"), key := Value.str (Str.ofString "inst_0xc9") 1492, val := Value.ref 1205 }, { hash := PyData.keyHash P (Str.ofString "inst_0xca"), key := Value.str (Str.ofString "inst_0xca") 1499, val := Value.ref 1212 }, { hash := PyData.keyHash P (Str.ofString "inst_0xcc"), key := Value.str (Str.ofString "inst_0xcc") 1506, val := Value.ref 1219 }, { hash := PyData.keyHash P (Str.ofString "inst_0xcd"), key := Value.str (Str.ofString "inst_0xcd") 1513, val := Value.ref 1226 }, { hash := PyData.keyHash P (Str.ofString "inst_0xce"), key := Value.str (Str.ofString "inst_0xce") 1520, val := Value.ref 1233 }, { hash := PyData.keyHash P (Str.ofString "inst_0xd0"), key := Value.str (Str.ofString "inst_0xd0") 1527, val := Value.ref 1240 }, { hash := PyData.keyHash P (Str.ofString "inst_0xd1"), key := Value.str (Str.ofString "inst_0xd1") 1534, val := Value.ref 1247 }, { hash := PyData.keyHash P (Str.ofString "inst_0xd5"), key := Value.str (Str.ofString "inst_0xd5") 1541, val := Value.ref 1254 }, { hash := PyData.keyHash P (Str.ofString "inst_0xd6"), key := Value.str (Str.ofString "inst_0xd6") 1548, val := Value.ref 1261 }, { hash := PyData.keyHash P (Str.ofString "inst_0xd8"), key := Value.str (Str.ofString "inst_0xd8") 1555, val := Value.ref 1268 }, { hash := PyData.keyHash P (Str.ofString "inst_0xd9"), key := Value.str (Str.ofString "inst_0xd9") 1562, val := Value.ref 1275 }, { hash := PyData.keyHash P (Str.ofString "inst_0xdd"), key := Value.str (Str.ofString "inst_0xdd") 1569, val := Value.ref 1282 }, { hash := PyData.keyHash P (Str.ofString "inst_0xde"), key := Value.str (Str.ofString "inst_0xde") 1576, val := Value.ref 1289 }, { hash := PyData.keyHash P (Str.ofString "inst_0xe0"), key := Value.str (Str.ofString "inst_0xe0") 1583, val := Value.ref 1296 }, { hash := PyData.keyHash P (Str.ofString "inst_0xe1"), key := Value.str (Str.ofString "inst_0xe1") 1590, val := Value.ref 1303 }, { hash := PyData.keyHash P (Str.ofString "inst_0xe4"), key := Value.str (Str.ofString "inst_0xe4") 1597, val := Value.ref 1310 }, { hash := PyData.keyHash P (Str.ofString "inst_0xe5"), key := Value.str (Str.ofString "inst_0xe5") 1604, val := Value.ref 1317 }, { hash := PyData.keyHash P (Str.ofString "inst_0xe6"), key := Value.str (Str.ofString "inst_0xe6") 1611, val := Value.ref 1324 }, { hash := PyData.keyHash P (Str.ofString "inst_0xe8"), key := Value.str (Str.ofString "inst_0xe8") 1618, val := Value.ref 1331 }, { hash := PyData.keyHash P (Str.ofString "inst_0xe9"), key := Value.str (Str.ofString "inst_0xe9") 1625, val := Value.ref 1338 }, { hash := PyData.keyHash P (Str.ofString "inst_0xea"), key := Value.str (Str.ofString "inst_0xea") 1632, val := Value.ref 1345 }, { hash := PyData.keyHash P (Str.ofString "inst_0xec"), key := Value.str (Str.ofString "inst_0xec") 1639, val := Value.ref 1352 }, { hash := PyData.keyHash P (Str.ofString "inst_0xed"), key := Value.str (Str.ofString "inst_0xed") 1646, val := Value.ref 1359 }, { hash := PyData.keyHash P (Str.ofString "inst_0xee"), key := Value.str (Str.ofString "inst_0xee") 1653, val := Value.ref 1366 }, { hash := PyData.keyHash P (Str.ofString "inst_0xf0"), key := Value.str (Str.ofString "inst_0xf0") 1660, val := Value.ref 1373 }, { hash := PyData.keyHash P (Str.ofString "inst_0xf1"), key := Value.str (Str.ofString "inst_0xf1") 1667, val := Value.ref 1380 }, { hash := PyData.keyHash P (Str.ofString "inst_0xf5"), key := Value.str (Str.ofString "inst_0xf5") 1674, val := Value.ref 1387 }, { hash := PyData.keyHash P (Str.ofString "inst_0xf6"), key := Value.str (Str.ofString "inst_0xf6") 1681, val := Value.ref 1394 }, { hash := PyData.keyHash P (Str.ofString "inst_0xf8"), key := Value.str (Str.ofString "inst_0xf8") 1688, val := Value.ref 1401 }, { hash := PyData.keyHash P (Str.ofString "inst_0xf9"), key := Value.str (Str.ofString "inst_0xf9") 1695, val := Value.ref 1408 }, { hash := PyData.keyHash P (Str.ofString "inst_0xfd"), key := Value.str (Str.ofString "inst_0xfd") 1702, val := Value.ref 1415 }, { hash := PyData.keyHash P (Str.ofString "inst_0xfe"), key := Value.str (Str.ofString "inst_0xfe") 1709, val := Value.ref 1422 }, { hash := PyData.keyHash P (Str.ofString "instruct"), key := Value.str (Str.ofString "instruct") 1710, val := Value.ref 1423 }, { hash := PyData.keyHash P (Str.ofString "cycletime"), key := Value.str (Str.ofString "cycletime") 1967, val := Value.ref 1424 }, { hash := PyData.keyHash P (Str.ofString "extracycles"), key := Value.str (Str.ofString "extracycles") 2224, val := Value.ref 1425 }, { hash := PyData.keyHash P (Str.ofString "__static_attributes__"), key := Value.str (Str.ofString "__static_attributes__") 2241, val := Value.ref 1426 }, { hash := PyData.keyHash P (Str.ofString "__dict__"), key := Value.str (Str.ofString "__dict__") 2243, val := Value.ref 1429 }, { hash := PyData.keyHash P (Str.ofString "__weakref__"), key := Value.str (Str.ofString "__weakref__") 2245, val := Value.ref 1430 }, { hash := PyData.keyHash P (Str.ofString "__doc__"), key := Value.str (Str.ofString "__doc__") 2246, val := Value.none }] 4 }) ::
(nat_lit 1428, { cls := Value.type "type", data := Data.cls { name := Str.ofString "MPU", bases := [Value.type "object"], mro := [Value.ref 1428, Value.type "object"], ns := 1427, qualname := Str.ofString "MPU" }, slots := #[Option.none, Option.none, Option.some (Value.str (Str.ofString "MPU") 196), Option.some (Value.str (Str.ofString "MPU") 204), Option.some (Value.builtin "object.__new__"), Option.some (Value.bool Bool.true)] }) ::
(nat_lit 1438, { cls := Value.type "code", data := Data.fields #[Value.str (Str.ofString "_law_starts") 2251, Value.str (Str.ofString "_law_starts") 2252, Value.str (Str.ofString "/claim/cut.py") 2253, Value.int 1031 0, Value.int 0 0, Value.int 0 0, Value.int 0 0, Value.int 3 0, Value.ref 1433, Value.bool Bool.true, Value.int 181 0, Value.ref 1434, Value.none, Value.ref 1435, Value.ref 1436, Value.ref 1437, Value.int 2254 0, Value.int 1031 0, Value.str (Str.ofString "/claim/cut.py") 2255] }) ::
(nat_lit 1439, { cls := Value.type "function", data := Data.func { name := Str.ofString "_law_starts", qualname := Str.ofString "_law_starts", params := sPar (pTop 4), body := FuncBody.stmts (sBody (pTop 4)), scope := sOwn (pTop 4), globals := 3, closure := [], defaults := Value.none, kwdefaults := Value.none, pyModule := Value.str (Str.ofString "law_im0103_01") 2249, code := Value.ref 1438 } }) ::
(nat_lit 1440, { cls := Value.type "list", data := Data.seq #[Value.int 185 2257, Value.int 0 2258, Value.int 3 2259, Value.int 200 2260, Value.int 41 2261, Value.int 30 2262, Value.int 141 2263, Value.int 42 2264, Value.int 2 2265, Value.int 108 2266, Value.int 0 2267, Value.int 2 2268, Value.int 185 2269, Value.int 0 2270, Value.int 3 2271, Value.int 200 2272, Value.int 202 2273, Value.int 149 2274, Value.int 0 2275, Value.int 76 2276, Value.int 32 2277, Value.int 2 2278, Value.int 181 2279, Value.int 0 2280, Value.int 24 2281, Value.int 117 2282, Value.int 1 2283, Value.int 232 2284, Value.int 149 2285, Value.int 0 2286, Value.int 76 2287, Value.int 32 2288, Value.int 2 2289, Value.int 181 2290, Value.int 1 2291, Value.int 56 2292, Value.int 245 2293, Value.int 0 2294, Value.int 232 2295, Value.int 149 2296, Value.int 0 2297, Value.int 76 2298, Value.int 32 2299, Value.int 2 2300, Value.int 181 2301, Value.int 0 2302, Value.int 202 2303, Value.int 149 2304, Value.int 0 2305, Value.int 76 2306, Value.int 32 2307, Value.int 2 2308, Value.int 181 2309, Value.int 0 2310, Value.int 72 2311, Value.int 181 2312, Value.int 1 2313, Value.int 149 2314, Value.int 0 2315, Value.int 104 2316, Value.int 149 2317, Value.int 1 2318, Value.int 76 2319, Value.int 32 2320, Value.int 2 2321, Value.int 232 2322, Value.int 76 2323, Value.int 32 2324, Value.int 2 2325, Value.int 181 2326, Value.int 1 2327, Value.int 202 2328, Value.int 149 2329, Value.int 0 2330, Value.int 76 2331, Value.int 32 2332, Value.int 2 2333, Value.int 185 2334, Value.int 0 2335, Value.int 3 2336, Value.int 168 2337, Value.int 76 2338, Value.int 32 2339, Value.int 2 2340, Value.int 232 2341, Value.int 181 2342, Value.int 255 2343, Value.int 240 2344, Value.int 244 2345, Value.int 200 2346, Value.int 76 2347, Value.int 32 2348, Value.int 2 2349, Value.int 200 2350, Value.int 152 2351, Value.int 72 2352, Value.int 136 2353, Value.int 185 2354, Value.int 0 2355, Value.int 3 2356, Value.int 168 2357, Value.int 76 2358, Value.int 32 2359, Value.int 2 2360, Value.int 104 2361, Value.int 168 2362, Value.int 76 2363, Value.int 32 2364, Value.int 2 2365, Value.int 181 2366, Value.int 0 2367, Value.int 141 2368, Value.int 147 2369, Value.int 2 2370, Value.int 165 2371, Value.int 0 2372, Value.int 149 2373, Value.int 0 2374, Value.int 76 2375, Value.int 32 2376, Value.int 2 2377, Value.int 181 2378, Value.int 0 2379, Value.int 141 2380, Value.int 161 2381, Value.int 2 2382, Value.int 181 2383, Value.int 1 2384, Value.int 133 2385, Value.int 0 2386, Value.int 232 2387, Value.int 232 2388, Value.int 76 2389, Value.int 32 2390, Value.int 2 2391, Value.int 181 2392, Value.int 1 2393, Value.int 213 2394, Value.int 0 2395, Value.int 169 2396, Value.int 0 2397, Value.int 42 2398, Value.int 73 2399, Value.int 1 2400, Value.int 232 2401, Value.int 149 2402, Value.int 0 2403, Value.int 76 2404, Value.int 32 2405, Value.int 2 2406, Value.int 181 2407, Value.int 0 2408, Value.int 10 2409, Value.int 118 2410, Value.int 0 2411, Value.int 76 2412, Value.int 32 2413, Value.int 2 2414, Value.int 214 2415, Value.int 0 2416, Value.int 208 2417, Value.int 171 2418, Value.int 200 2419, Value.int 232 2420, Value.int 76 2421, Value.int 32 2422, Value.int 2 2423] }) ::
(nat_lit 1446, { cls := Value.type "code", data := Data.fields #[Value.str (Str.ofString "_law_cycles") 2425, Value.str (Str.ofString "_law_cycles") 2426, Value.str (Str.ofString "/claim/cut.py") 2427, Value.int 1034 0, Value.int 0 0, Value.int 0 0, Value.int 0 0, Value.int 3 0, Value.ref 1441, Value.bool Bool.true, Value.int 181 0, Value.ref 1442, Value.none, Value.ref 1443, Value.ref 1444, Value.ref 1445, Value.int 2428 0, Value.int 1034 0, Value.str (Str.ofString "/claim/cut.py") 2429] }) ::
(nat_lit 1447, { cls := Value.type "function", data := Data.func { name := Str.ofString "_law_cycles", qualname := Str.ofString "_law_cycles", params := sPar (pTop 6), body := FuncBody.stmts (sBody (pTop 6)), scope := sOwn (pTop 6), globals := 3, closure := [], defaults := Value.none, kwdefaults := Value.none, pyModule := Value.str (Str.ofString "law_im0103_01") 2249, code := Value.ref 1446 } }) ::
(nat_lit 1453, { cls := Value.type "code", data := Data.fields #[Value.str (Str.ofString "_law_signed") 2431, Value.str (Str.ofString "_law_signed") 2432, Value.str (Str.ofString "/claim/cut.py") 2433, Value.int 1036 0, Value.int 1 0, Value.int 0 0, Value.int 0 0, Value.int 3 0, Value.ref 1448, Value.bool Bool.true, Value.int 181 0, Value.ref 1449, Value.none, Value.ref 1450, Value.ref 1451, Value.ref 1452, Value.int 2435 0, Value.int 1036 0, Value.str (Str.ofString "/claim/cut.py") 2436] }) ::
(nat_lit 1454, { cls := Value.type "function", data := Data.func { name := Str.ofString "_law_signed", qualname := Str.ofString "_law_signed", params := sPar (pTop 7), body := FuncBody.stmts (sBody (pTop 7)), scope := sOwn (pTop 7), globals := 3, closure := [], defaults := Value.none, kwdefaults := Value.none, pyModule := Value.str (Str.ofString "law_im0103_01") 2249, code := Value.ref 1453 } }) ::
(nat_lit 1458, { cls := Value.type "code", data := Data.fields #[Value.str (Str.ofString "law") 2438, Value.str (Str.ofString "law") 2439, Value.str (Str.ofString "/claim/cut.py") 2440, Value.int 1038 0, Value.int 1 0, Value.int 0 0, Value.int 0 0, Value.int 3 0, Value.ref 1455, Value.bool Bool.true, Value.int 181 0, Value.ref 1456, Value.none, Value.none, Value.none, Value.ref 1457, Value.int 2441 0, Value.int 1038 0, Value.str (Str.ofString "/claim/cut.py") 2442] }) ::
(nat_lit 1459, { cls := Value.type "function", data := Data.func { name := Str.ofString "law", qualname := Str.ofString "law", params := sPar (pTop 8), body := FuncBody.stmts (sBody (pTop 8)), scope := sOwn (pTop 8), globals := 3, closure := [], defaults := Value.none, kwdefaults := Value.none, pyModule := Value.str (Str.ofString "law_im0103_01") 2249, code := Value.ref 1458 } }) :: []
end Mine
end
section
set_option maxRecDepth 100000
set_option maxHeartbeats 4000000
namespace Mine
open PySem PySem.W PySem.Calls PyProof.Rows
section
variable (ok : Thread → Bool) (st : SharedT → Thread → Option (SharedT × Thread))
noncomputable def runG : Nat → SharedT → Thread → Option SharedT
  | 0, _, _ => none
  | n + 1, s, t => match through t with
    | true => some s
    | false => match ok t with
      | false => none
      | true => match st s t with
        | some (s', t') => runG n s' t'
        | none => none
noncomputable def goG : Nat → SharedT → Thread → Option (SharedT × Thread)
  | 0, s, t => some (s, t)
  | n + 1, s, t => match through t with
    | true => none
    | false => match ok t with
      | false => none
      | true => match st s t with
        | some (s', t') => goG n s' t'
        | none => none
noncomputable def segG (b : Nat) : Nat → SharedT → Thread → Option (Flow × SharedT × Code × Pos)
  | 0, _, _ => none
  | n + 1, s, t => match endAt b t with
    | some f => some (f, s, t.code, t.pos)
    | none => match ok t with
      | false => none
      | true => match st s t with
        | some (s', t') => segG b n s' t'
        | none => none
end
section
variable {tb : String → Option Builtin} {p : Program} {w : World} {n₀ : Nat} {ann : Option Value} {b : Nat}
theorem run_of : ∀ {n : Nat} {s s' : SharedT} {t : Thread}, runG (stepOk n₀ ann) (stepT (denote tb) p w) n s t = some s' → topRun tb p w n₀ ann n s.abs t = some s'.abs
  | 0, _, _, _, h => by cases h
  | n + 1, s, s', t, h => by
    unfold runG at h
    unfold topRun
    cases he : through t with
    | true => rw [he] at h; cases h; rfl
    | false =>
      rw [he] at h
      cases hk : stepOk n₀ ann t with
      | false => rw [hk] at h; cases h
      | true =>
        rw [hk] at h
        cases hs : stepT (denote tb) p w s t with
        | none => rw [hs] at h; cases h
        | some r => obtain ⟨s₂, t₂⟩ := r; rw [hs] at h; rw [stepT_spec hs]; exact run_of h
theorem go_of : ∀ {n : Nat} {s s' : SharedT} {t t' : Thread}, goG (stepOk n₀ ann) (stepT (denote tb) p w) n s t = some (s', t') → topGo tb p w n₀ ann n s.abs t = some (s'.abs, t')
  | 0, _, _, _, _, h => by cases h; rfl
  | n + 1, s, s', t, t', h => by
    unfold goG at h
    unfold topGo
    cases he : through t with
    | true => rw [he] at h; cases h
    | false =>
      rw [he] at h
      cases hk : stepOk n₀ ann t with
      | false => rw [hk] at h; cases h
      | true =>
        rw [hk] at h
        cases hs : stepT (denote tb) p w s t with
        | none => rw [hs] at h; cases h
        | some r => obtain ⟨s₂, t₂⟩ := r; rw [hs] at h; rw [stepT_spec hs]; exact go_of h
theorem seg_of : ∀ {n : Nat} {s s' : SharedT} {t : Thread} {f : Flow} {c : Code} {q : Pos}, segG (stepOk n₀ ann) (stepT (denote tb) p w) b n s t = some (f, s', c, q) → segRun tb p w n₀ ann b n s.abs t = some (f, s'.abs, c, q)
  | 0, _, _, _, _, _, _, h => by cases h
  | n + 1, s, s', t, f, c, q, h => by
    unfold segG at h
    unfold segRun
    cases he : endAt b t with
    | some x => rw [he] at h; cases h; rfl
    | none =>
      rw [he] at h
      cases hk : stepOk n₀ ann t with
      | false => rw [hk] at h; cases h
      | true =>
        rw [hk] at h
        cases hs : stepT (denote tb) p w s t with
        | none => rw [hs] at h; cases h
        | some r => obtain ⟨s₂, t₂⟩ := r; rw [hs] at h; rw [stepT_spec hs]; exact seg_of h
-- pieces of a body that runs on any stack
variable {env : Env} {B : List Frame}
theorem app_B (hB : splitAtGen B = none) {n N : Nat} {s s' r : Shared} {l rest : List Stmt} {c : Code} {pos p' : Pos} (h : segRun tb p w n₀ ann B.length n s (piecesOf l env c pos B) = some (.next, s', c, p'))
    (k : topRun tb p w n₀ ann N s' (restOf rest env c p' B) = some r) : topRun tb p w n₀ ann (n + N) s (restOf (l ++ rest) env c pos B) = some r := by
  obtain ⟨a, ha, hN⟩ := seg_top (res := id) (K' := fun f => match f with | .next => (execs rest env).wrap doneF (leaveH env) id id | f => doneF f) (H' := leaveH env) hB n s (piecesOf l env c pos B)
    ⟨(execs l env).wrap (fun f => match f with | .next => (execs rest env).wrap doneF (leaveH env) id id | f => doneF f) (leaveH env) id id, c, pos, B⟩ _ _ _ _ ⟨rfl, rfl, .inl ⟨rfl, rfl, _, rfl, rfl⟩⟩ h
  obtain rfl : a = .next := ha
  have := hN N r k
  unfold restOf
  rw [execs_app_wrap]
  exact this
theorem block_B (hB : splitAtGen B = none) {n N : Nat} {s s' r : Shared} {b : List Stmt} {c : Code} {pos p' : Pos} (h : segRun tb p w n₀ ann B.length n s (blockOf b env c pos B) = some (.next, s', c, p'))
    (k : topRun tb p w n₀ ann N s' (restOf b env c p' B) = some r) : topRun tb p w n₀ ann (n + N) s ⟨denote tb (.body b env), c, pos, B⟩ = some r := by
  obtain ⟨a, ha, hN⟩ := seg_top (res := fun _ : Unit => Flow.next) (K' := fun _ => (execs b env).wrap doneF (leaveH env) id id) (H' := Sem.raise) hB n s (blockOf b env c pos B)
    ⟨(blockStart b env).wrap (fun _ => (execs b env).wrap doneF (leaveH env) id id) .raise id id, c, pos, B⟩ _ _ _ _ ⟨rfl, rfl, .inl ⟨rfl, rfl, _, rfl, rfl⟩⟩ h
  rw [body_wrap]
  exact hN N r k
end
-- the same machine in the kit's quick words
noncomputable def okF (t : Thread) : Bool := PySem.W.Fast.tw6613529449190102663 11 (some (.ref 6)) t
noncomputable def stF (w : World) : SharedT → Thread → Option (SharedT × Thread) := PySem.W.Fast.tw10156331382660048174 (PySem.W.Fast.tw11892475500146522536 PySem.W.Fast.tw14364793385576792824) PySem.Challenge.pw_im0103_01 w
theorem okF_eq : okF = stepOk 11 (some (.ref 6)) := by
  unfold okF
  rw [← PySem.W.Fast.te6613529449190102663]
theorem stF_eq (w : World) : stF w = stepT (denote treeTable) PySem.Challenge.pw_im0103_01 w := by
  unfold stF
  rw [← PySem.W.Fast.te10156331382660048174, ← PySem.W.Fast.te11892475500146522536, ← PySem.W.Fast.te14364793385576792824]
noncomputable def norm : BT → BT
  | .nil => .nil
  | .node o l r => .node o (norm l) (norm r)
theorem norm_eq : ∀ t, norm t = t
  | .nil => rfl
  | .node o l r => by rw [norm, norm_eq l, norm_eq r]
end Mine
end
section
set_option maxRecDepth 100000
set_option maxHeartbeats 0
namespace Mine
open PySem PySem.W PySem.Calls PyProof.Rows
noncomputable abbrev PW : Program := PySem.Challenge.pw_im0103_01
noncomputable def sClsOwn : Stmt → Scope | .ClassDef _ _ _ _ _ _ own _ _ _ _ => own | _ => PySem.Challenge.pw_im0103_01.main.scope
noncomputable def treeL (l : List Obj) : Nat → Nat → Nat → BT
  | 0, _, _ => .nil
  | k + 1, a, b => match l[b]? with
    | some o => .node o (treeL l k (2 * a) (a + b)) (treeL l k (2 * a) (2 * a + b))
    | none => .nil
noncomputable def tree0 (P : Params) : BT := treeL (boot_heap P).objs.toList 12 1 0
theorem boot_abs : (fun P : Params => absHeap (tree0 P) 11 (boot_heap P).life) = fun P => boot_heap P := by kernel_rfl
noncomputable def S0F (w : World) (os : OsState) : SharedT := ⟨tree0 w.params, 11, (boot_heap w.params).life, #[], boot_drawn, boot_toks, os⟩
noncomputable def d0 (w : World) (os : OsState) : SharedT × Thread := (S0F w os, topStub PW)
noncomputable def R1 (w : World) (os : OsState) := goG okF (stF w) 109 (S0F w os) (topStub PW)
noncomputable def S1 (w : World) (os : OsState) : SharedT := ((R1 w os).getD (d0 w os)).1
noncomputable def B1 (w : World) (os : OsState) : List Frame := ((R1 w os).getD (d0 w os)).2.stack
noncomputable def envC : Env := { scope := sClsOwn (pTop 2), locals := 24, globals := 3, cells := [], qual := "MPU.", func := none, code := .ref 27, frame := some 28, builtins := 0 }
noncomputable def codeC : Code := .body pCls envC
noncomputable def pos1 : Pos := ⟨5, 0, 1029, 786⟩
noncomputable def denF : Code → Sem Fin := PySem.W.Fast.tw11892475500146522536 PySem.W.Fast.tw14364793385576792824
theorem r1 : (fun w os => (R1 w os).map fun x => (x.2.cur, x.2.code, x.2.pos)) = fun _ _ => some (denF codeC, codeC, pos1) := by kernel_rfl
theorem b1 : (fun w os => (splitAtGen (B1 w os), (B1 w os).length)) = fun _ _ => (none, 2) := by kernel_rfl
noncomputable def R2 (w : World) (os : OsState) := segG okF (stF w) 2 30 (S1 w os) (blockOf pCls envC codeC pos1 (B1 w os))
theorem r2 : (fun w os => (R2 w os).map fun x => (x.1, x.2.2)) = fun _ _ => some (.next, codeC, pos1) := by kernel_rfl
end Mine
end
section
set_option maxRecDepth 100000
set_option maxHeartbeats 0
namespace Mine
open PySem PySem.W PySem.Calls PyProof.Rows
noncomputable def exsQ : List Stmt → Env → Sem Flow := PySem.W.Fast.tw12563942051412417395
theorem exsQ_eq : exsQ = execs := by unfold exsQ; rw [← PySem.W.Fast.te12563942051412417395]
noncomputable def pcsQ (l : List Stmt) (env : Env) (c : Code) (p : Pos) (B : List Frame) : Thread := ⟨Sem.wrap doneF deadEnd id id (exsQ l env), c, p, B⟩
noncomputable def rstQ (l : List Stmt) (env : Env) (c : Code) (p : Pos) (B : List Frame) : Thread := ⟨Sem.wrap doneF (leaveH env) id id (exsQ l env), c, p, B⟩
theorem pcsQ_eq (l : List Stmt) (env : Env) (c : Code) (p : Pos) (B : List Frame) : pcsQ l env c p B = piecesOf l env c p B := by unfold pcsQ piecesOf; rw [exsQ_eq]
theorem rstQ_eq (l : List Stmt) (env : Env) (c : Code) (p : Pos) (B : List Frame) : rstQ l env c p B = restOf l env c p B := by unfold rstQ restOf; rw [exsQ_eq]
noncomputable def S2 (w : World) (os : OsState) : SharedT := ((R2 w os).getD (.next, S0F w os, codeC, pos1)).2.1
noncomputable def R3 (w : World) (os : OsState) := segG okF (stF w) 2 2000 (S2 w os) (pcsQ (pCls.take 16) envC codeC pos1 (B1 w os))
theorem r3 : (fun w os => (R3 w os).map fun x => (x.1, x.2.1.n, x.2.1.toks, x.2.2)) = fun _ _ => some (.next, 37, 248, codeC, (pDef 15).pos) := by kernel_rfl
noncomputable def S3 (w : World) (os : OsState) : SharedT := ((R3 w os).getD (.next, S0F w os, codeC, pos1)).2.1
noncomputable def txts (k : Nat) : List Str → List Value × Nat
  | [] => ([], k)
  | s :: r => (.str s k :: (txts (k + 1) r).1, (txts (k + 1) r).2)
noncomputable def fileT : Str := "/claim/cut.py"
noncomputable def layDef (P : Params) (n k : Nat) : Stmt → List Obj × DictEntry × List Value × Nat
  | .FunctionDef name p body _ _ _ sc _ _ pos =>
    let l := (localNames p sc (.stmts body)).getD ([], [])
    let t₁ := txts (k + 3) l.1
    let t := txts t₁.2 l.2
    ([{ cls := .type "tuple", data := .seq #[] }, { cls := .none, data := .fields #[] }, { cls := .type "tuple", data := .seq t₁.1.toArray }, { cls := .type "tuple", data := .seq t.1.toArray },
      { cls := .none, data := .func { name := name, qualname := ("MPU." : Str) ++ name, params := p, body := .stmts body, scope := sc, globals := 0, closure := [], defaults := .none, kwdefaults := .none } },
      { cls := .type "code", data := .fields #[.str name k, .str (("MPU." : Str) ++ name) (k + 1), .str fileT (k + 2), .int pos.line 0, .int (p.posonlyargs.length + p.args.length : Nat) 0, .int 0 0, .int 0 0, .int 3 0, .ref n, .bool true, .int 181 0, .ref (n + 1), .none,
        .ref (n + 2), .ref (n + 3), .ref (n + 4), .int t.2 0, .int pos.line 0, .str fileT (t.2 + 1)] },
      { cls := .type "function", data := .func { name := name, qualname := ("MPU." : Str) ++ name, params := p, body := .stmts body, scope := sc, globals := 3, closure := [], defaults := .none, kwdefaults := .none, pyModule := .str "py65.devices.mpu6502" 194, code := .ref (n + 5) } }],
     ⟨PyData.keyHash P name, .str name (t.2 + 2), .ref (n + 6)⟩, [.int pos.line 0, .int pos.col 0, .ref (n + 5)], t.2 + 3)
  | _ => ([], default, [], k)
noncomputable def layDefs (P : Params) : Nat → Nat → List Stmt → List Obj × List DictEntry × List Value × Nat × Nat
  | n, k, [] => ([], [], [], n, k)
  | n, k, s :: r => ((layDef P n k s).1 ++ (layDefs P (n + 7) (layDef P n k s).2.2.2 r).1, (layDef P n k s).2.1 :: (layDefs P (n + 7) (layDef P n k s).2.2.2 r).2.1,
      (layDef P n k s).2.2.1 ++ (layDefs P (n + 7) (layDef P n k s).2.2.2 r).2.2.1, (layDefs P (n + 7) (layDef P n k s).2.2.2 r).2.2.2)
noncomputable def patch (es : List DictEntry) (vs : List Value) (a : Nat) (o : Obj) : Obj := match Nat.beq a 24, Nat.beq a 26, o.data with
  | true, _, .dict e ep => { o with data := .dict (e.toList ++ es).toArray (ep + es.length) }
  | _, true, .fields v => { o with data := .fields (v.toList ++ vs).toArray }
  | _, _, _ => o
noncomputable def insAll : List Obj → BT → Nat → BT := fun l => @List.rec Obj (fun _ => BT → Nat → BT) (fun T _ => T) (fun o _ ih T n => ih (T.ins n o) (n + 1)) l
noncomputable def SM (l : List Stmt) (w : World) (os : OsState) : SharedT :=
  let r := layDefs w.params 37 248 l
  { S3 w os with
    tree := insAll r.1 (((S3 w os).tree.set 24 (patch r.2.1 r.2.2.1 24)).set 26 (patch r.2.1 r.2.2.1 26)) 37
    n := r.2.2.2.1
    toks := r.2.2.2.2 }
noncomputable def normT (x : SharedT) : SharedT := { x with tree := norm x.tree }
noncomputable def R4 (w : World) (os : OsState) := segG okF (stF w) 2 4000 (S3 w os) (pcsQ ((pCls.drop 16).take 100) envC codeC (pDef 15).pos (B1 w os))
theorem r4 : (fun w os => (R4 w os).map fun x => (x.1, normT x.2.1, x.2.2)) = fun w os => some (.next, SM ((pCls.drop 16).take 100) w os, codeC, (pDef (15 + 100)).pos) := by kernel_rfl
end Mine
end
section
set_option maxRecDepth 100000
set_option maxHeartbeats 0
namespace Mine
open PySem PySem.W PySem.Calls PyProof.Rows
noncomputable def R5 (w : World) (os : OsState) := segG okF (stF w) 2 4000 (SM ((pCls.drop 16).take 100) w os) (pcsQ ((pCls.drop 116).take 60) envC codeC (pDef 115).pos (B1 w os))
theorem r5 : (fun w os => (R5 w os).map fun x => (x.1, normT x.2.1, x.2.2)) = fun w os => some (.next, SM ((pCls.drop 16).take 160) w os, codeC, (pDef 175).pos) := by kernel_rfl
end Mine
end
section
set_option maxRecDepth 1000000
set_option maxHeartbeats 0
namespace Mine
open PySem PySem.W PySem.Calls PyProof.Rows
noncomputable def R6 (w : World) (os : OsState) := segG okF (stF w) 2 4000 (SM ((pCls.drop 16).take 160) w os) (pcsQ ((pCls.drop 176).take 38) envC codeC (pDef 175).pos (B1 w os))
theorem r6 : (fun w os => (R6 w os).map fun x => (x.1, normT x.2.1, x.2.2)) = fun w os => some (.next, SM ((pCls.drop 16).take 198) w os, codeC, (pDef 213).pos) := by kernel_rfl
end Mine
end
section
set_option maxRecDepth 1000000
set_option maxHeartbeats 0
namespace Mine
open PySem PySem.W PySem.Calls PyProof.Rows
noncomputable def rawK (P : Params) : List Obj := (((KF P : List (Nat × Obj)).drop 124).take 3).map (·.2)
noncomputable def esK (P : Params) : List DictEntry := [⟨PyData.keyHash P "instruct", .str "instruct" 1710, .ref 1423⟩, ⟨PyData.keyHash P "cycletime", .str "cycletime" 1967, .ref 1424⟩, ⟨PyData.keyHash P "extracycles", .str "extracycles" 2224, .ref 1425⟩]
noncomputable def SLk (k tk : Nat) (w : World) (os : OsState) : SharedT :=
  { SM ((pCls.drop 16).take 198) w os with
    tree := insAll ((rawK w.params).take k) ((SM ((pCls.drop 16).take 198) w os).tree.set 24 (patch ((esK w.params).take k) [] 24)) 1423
    n := 1423 + k
    toks := tk }
noncomputable def R7 (w : World) (os : OsState) := segG okF (stF w) 2 2000 (SM ((pCls.drop 16).take 198) w os) (pcsQ ((pCls.drop 214).take 1) envC codeC (pDef 213).pos (B1 w os))
theorem r7 : (fun w os => (R7 w os).map fun x => (x.1, normT x.2.1, x.2.2)) = fun w os => some (.next, SLk 1 1711 w os, codeC, ⟨1027, 4, 1027, 12⟩) := by kernel_rfl
noncomputable def R7b (w : World) (os : OsState) := segG okF (stF w) 2 2000 (SLk 1 1711 w os) (pcsQ ((pCls.drop 215).take 1) envC codeC ⟨1027, 4, 1027, 12⟩ (B1 w os))
theorem r7b : (fun w os => (R7b w os).map fun x => (x.1, normT x.2.1, x.2.2)) = fun w os => some (.next, SLk 2 1968 w os, codeC, ⟨1028, 4, 1028, 13⟩) := by kernel_rfl
noncomputable def R7c (w : World) (os : OsState) := segG okF (stF w) 2 2000 (SLk 2 1968 w os) (pcsQ ((pCls.drop 216).take 1) envC codeC ⟨1028, 4, 1028, 13⟩ (B1 w os))
theorem r7c : (fun w os => (R7c w os).map fun x => (x.1, normT x.2.1, x.2.2)) = fun w os => some (.next, SLk 3 2225 w os, codeC, ⟨1029, 4, 1029, 15⟩) := by kernel_rfl
end Mine
end
section
set_option maxRecDepth 1000000
set_option maxHeartbeats 0
namespace Mine
open PySem PySem.W PySem.Calls PyProof.Rows
noncomputable def R8 (w : World) (os : OsState) := runG okF (stF w) 5000 (SLk 3 2225 w os) (rstQ (pCls.drop 217) envC codeC ⟨1029, 4, 1029, 15⟩ (B1 w os))
noncomputable def qV : Program := { PW with main := { PW.main with body := [pTop 0, pTop 4, pTop 6, pTop 7, pTop 8] } }
noncomputable abbrev rW : RowW := OpenRow.toRowW (OpenLaw.row PySem.Challenge.rw_im0103_01)
noncomputable def asK : List Addr := [3, 29, 35, 36, 42, 43, 49, 50, 70, 71, 77, 78, 84, 85, 91, 92, 98, 99, 105, 106, 112, 113, 140, 141, 154, 155, 161, 162, 168, 169, 175, 176, 196, 197, 210, 211, 224, 225, 231, 232, 238, 239, 245, 246, 252, 253, 266, 267, 273, 274, 280, 281, 287, 288, 294, 295, 315, 316, 322, 323, 329, 330, 343, 344, 413, 414, 462, 463, 532, 533, 539, 540, 595, 596, 651, 652, 658, 659, 672, 673, 777, 778, 798, 799, 833, 834, 840, 841, 889, 890, 903, 904, 924, 925, 959, 960, 973, 974, 1029, 1030, 1043, 1044, 1050, 1051, 1106, 1107, 1127, 1128, 1197, 1198, 1211, 1212, 1239, 1240, 1253, 1254, 1260, 1261, 1330, 1331, 1372, 1373, 1386, 1387, 1423, 1424, 1425, 1427, 1428, 1438, 1439, 1440, 1446, 1447, 1453, 1454, 1458, 1459]
theorem asK_eq : ∀ P, asK = (KF P).map (·.1) := fun _ => by kernel_rfl
noncomputable def hkK : Hook := kmHook KF asK asK_eq [80]
noncomputable def looseK : List Str := ["MPU", "_law_code"]
noncomputable def XtK (s : Shared) : Bool := xlAt qV [] s && recOk (RowW.records rW) s
noncomputable def impK : List Str := importedModules PW.main.body
noncomputable def openSeenQ := @PySem.W.Fast.tw4187177175401517315
noncomputable def lkA (w : World) (s : Shared) : Bool := staticsOk impK (boot_heap w.params) s.heap && namesBound PW s.heap && gensDone s && laidKept (boot_heap w.params) s.heap
theorem l8 : (fun w os => (R8 w os).map fun s => (lkA w s.abs, openSeenQ qV looseK impK XtK true s.abs, hkK.obs s.abs)) = fun w _ => some (true, openGood qV looseK, hkK.val w) := by kernel_rfl
end Mine
end
section
set_option maxRecDepth 1000000
set_option maxHeartbeats 0
namespace Mine
open PySem PySem.W PySem.Calls PyProof.Rows
noncomputable abbrev PR : Program := rW.prog
theorem some_of {α : Type} {β : Type} {x : Option α} {f : α → β} {b : β} (h : x.map f = some b) : ∃ a, x = some a ∧ f a = b := Option.map_eq_some_iff.mp h
theorem norm_st {x y : SharedT} (h : normT x = y) : x = y := by
  obtain ⟨t, n, l, g, d, k, o⟩ := x
  rw [← h]
  show _ = SharedT.mk (norm t) n l g d k o
  rw [norm_eq]
theorem cut_seg {x : Option (Flow × SharedT × Code × Pos)} {f : Flow} {S : SharedT} {c : Code} {p : Pos} (h : (x.map fun x => (x.1, normT x.2.1, x.2.2)) = some (f, S, c, p)) : x = some (f, S, c, p) := by
  obtain ⟨⟨f', S', q⟩, rfl, e⟩ := some_of h
  have e1 : f' = f := congrArg Prod.fst e
  have e2 : normT S' = S := congrArg (fun z => z.2.1) e
  have e3 : q = (c, p) := congrArg (fun z => z.2.2) e
  rw [e1, e3, norm_st e2]
theorem get3 {x : Option (Flow × SharedT × Code × Pos)} {d : Flow × SharedT × Code × Pos} {f : Flow} {c : Code} {p : Pos} {n k : Nat} (h : (x.map fun x => (x.1, x.2.1.n, x.2.1.toks, x.2.2)) = some (f, n, k, c, p)) : x = some (f, (x.getD d).2.1, c, p) := by
  obtain ⟨a, rfl, e⟩ := some_of h
  obtain ⟨f', S, q⟩ := a
  have e1 : f' = f := congrArg Prod.fst e
  have e3 : q = (c, p) := congrArg (fun z => z.2.2.2) e
  rw [e1, e3]
  rfl
theorem get2 {x : Option (Flow × SharedT × Code × Pos)} {d : Flow × SharedT × Code × Pos} {f : Flow} {c : Code} {p : Pos} (h : (x.map fun x => (x.1, x.2.2)) = some (f, c, p)) : x = some (f, (x.getD d).2.1, c, p) := by
  obtain ⟨a, rfl, e⟩ := some_of h
  obtain ⟨f', S, q⟩ := a
  have e1 : f' = f := congrArg Prod.fst e
  have e3 : q = (c, p) := congrArg (fun z => z.2) e
  rw [e1, e3]
  rfl
theorem get1 {x : Option (SharedT × Thread)} {d : SharedT × Thread} {m : Sem Fin} {c : Code} {p : Pos} (h : (x.map fun x => (x.2.cur, x.2.code, x.2.pos)) = some (m, c, p)) : x = some ((x.getD d).1, ⟨m, c, p, (x.getD d).2.stack⟩) := by
  obtain ⟨a, rfl, e⟩ := some_of h
  obtain ⟨S, cur, code, pos, st⟩ := a
  have e1 : cur = m := congrArg Prod.fst e
  have e2 : code = c := congrArg (fun z => z.2.1) e
  have e3 : pos = p := congrArg (fun z => z.2.2) e
  rw [e1, e2, e3]
  rfl
theorem den_eq : denF = denote treeTable := by
  unfold denF
  rw [← PySem.W.Fast.te11892475500146522536, ← PySem.W.Fast.te14364793385576792824]
theorem drop_cut (n m : Nat) : pCls.drop n = (pCls.drop n).take m ++ pCls.drop (n + m) := by
  rw [← List.drop_drop, List.take_append_drop]
theorem top_all (w : World) (os : OsState) {s : SharedT} (h : R8 w os = some s) : topRun treeTable PW w 11 (some (.ref 6)) 26000 (S0F w os).abs (topStub PW) = some s.abs := by
  have hB := congrArg (fun f => (f w os).1) b1
  have hL := congrArg (fun f => (f w os).2) b1
  dsimp only at hB hL
  -- the rest
  have k8 : topRun treeTable PW w 11 (some (.ref 6)) 5000 (SLk 3 2225 w os).abs (restOf (pCls.drop (216 + 1)) envC codeC ⟨1029, 4, 1029, 15⟩ (B1 w os)) = some s.abs := by
    refine run_of ?_
    rw [← okF_eq, ← stF_eq, ← rstQ_eq]
    exact h
  have e7c := cut_seg (congrFun (congrFun r7c w) os)
  have k7c := app_B (rest := pCls.drop (216 + 1)) hB (n := 2000) (by
    rw [hL]
    refine seg_of (s := SLk 2 1968 w os) ?_
    rw [← okF_eq, ← stF_eq, ← pcsQ_eq]
    exact e7c) k8
  rw [← drop_cut] at k7c
  have e7b := cut_seg (congrFun (congrFun r7b w) os)
  have k7b := app_B (rest := pCls.drop (215 + 1)) hB (n := 2000) (by
    rw [hL]
    refine seg_of (s := SLk 1 1711 w os) ?_
    rw [← okF_eq, ← stF_eq, ← pcsQ_eq]
    exact e7b) k7c
  rw [← drop_cut] at k7b
  have e7 := cut_seg (congrFun (congrFun r7 w) os)
  have k7 := app_B (rest := pCls.drop (214 + 1)) hB (n := 2000) (by
    rw [hL]
    refine seg_of (s := SM ((pCls.drop 16).take 198) w os) ?_
    rw [← okF_eq, ← stF_eq, ← pcsQ_eq]
    exact e7) k7b
  rw [← drop_cut] at k7
  have e6 := cut_seg (congrFun (congrFun r6 w) os)
  have k6 := app_B (rest := pCls.drop (176 + 38)) hB (n := 4000) (by
    rw [hL]
    refine seg_of (s := SM ((pCls.drop 16).take 160) w os) ?_
    rw [← okF_eq, ← stF_eq, ← pcsQ_eq]
    exact e6) k7
  rw [← drop_cut] at k6
  have e5 := cut_seg (congrFun (congrFun r5 w) os)
  have k5 := app_B (rest := pCls.drop (116 + 60)) hB (n := 4000) (by
    rw [hL]
    refine seg_of (s := SM ((pCls.drop 16).take 100) w os) ?_
    rw [← okF_eq, ← stF_eq, ← pcsQ_eq]
    exact e5) k6
  rw [← drop_cut] at k5
  have e4 := cut_seg (congrFun (congrFun r4 w) os)
  have k4 := app_B (rest := pCls.drop (16 + 100)) hB (n := 4000) (by
    rw [hL]
    refine seg_of (s := S3 w os) ?_
    rw [← okF_eq, ← stF_eq, ← pcsQ_eq]
    exact e4) k5
  rw [← drop_cut] at k4
  have e3' : R3 w os = some (.next, S3 w os, codeC, (pDef 15).pos) := get3 (congrFun (congrFun r3 w) os)
  have k3 := app_B (rest := pCls.drop (0 + 16)) (l := (pCls.drop 0).take 16) hB (n := 2000) (by
    rw [hL]
    refine seg_of (s := S2 w os) ?_
    rw [← okF_eq, ← stF_eq, ← pcsQ_eq]
    exact e3') k4
  rw [← drop_cut, List.drop_zero] at k3
  have e2' : R2 w os = some (.next, S2 w os, codeC, pos1) := get2 (congrFun (congrFun r2 w) os)
  have k2 := block_B hB (n := 30) (by
    rw [hL]
    refine seg_of (s := S1 w os) ?_
    rw [← okF_eq, ← stF_eq]
    exact e2') k3
  have e1' : R1 w os = some (S1 w os, ⟨denote treeTable codeC, codeC, pos1, B1 w os⟩) := den_eq ▸ get1 (congrFun (congrFun r1 w) os)
  have k1 := go_top (n := 109) (by
    refine go_of (s := S0F w os) (t := topStub PW) ?_
    rw [← okF_eq, ← stF_eq]
    exact e1') k2
  exact topRun_mono 861 _ _ _ _ k1
end Mine
end
section
set_option maxRecDepth 1000000
set_option maxHeartbeats 0
namespace Mine
open PySem PySem.W PySem.Calls PyProof.Rows
theorem boot_size : (fun P : Params => ((boot_heap P).isNs mainGlobals, (boot_heap P).objs.size, (boot_heap P).nsMap mainGlobals "__annotations__")) = fun _ => (true, 11, some (.ref 6)) := by kernel_rfl
theorem openQ_eq : openSeenQ = openSeen := by unfold openSeenQ; rw [← PySem.W.Fast.te4187177175401517315]
theorem y_all (w : World) (os : OsState) {s : SharedT} (h : R8 w os = some s) : (lkA w s.abs, openSeenQ qV looseK impK XtK true s.abs, hkK.obs s.abs) = (true, openGood qV looseK, hkK.val w) := by
  obtain ⟨s', hs, e⟩ := some_of (congrFun (congrFun l8 w) os)
  rw [h] at hs
  rw [← Option.some.inj hs] at e
  exact e
theorem y_ok (w : World) (os : OsState) : ∃ s, R8 w os = some s := by
  obtain ⟨s, hs, _⟩ := some_of (congrFun (congrFun l8 w) os)
  exact ⟨s, hs⟩
theorem y_1 (w : World) (os : OsState) {s : SharedT} (h : R8 w os = some s) : lkA w s.abs = true := congrArg Prod.fst (y_all w os h)
theorem y_2 (w : World) (os : OsState) {s : SharedT} (h : R8 w os = some s) : openSeen qV looseK impK XtK true s.abs = openGood qV looseK := openQ_eq ▸ congrArg (fun x => x.2.1) (y_all w os h)
theorem y_3 (w : World) (os : OsState) {s : SharedT} (h : R8 w os = some s) : hkK.obs s.abs = hkK.val w := congrArg (fun x => x.2.2) (y_all w os h)
theorem top_from (w : World) (os : OsState) {s : SharedT} (h : R8 w os = some s) : topFrom treeTable PW w 26000 ⟨boot_heap w.params, #[], boot_drawn, boot_toks, os⟩ = some s.abs := by
  have t := top_all w os h
  have z := congrFun boot_size w.params
  have z1 : (boot_heap w.params).isNs mainGlobals = true := congrArg Prod.fst z
  have z2 : (boot_heap w.params).objs.size = 11 := congrArg (fun x => x.2.1) z
  have z3 : (boot_heap w.params).nsMap mainGlobals "__annotations__" = some (.ref 6) := congrArg (fun x => x.2.2) z
  have e0 : (S0F w os).abs = ⟨boot_heap w.params, #[], boot_drawn, boot_toks, os⟩ := by
    show Shared.mk (absHeap (tree0 w.params) 11 (boot_heap w.params).life) _ _ _ _ = _
    rw [show absHeap (tree0 w.params) 11 (boot_heap w.params).life = boot_heap w.params from congrFun boot_abs w.params]
    rfl
  rw [e0] at t
  have l : lkA w s.abs = true := y_1 w os h
  unfold topFrom
  dsimp only
  rw [z1, z2, z3, t]
  show (match staticsOk impK (boot_heap w.params) s.abs.heap && namesBound PW s.abs.heap && gensDone s.abs && laidKept (boot_heap w.params) s.abs.heap with | true => _ | false => _) = _
  rw [show (staticsOk impK (boot_heap w.params) s.abs.heap && namesBound PW s.abs.heap && gensDone s.abs && laidKept (boot_heap w.params) s.abs.heap) = true from l]
theorem boot_is (w : World) : (fencedOpening treeTable PW w 26000).map (fun s => (s.heap, s.gens, s.drawn, s.toks)) = some (boot_heap w.params, Array.mk [], boot_drawn, boot_toks) :=
  boot_open (p := PW) (N := 26000) (by kernel_rfl) (by kernel_rfl) (fun s => by kernel_rfl) w
theorem pair_map {α β : Type} {f : Shared → α} {g : Shared → β} {a : α} {b : β} {x : Option Shared} {s : Shared} (hx : x = some s) (ha : f s = a) (hb : g s = b) : x.map (fun s => (f s, g s)) = some (a, b) := by
  subst hx ha hb; rfl
theorem left0 (w : World) : ∃ s : SharedT, (fencedOpening treeTable PW w 26000).bind (topFrom treeTable PW w 26000) = some s.abs ∧ openSeen qV looseK impK XtK true s.abs = openGood qV looseK ∧ hkK.obs s.abs = hkK.val w := by
  obtain ⟨⟨h, gs, d, k, os⟩, e, e'⟩ := Option.map_eq_some_iff.mp (boot_is w)
  obtain ⟨rfl, e'⟩ := Prod.mk.inj e'
  obtain ⟨rfl, e'⟩ := Prod.mk.inj e'
  obtain ⟨rfl, rfl⟩ := Prod.mk.inj e'
  obtain ⟨s, hs⟩ := y_ok w os
  refine ⟨s, ?_, y_2 w os hs, y_3 w os hs⟩
  rw [e, Option.bind_some]
  exact top_from w os hs
theorem left : LeftO PR qV looseK XtK hkK.obs hkK.val 26000 := fun w => by
  obtain ⟨s, h1, h2, h3⟩ := left0 w
  exact pair_map (f := openSeen qV looseK impK XtK true) (g := hkK.obs) h1 h2 h3
end Mine
end
section
set_option maxRecDepth 1000000
set_option maxHeartbeats 0
namespace Mine
open PySem PySem.W PySem.Calls PyProof.Rows
theorem and6 {a b c d e f : Bool} (h1 : a = true) (h2 : b = true) (h3 : c = true) (h4 : d = true) (h5 : e = true) (h6 : f = true) : (a && b && c && d && e && f) = true := by rw [h1, h2, h3, h4, h5, h6]; rfl
noncomputable def FL (p : Program) : {x : Bool × Bool × Bool × Bool × Bool × Bool // x.1 = true → x.2.1 = true → x.2.2.1 = true → x.2.2.2.1 = true → x.2.2.2.2.1 = true → x.2.2.2.2.2 = true → PySem.W.Fast.tw12908688711261696721 p = true} := by
  refine ⟨(?a, ?b, ?c, ?d, ?e, ?f), ?h⟩
  case h =>
    intro a b c d e f
    unfold PySem.W.Fast.tw12908688711261696721
    exact and6 (by exact a) (by exact b) (by exact c) (by exact d) (by exact e) (by exact f)
noncomputable def FP (r : OpenRow) : {T : Bool // PySem.W.Fast.tw12908688711261696721 r.prog = true → T = true → PySem.W.Fast.tw2436336058641802641 r = true} := by
  refine ⟨?T, fun a h => ?g⟩
  case g =>
    unfold PySem.W.Fast.tw2436336058641802641
    rw [a, Bool.true_and]
    exact h
noncomputable def FR (r : OpenRow) : {T : Bool // PySem.W.Fast.tw2436336058641802641 r = true → T = true → PySem.W.Fast.tw17960256430627541270 r = true} := by
  refine ⟨?T, fun a h => ?g⟩
  case g =>
    unfold PySem.W.Fast.tw17960256430627541270
    rw [a, Bool.true_and]
    exact h
noncomputable def FW (l : OpenLaw) : {T : Bool // PySem.W.Fast.tw17960256430627541270 (PySem.W.Fast.tw2368527892694137696 l) = true → T = true → PySem.W.Fast.tw9446332074065402090 l = true} := by
  refine ⟨?T, fun a h => ?g⟩
  case g =>
    unfold PySem.W.Fast.tw9446332074065402090
    rw [a, Bool.true_and]
    exact h
noncomputable def oQ : OpenRow := PySem.W.Fast.tw2368527892694137696 PySem.Challenge.rw_im0103_01
theorem lk1 : (FL oQ.prog).1.1 = true := by kernel_rfl
theorem lk2 : (FL oQ.prog).1.2.1 = true := by kernel_rfl
theorem lk3 : (FL oQ.prog).1.2.2.1 = true := by kernel_rfl
theorem lk4 : (FL oQ.prog).1.2.2.2.1 = true := by kernel_rfl
theorem lk5 : (FL oQ.prog).1.2.2.2.2.1 = true := by kernel_rfl
theorem lk6 : (FL oQ.prog).1.2.2.2.2.2 = true := by kernel_rfl
theorem lp : (FP oQ).1 = true := by kernel_rfl
theorem lr : (FR oQ).1 = true := by kernel_rfl
theorem lw : (FW PySem.Challenge.rw_im0103_01).1 = true := by kernel_rfl
theorem law_said : OpenLaw.wellSaid PySem.Challenge.rw_im0103_01 = true := by
  rw [PySem.W.Fast.te9446332074065402090]
  exact (FW PySem.Challenge.rw_im0103_01).2 ((FR oQ).2 ((FP oQ).2 ((FL oQ.prog).2 lk1 lk2 lk3 lk4 lk5 lk6) lp) lr) lw
end Mine
end
section
set_option maxRecDepth 1000000
set_option maxHeartbeats 0
namespace Mine
open PySem PySem.W PySem.Calls PyProof.Rows
noncomputable def tMain : Module := PR.main
noncomputable def tBody : List Stmt := tMain.body
noncomputable def tTop : Scope := tMain.scope
noncomputable def tCls : Stmt := tBody.getD 2 (.Pass ⟨0, 0, 0, 0⟩)
noncomputable def tOwn : Scope := match tCls with | .ClassDef _ _ _ _ _ _ own _ _ _ _ => own | _ => tTop
noncomputable def tIn : List Stmt := match tCls with | .ClassDef _ _ _ b _ _ _ _ _ _ _ => b | _ => []
noncomputable abbrev tCx : TablesWhole.Ctx := ⟨tTop, [], [], [], none⟩
noncomputable abbrev tCx2 : TablesWhole.Ctx := ⟨tOwn, [], [], [], none⟩
noncomputable def wQ := @PySem.W.Fast.tw16421684217811934046 Bool
theorem wQ_eq : wQ = @TablesWhole.wSs Bool := by unfold wQ; rw [← PySem.W.Fast.te16421684217811934046]
theorem both_true {a b : Bool} (h1 : a = true) (h2 : b = true) : TablesWhole.holds.both a b = true := Bool.and_eq_true_iff.mpr ⟨h1, h2⟩
theorem wS_cls {α : Type} (A : TablesWhole.Alg α) (top : Scope) (cx : TablesWhole.Ctx) (sc : Scope) (n : Str) (bs : List Expr) (ks : List Keyword) (b : List Stmt) (ds : List Expr) (tps : List TypeParam) (own : Scope) (ts : Option Scope) (bind : Str) (sa : List Str) (pos : Pos) :
    TablesWhole.wS A top cx sc (.ClassDef n bs ks b ds tps own ts bind sa pos) = A.both (TablesWhole.wClassHead A cx sc bs ks ds tps own ts bind pos (TablesWhole.declSs true b)) (TablesWhole.wSs A top ⟨own, TablesWhole.declSs false b, TablesWhole.declSs true b, TablesWhole.under tps ts cx.encl, none⟩ own b) := by
  kernel_rfl
theorem wSs_cons {α : Type} (A : TablesWhole.Alg α) (top : Scope) (cx : TablesWhole.Ctx) (sc : Scope) (s : Stmt) (r : List Stmt) : TablesWhole.wSs A top cx sc (s :: r) = A.both (TablesWhole.wS A top cx sc s) (TablesWhole.wSs A top cx sc r) := by kernel_rfl
theorem wSs_nil {α : Type} (A : TablesWhole.Alg α) (top : Scope) (cx : TablesWhole.Ctx) (sc : Scope) : TablesWhole.wSs A top cx sc [] = A.unit := by kernel_rfl
theorem wSs_app (cx : TablesWhole.Ctx) (sc : Scope) : ∀ a b : List Stmt, TablesWhole.wSs TablesWhole.holds tTop cx sc a = true → TablesWhole.wSs TablesWhole.holds tTop cx sc b = true → TablesWhole.wSs TablesWhole.holds tTop cx sc (a ++ b) = true
  | [], _, _, h => h
  | s :: r, b, h1, h2 => by
    rw [wSs_cons] at h1
    obtain ⟨x, y⟩ := Bool.and_eq_true_iff.mp h1
    show TablesWhole.wSs TablesWhole.holds tTop cx sc (s :: (r ++ b)) = true
    rw [wSs_cons]
    exact Bool.and_eq_true_iff.mpr ⟨x, wSs_app cx sc r b y h2⟩
theorem wSs_cut (cx : TablesWhole.Ctx) (sc : Scope) (n : Nat) (l : List Stmt) (h1 : TablesWhole.wSs TablesWhole.holds tTop cx sc (l.take n) = true) (h2 : TablesWhole.wSs TablesWhole.holds tTop cx sc (l.drop n) = true) : TablesWhole.wSs TablesWhole.holds tTop cx sc l = true := by
  have h := wSs_app cx sc _ _ h1 h2
  rwa [List.take_append_drop] at h
theorem wSs_one' (cx : TablesWhole.Ctx) (sc : Scope) (s : Stmt) (h : TablesWhole.wS TablesWhole.holds tTop cx sc s = true) : TablesWhole.wSs TablesWhole.holds tTop cx sc [s] = true := by
  rw [wSs_cons, wSs_nil]
  exact both_true h rfl
noncomputable def enc (s : Str) : Nat := s.cps.toList.foldl (fun a c => a * 256 + c) 0
noncomputable def notIn (a : Nat) : List Nat → Bool
  | [] => true
  | b :: r => match Nat.beq a b with | true => false | false => notIn a r
noncomputable def dist : List Nat → Bool
  | [] => true
  | a :: r => match notIn a r with | true => dist r | false => false
theorem notIn_ne {a : Nat} : ∀ {l : List Nat}, notIn a l = true → ∀ b ∈ l, a ≠ b
  | b :: r, h, c, hc => by
    unfold notIn at h
    cases e : Nat.beq a b with
    | true => rw [e] at h; cases h
    | false =>
      rw [e] at h
      cases hc with
      | head => intro he; subst he; rw [Nat.beq_refl] at e; cases e
      | tail _ hc => exact notIn_ne h c hc
noncomputable abbrev NK := Str × NameKind
theorem filter_none {n : Str} : ∀ {l : List NK}, (∀ x ∈ l, enc n ≠ enc x.1) → l.filter (·.1 == n) = []
  | [], _ => rfl
  | x :: r, h => by
    rw [List.filter_cons_of_neg]
    · exact filter_none fun y hy => h y (.tail _ hy)
    · intro e
      exact h x (.head _) (congrArg enc (eq_of_beq e).symm)
theorem filter_one {n : Str} {k : NameKind} : ∀ {l : List NK}, dist (l.map fun x => enc x.1) = true → (n, k) ∈ l → l.filter (·.1 == n) = [(n, k)]
  | x :: r, h, hm => by
    unfold dist at h
    rw [List.map_cons] at h
    dsimp only at h
    cases e : notIn (enc x.1) (r.map fun x => enc x.1) with
    | false => rw [e] at h; cases h
    | true =>
      rw [e] at h
      have hn := notIn_ne e
      cases hm with
      | head =>
        rw [List.filter_cons_of_pos (by exact beq_self_eq_true n), filter_none fun y hy => hn _ (List.mem_map_of_mem hy)]
      | tail _ hm =>
        rw [List.filter_cons_of_neg, filter_one h hm]
        intro e'
        exact hn (enc n) (List.mem_map_of_mem hm) (congrArg enc (eq_of_beq e'))
theorem noTwice_of {sc : Scope} (h : dist (sc.names.map fun x => enc x.1) = true) : TablesWhole.noTwice sc = true := by
  unfold TablesWhole.noTwice
  refine List.all_eq_true.mpr fun x hx => ?_
  obtain ⟨n, k⟩ := x
  dsimp only
  rw [filter_one h hx]
noncomputable def lookE (e : Nat) : List NK → Option NK
  | [] => none
  | x :: r => match Nat.beq (enc x.1) e with | true => some x | false => lookE e r
theorem lookE_is {n : Str} : ∀ {l : List NK} {x : NK}, lookE (enc n) l = some x → (x.1 == n) = true → l.lookup n = some x.2
  | (m, k) :: r, x, h, e => by
    unfold lookE at h
    dsimp only at h
    rw [List.lookup_cons]
    cases hb : Nat.beq (enc m) (enc n) with
    | true =>
      rw [hb] at h
      cases h
      have : (n == m) = true := by
        have q : m = n := eq_of_beq e
        rw [q]; exact beq_self_eq_true _
      rw [this]
    | false =>
      rw [hb] at h
      have : (n == m) = false := by
        cases q : n == m with
        | false => rfl
        | true => rw [eq_of_beq q, Nat.beq_refl] at hb; cases hb
      rw [this]
      exact lookE_is h e
noncomputable def nmId : Expr → Option Str | .Name id _ => some id | _ => none
noncomputable def nmPos : Expr → Pos | .Name _ p => p | _ => ⟨0, 0, 0, 0⟩
theorem nmId_is {e : Expr} {id : Str} (h : nmId e = some id) : e = .Name id (nmPos e) := by
  cases e <;> first | cases h; rfl | cases h
noncomputable def nmOne (l : List NK) (e : Expr) : Bool := match nmId e with
  | some id => match lookE (enc id) l with
    | some x => x.1 == id
    | none => false
  | none => false
noncomputable def nmOk (l : List NK) : List Expr → Bool
  | [] => true
  | e :: r => match nmOne l e with | true => nmOk l r | false => false
theorem wE_name (cx : TablesWhole.Ctx) (sc : Scope) (id : Str) (pos : Pos) (hf : sc.functionLike = false) : TablesWhole.wE TablesWhole.holds cx sc none (.Name id pos) = sc.bears id := by
  have : TablesWhole.wE TablesWhole.holds cx sc none (.Name id pos) = if id == ("super" : Str) && sc.functionLike then TablesWhole.holds.both (TablesWhole.holds.ask sc id (some pos)) (TablesWhole.holds.ask sc ("__class__" : Str) none) else sc.bears id := by kernel_rfl
  rw [this, hf, Bool.and_false]
  rfl
theorem wEs_cons (cx : TablesWhole.Ctx) (sc : Scope) (e : Expr) (r : List Expr) : TablesWhole.wEs TablesWhole.holds cx sc none (e :: r) = (TablesWhole.wE TablesWhole.holds cx sc none e && TablesWhole.wEs TablesWhole.holds cx sc none r) := by kernel_rfl
theorem wEs_nil (cx : TablesWhole.Ctx) (sc : Scope) : TablesWhole.wEs TablesWhole.holds cx sc none [] = true := by kernel_rfl
theorem wE_one (cx : TablesWhole.Ctx) (sc : Scope) (hf : sc.functionLike = false) (e : Expr) (h : nmOne sc.names e = true) : TablesWhole.wE TablesWhole.holds cx sc none e = true := by
  unfold nmOne at h
  cases e1 : nmId e with
  | none => rw [e1] at h; cases h
  | some id =>
    rw [e1] at h
    dsimp only at h
    cases e2 : lookE (enc id) sc.names with
    | none => rw [e2] at h; cases h
    | some x =>
      rw [e2] at h
      rw [nmId_is e1, wE_name cx sc id _ hf]
      unfold Scope.bears
      rw [lookE_is e2 h]
      rfl
theorem wEs_names (cx : TablesWhole.Ctx) (sc : Scope) (hf : sc.functionLike = false) : ∀ l : List Expr, nmOk sc.names l = true → TablesWhole.wEs TablesWhole.holds cx sc none l = true
  | [], _ => wEs_nil cx sc
  | e :: r, h => by
    unfold nmOk at h
    cases e1 : nmOne sc.names e with
    | false => rw [e1] at h; cases h
    | true =>
      rw [e1] at h
      rw [wEs_cons, wE_one cx sc hf e e1, wEs_names cx sc hf r h]
      rfl
noncomputable def lsOf : Expr → Option (List Expr) | .List vs _ => some vs | _ => none
noncomputable def lsPos : Expr → Pos | .List _ p => p | _ => ⟨0, 0, 0, 0⟩
theorem lsOf_is {e : Expr} {vs : List Expr} (h : lsOf e = some vs) : e = .List vs (lsPos e) := by
  cases e <;> first | cases h; rfl | cases h
noncomputable def asVal : Stmt → Option (List Expr × Expr) | .Assign ts v _ => some (ts, v) | _ => none
noncomputable def asPos : Stmt → Pos | .Assign _ _ p => p | _ => ⟨0, 0, 0, 0⟩
theorem asVal_is {s : Stmt} {ts : List Expr} {v : Expr} (h : asVal s = some (ts, v)) : s = .Assign ts v (asPos s) := by
  cases s <;> first | cases h; rfl | cases h
noncomputable def asOk (cx : TablesWhole.Ctx) (sc : Scope) (s : Stmt) : Bool := match asVal s with
  | some x => match lsOf x.2 with
    | some vs => nmOk sc.names vs && TablesWhole.wTs TablesWhole.holds cx sc none x.1
    | none => false
  | none => false
theorem wS_names (top : Scope) (cx : TablesWhole.Ctx) (sc : Scope) (s : Stmt) (hf : sc.functionLike = false) (h : asOk cx sc s = true) : TablesWhole.wS TablesWhole.holds top cx sc s = true := by
  unfold asOk at h
  cases e1 : asVal s with
  | none => rw [e1] at h; cases h
  | some x =>
    rw [e1] at h
    dsimp only at h
    cases e2 : lsOf x.2 with
    | none => rw [e2] at h; cases h
    | some vs =>
      rw [e2] at h
      obtain ⟨hv, ht⟩ := Bool.and_eq_true_iff.mp h
      obtain ⟨ts, v⟩ := x
      have this : ∀ p q, TablesWhole.wS TablesWhole.holds top cx sc (.Assign ts (.List vs p) q) = (TablesWhole.wEs TablesWhole.holds cx sc none vs && TablesWhole.wTs TablesWhole.holds cx sc none ts) := fun p q => by kernel_rfl
      have e3 : v = .List vs (lsPos v) := lsOf_is e2
      rw [asVal_is e1, e3, this, wEs_names cx sc hf vs hv]
      exact ht
theorem o1 : dist (tOwn.names.map fun x => enc x.1) = true := by kernel_rfl
theorem o2 : asOk tCx2 tOwn (pDef 214) = true := by kernel_rfl
theorem o3 : tOwn.functionLike = false := by kernel_rfl
theorem tq_0 : wQ TablesWhole.holds tTop tCx2 tOwn ((tIn.drop 0).take 30) = true := by kernel_rfl
theorem tq_1 : wQ TablesWhole.holds tTop tCx2 tOwn ((tIn.drop 30).take 30) = true := by kernel_rfl
theorem tq_2 : wQ TablesWhole.holds tTop tCx2 tOwn ((tIn.drop 60).take 30) = true := by kernel_rfl
theorem tq_3 : wQ TablesWhole.holds tTop tCx2 tOwn ((tIn.drop 90).take 30) = true := by kernel_rfl
theorem tq_4 : wQ TablesWhole.holds tTop tCx2 tOwn ((tIn.drop 120).take 30) = true := by kernel_rfl
theorem tq_5 : wQ TablesWhole.holds tTop tCx2 tOwn ((tIn.drop 150).take 30) = true := by kernel_rfl
theorem tq_6 : wQ TablesWhole.holds tTop tCx2 tOwn ((tIn.drop 180).take 30) = true := by kernel_rfl
theorem tq_7 : wQ TablesWhole.holds tTop tCx2 tOwn ((tIn.drop 210).take 4) = true := by kernel_rfl
theorem tq_9 : wQ TablesWhole.holds tTop tCx2 tOwn (tIn.drop 215) = true := by kernel_rfl
theorem tq_8 : TablesWhole.wSs TablesWhole.holds tTop tCx2 tOwn ((tIn.drop 214).take 1) = true := by
  have h : (tIn.drop 214).take 1 = [pDef 214] := by kernel_rfl
  rw [h]
  exact wSs_one' tCx2 tOwn _ (wS_names tTop tCx2 tOwn _ o3 o2)
theorem t_seg (n m : Nat) (h1 : TablesWhole.wSs TablesWhole.holds tTop tCx2 tOwn ((tIn.drop n).take m) = true) (h2 : TablesWhole.wSs TablesWhole.holds tTop tCx2 tOwn (tIn.drop (n + m)) = true) : TablesWhole.wSs TablesWhole.holds tTop tCx2 tOwn (tIn.drop n) = true :=
  wSs_cut _ _ m _ h1 (by rw [List.drop_drop]; exact h2)
theorem t_in : TablesWhole.wSs TablesWhole.holds tTop tCx2 tOwn tIn = true := by
  rw [← List.drop_zero (l := tIn)]
  exact t_seg 0 30 (wQ_eq ▸ tq_0) (t_seg 30 30 (wQ_eq ▸ tq_1) (t_seg 60 30 (wQ_eq ▸ tq_2) (t_seg 90 30 (wQ_eq ▸ tq_3) (t_seg 120 30 (wQ_eq ▸ tq_4) (t_seg 150 30 (wQ_eq ▸ tq_5) (t_seg 180 30 (wQ_eq ▸ tq_6) (t_seg 210 4 (wQ_eq ▸ tq_7) (t_seg 214 1 tq_8 (wQ_eq ▸ tq_9)))))))))
theorem t_told : TablesWhole.wSs TablesWhole.gather tTop tCx tTop tBody = [] := by kernel_rfl
theorem t_pre : TablesWhole.wSs TablesWhole.holds tTop tCx tTop (tBody.take 2) = true := wQ_eq ▸ (by kernel_rfl : wQ TablesWhole.holds tTop tCx tTop (tBody.take 2) = true)
theorem t_post : TablesWhole.wSs TablesWhole.holds tTop tCx tTop (tBody.drop 3) = true := wQ_eq ▸ (by kernel_rfl : wQ TablesWhole.holds tTop tCx tTop (tBody.drop 3) = true)
theorem t_no : TablesWhole.noTwice tTop = true := by kernel_rfl
noncomputable def cN : Stmt → Str | .ClassDef n _ _ _ _ _ _ _ _ _ _ => n | _ => ""
noncomputable def cB : Stmt → List Expr | .ClassDef _ b _ _ _ _ _ _ _ _ _ => b | _ => []
noncomputable def cK : Stmt → List Keyword | .ClassDef _ _ k _ _ _ _ _ _ _ _ => k | _ => []
noncomputable def cD : Stmt → List Expr | .ClassDef _ _ _ _ d _ _ _ _ _ _ => d | _ => []
noncomputable def cT : Stmt → List TypeParam | .ClassDef _ _ _ _ _ t _ _ _ _ _ => t | _ => []
noncomputable def cTs : Stmt → Option Scope | .ClassDef _ _ _ _ _ _ _ ts _ _ _ => ts | _ => none
noncomputable def cBd : Stmt → Str | .ClassDef _ _ _ _ _ _ _ _ bd _ _ => bd | _ => ""
noncomputable def cSa : Stmt → List Str | .ClassDef _ _ _ _ _ _ _ _ _ sa _ => sa | _ => []
noncomputable def cP : Stmt → Pos | .ClassDef _ _ _ _ _ _ _ _ _ _ p => p | _ => ⟨0, 0, 0, 0⟩
noncomputable def isCls : Stmt → Bool | .ClassDef .. => true | _ => false
theorem cls_eta (s : Stmt) (h : isCls s = true) : s = .ClassDef (cN s) (cB s) (cK s) (match s with | .ClassDef _ _ _ b _ _ _ _ _ _ _ => b | _ => []) (cD s) (cT s) (match s with | .ClassDef _ _ _ _ _ _ own _ _ _ _ => own | _ => tTop) (cTs s) (cBd s) (cSa s) (cP s) := by
  cases s <;> first | rfl | cases h
theorem t_eq : tCls = .ClassDef (cN tCls) (cB tCls) (cK tCls) tIn (cD tCls) (cT tCls) tOwn (cTs tCls) (cBd tCls) (cSa tCls) (cP tCls) := cls_eta tCls (by kernel_rfl)
theorem t_decl (g : Bool) : TablesWhole.declSs g tIn = [] := by cases g <;> kernel_rfl
noncomputable def FE (ch : List Scope) (cls : Option Scope) (gl : List Str) (parent own : Scope) : {T : Bool // TablesWhole.holds.enterFrom ch cls gl parent own = (true && (TablesWhole.noTwice own && T))} := by
  refine ⟨?T, ?h⟩
  case h =>
    unfold TablesWhole.Alg.enterFrom
    exact rfl
theorem and3 {a b : Bool} (h : a = true) (k : b = true) : (true && (a && b)) = true := by rw [h, k]; rfl
theorem enter_of {ch : List Scope} {cls : Option Scope} {gl : List Str} {parent own : Scope} (h : TablesWhole.noTwice own = true) (k : (FE ch cls gl parent own).1 = true) : TablesWhole.holds.enterFrom ch cls gl parent own = true := by
  exact (FE ch cls gl parent own).2.trans (and3 h k)
theorem t_rest8 : (FE [] none [] tTop tOwn).1 = true := by kernel_rfl
theorem t_enter : TablesWhole.holds.enterFrom ([] : List Scope) none [] tTop tOwn = true := enter_of (noTwice_of o1) t_rest8
theorem head_of (cx : TablesWhole.Ctx) (sc : Scope) (bs : List Expr) (ks : List Keyword) (ds : List Expr) (own : Scope) (ts : Option Scope) (bind : Str) (pos : Pos) (gl : List Str)
    (h1 : TablesWhole.wEs TablesWhole.holds cx sc none ds = true) (h2 : TablesWhole.holds.bind cx sc bind (some pos) = true) (h3 : TablesWhole.holds.enterFrom cx.encl none gl sc own = true)
    (h4 : TablesWhole.wEs TablesWhole.holds cx sc none bs = true) (h5 : TablesWhole.wKs TablesWhole.holds cx sc none ks = true) : TablesWhole.wClassHead TablesWhole.holds cx sc bs ks ds [] own ts bind pos gl = true := by
  unfold TablesWhole.wClassHead
  exact both_true h1 (both_true h2 (both_true (both_true h3 (both_true h4 (both_true h5 rfl))) rfl))
theorem t_head : TablesWhole.wClassHead TablesWhole.holds tCx tTop (cB tCls) (cK tCls) (cD tCls) (cT tCls) tOwn (cTs tCls) (cBd tCls) (cP tCls) [] = true := by
  have h : cT tCls = [] := by kernel_rfl
  rw [h]
  exact head_of _ _ _ _ _ _ _ _ _ _ (by kernel_rfl) (by kernel_rfl) t_enter (by kernel_rfl) (by kernel_rfl)
theorem t_cls : TablesWhole.wSs TablesWhole.holds tTop tCx tTop [tCls] = true := by
  have h : TablesWhole.wS TablesWhole.holds tTop tCx tTop (.ClassDef (cN tCls) (cB tCls) (cK tCls) tIn (cD tCls) (cT tCls) tOwn (cTs tCls) (cBd tCls) (cSa tCls) (cP tCls)) = true := by
    rw [wS_cls, t_decl, t_decl]
    exact both_true t_head t_in
  rw [← t_eq] at h
  exact wSs_one' _ _ _ h
theorem t_cut : (tBody.drop 2).take 1 = [tCls] := by kernel_rfl
theorem t_rest : (tBody.drop 2).drop 1 = tBody.drop 3 := by rw [List.drop_drop]
theorem t_body : TablesWhole.wSs TablesWhole.holds tTop tCx tTop tBody = true :=
  wSs_cut _ _ 2 _ t_pre (wSs_cut _ _ 1 _ (by rw [t_cut]; exact t_cls) (by rw [t_rest]; exact t_post))
theorem wMod (m : Module) (told : List Str) (h : TablesWhole.wSs TablesWhole.gather m.scope ⟨m.scope, [], [], [], none⟩ m.scope m.body = told) (h1 : TablesWhole.noTwice m.scope = true) (h2 : TablesWhole.wSs TablesWhole.holds m.scope ⟨m.scope, [], told, [], none⟩ m.scope m.body = true) : TablesWhole.wModule TablesWhole.holds m = true := by
  unfold TablesWhole.wModule
  rw [h]
  exact both_true rfl (both_true h1 (both_true h2 rfl))
theorem t_mod : TablesWhole.wModule TablesWhole.holds tMain = true := wMod tMain [] t_told t_no t_body
theorem wProg (p : Program) (h0 : TablesWhole.wModule TablesWhole.holds p.main = true) (h1 : p.modules = []) (h2 : p.parses = []) (h3 : p.harvested = []) : p.tablesWhole = true := by
  unfold Program.tablesWhole TablesWhole.wProgram
  rw [h1, h2, h3]
  exact both_true h0 rfl
theorem t_main : tMain = PR.main := rfl
theorem whole : PR.tablesWhole = true := wProg PR (by rw [← t_main]; exact t_mod) rfl rfl rfl
end Mine
end
section
open PySem PySem.W PySem.Calls PyProof.Rows
set_option maxRecDepth 100000
set_option maxHeartbeats 4000000
namespace Mine
example (w : World) (h : Heap) (X : (KF w.params).In h) (m : Model) (hm : m = model PySem.Challenge.rw_im0103_01.row.prog w) : m = m := by
  revert X hm
  k_fill
  intros; rfl

/-! ## the machine as data -/
structure Im where
  x : Addr
  d : Addr
  r : Addr
  hs : Nat → Int
  ks : Nat → Tok
  nm : Value
  tk : Nat → Tok
  spc : Value
structure Rg where
  cyc : Int
  pc : Int
  sp : Int
  a : Int
  x : Int
  y : Int
  C : Bool
  Z : Bool
  V : Bool
  N : Bool
structure Tk where
  e : Tok
  c : Tok
  pc : Tok
  sp : Tok
  a : Tok
  x : Tok
  y : Tok
  p : Tok
noncomputable abbrev fl (C Z V N : Bool) : Int := 48 + (if C then 1 else 0) + (if Z then 2 else 0) + (if V then 64 else 0) + (if N then 128 else 0)
noncomputable abbrev rd (ns : List Int) (i : Int) : Int := ns.getD i.toNat 0
noncomputable abbrev mm (I : Im) (g : Rg) (ex : Int) (ad : Value) (t : Tk) : List DictEntry :=
  [⟨I.hs 0, .str "name" (I.ks 0), I.nm⟩, ⟨I.hs 1, .str "byteMask" (I.ks 1), .int 255 (I.tk 0)⟩, ⟨I.hs 2, .str "addrMask" (I.ks 2), .int 65535 (I.tk 1)⟩, ⟨I.hs 3, .str "addrHighMask" (I.ks 3), .int 65280 (I.tk 2)⟩, ⟨I.hs 4, .str "spBase" (I.ks 4), .int 256 (I.tk 3)⟩,
   ⟨I.hs 5, .str "excycles" (I.ks 5), .int ex t.e⟩, ⟨I.hs 6, .str "addcycles" (I.ks 6), ad⟩, ⟨I.hs 7, .str "processorCycles" (I.ks 7), .int g.cyc t.c⟩, ⟨I.hs 8, .str "memory" (I.ks 8), .ref I.r⟩, ⟨I.hs 9, .str "start_pc" (I.ks 9), I.spc⟩,
   ⟨I.hs 10, .str "pc" (I.ks 10), .int g.pc t.pc⟩, ⟨I.hs 11, .str "sp" (I.ks 11), .int g.sp t.sp⟩, ⟨I.hs 12, .str "a" (I.ks 12), .int g.a t.a⟩, ⟨I.hs 13, .str "x" (I.ks 13), .int g.x t.x⟩, ⟨I.hs 14, .str "y" (I.ks 14), .int g.y t.y⟩, ⟨I.hs 15, .str "p" (I.ks 15), .int (fl g.C g.Z g.V g.N) t.p⟩]
noncomputable abbrev led (I : Im) (g : Rg) (ex : Int) (ad : Value) (t : Tk) (vs : List Value) : List (Addr × Obj) :=
  [(I.x, instObj 1428 I.d), (I.d, dictOf (mm I g ex ad t) 16), (I.r, listOf vs.toArray 0)]
structure Apart (I : Im) : Prop where
  dx : @LT.lt Nat _ I.d I.x
  rd : @LT.lt Nat _ I.r I.d

/-- a call of a def of the machine's: from one state to another, and what it hands back -/
noncomputable def Does (w : World) (k : Nat) (fn : Addr) (args : List Value) (I : Im) (g : Rg) (ex : Int) (ad : Value) (t : Tk) (vs : List Value) (Q : Value → Rg → Int → List Value → Prop) (hm : List (Addr × Obj) → Prop := fun _ => True) : Prop :=
  ∀ {A₀ A : Around} {base h₀ : Heap} {outer : List Env} {env : Env} {L : Addr} {m mg mb : Str → Option Value} {p : Program} {loose : List Str} {mean : ExcName → Option Value} {s : Shared} {rest : List (Addr × Obj)} {R : Result → Shared → Prop},
  Below A₀ base outer h₀ → Fr h₀ L s.heap m → (KF w.params).In h₀ → Top p loose mean mg mb h₀ → A.frames = some (env :: outer) → env.frame = some L → env.scope.kind = .function → A.depth + k < recursionLimit →
  OwnOff rest [I.x, I.d, I.r] → hm rest → News h₀ L s.heap (led I g ex ad t vs ++ rest) →
  (∀ v g' ex' te tc tpc tsp ta tx ty tp vs' h' tk, Q v g' ex' vs' → Fr h₀ L h' m → News h₀ L h' (led I g' ex' ad ⟨te, tc, tpc, tsp, ta, tx, ty, tp⟩ vs' ++ rest) → R (.ok (.ret v)) { s with heap := h', toks := tk }) →
  codeAny (model PySem.Challenge.rw_im0103_01.row.prog w) A (.call (.ref fn) ⟨args, []⟩) R s

theorem gen_toks {M : Model} {A : Around} {α : Type} {t : Sem α} {Q : α → Shared → Prop} {E : Value → Shared → Prop} {h : Heap} {g : Array GenState} {d : Drawn} {k : Nat} {os : OsState} (H : ∀ tk, wpAny M A t Q E ⟨h, g, d, tk, os⟩) : wpAny M A t Q E ⟨h, g, d, k, os⟩ := H k
theorem frames_deep {A : Around} {e : Env} {l : List Env} (h : A.frames = some l) : (A.deeper e).frames = some (e :: l) := Around.frames_deeper h
theorem off_cons {q x d r : Addr} {o : Obj} {rest : List (Addr × Obj)} (off : OwnOff rest [x, d, r]) (h1 : q ≠ x) (h2 : q ≠ d) (h3 : q ≠ r) : OwnOff ((q, o) :: rest) [x, d, r] := by
  intro p hp b hb
  rcases List.mem_cons.mp hp with rfl | hp
  · simp only [List.mem_cons, List.not_mem_nil, or_false] at hb
    rcases hb with rfl | rfl | rfl <;> assumption
  · exact off p hp b hb
theorem news_sub {h₀ h : Heap} {L : Addr} {l l' : List (Addr × Obj)} (N : News h₀ L h l) (hs : ∀ p ∈ l', p ∈ l) : News h₀ L h l' := fun p hp => N p (hs p hp)
theorem news_rot1 {h₀ h : Heap} {L : Addr} {a b c e : Addr × Obj} {l : List (Addr × Obj)} (N : News h₀ L h (a :: b :: c :: e :: l)) : News h₀ L h (b :: c :: e :: a :: l) := by
  refine news_sub N fun p hp => ?_
  simp only [List.mem_cons] at hp ⊢
  rcases hp with h | h | h | h | h <;> simp [h]

end Mine
end
section
open PySem PySem.W PySem.Calls PyProof.Rows
set_option maxRecDepth 100000
set_option maxHeartbeats 4000000
namespace Mine
theorem facts (w : World) : (∀ n, plainGet (KF w.params) 1428 n = true) ∧ findIn (KF w.params) (.ref 1428) "name" = some none ∧ findIn (KF w.params) (.ref 1428) "byteMask" = some none ∧ findIn (KF w.params) (.ref 1428) "addrMask" = some none ∧ findIn (KF w.params) (.ref 1428) "addrHighMask" = some none ∧ findIn (KF w.params) (.ref 1428) "spBase" = some none ∧ findIn (KF w.params) (.ref 1428) "excycles" = some none ∧ findIn (KF w.params) (.ref 1428) "addcycles" = some none ∧ findIn (KF w.params) (.ref 1428) "processorCycles" = some none ∧ findIn (KF w.params) (.ref 1428) "memory" = some none ∧ findIn (KF w.params) (.ref 1428) "start_pc" = some none ∧ findIn (KF w.params) (.ref 1428) "pc" = some none ∧ findIn (KF w.params) (.ref 1428) "sp" = some none ∧ findIn (KF w.params) (.ref 1428) "a" = some none ∧ findIn (KF w.params) (.ref 1428) "x" = some none ∧ findIn (KF w.params) (.ref 1428) "y" = some none ∧ findIn (KF w.params) (.ref 1428) "p" = some none ∧ findIn (KF w.params) (.ref 1428) "__init__" = some (some (.ref 36)) ∧ isFn (KF w.params) (.ref 36) = true ∧ keepIn (KF w.params) (.ref 36) = true ∧ fnIn (KF w.params) 36 = true ∧ findIn (KF w.params) (.ref 1428) "step" = some (some (.ref 43)) ∧ isFn (KF w.params) (.ref 43) = true ∧ keepIn (KF w.params) (.ref 43) = true ∧ fnIn (KF w.params) 43 = true ∧ findIn (KF w.params) (.ref 1428) "reset" = some (some (.ref 50)) ∧ isFn (KF w.params) (.ref 50) = true ∧ keepIn (KF w.params) (.ref 50) = true ∧ fnIn (KF w.params) 50 = true ∧ findIn (KF w.params) (.ref 1428) "ByteAt" = some (some (.ref 71)) ∧ isFn (KF w.params) (.ref 71) = true ∧ keepIn (KF w.params) (.ref 71) = true ∧ fnIn (KF w.params) 71 = true ∧ findIn (KF w.params) (.ref 1428) "WordAt" = some (some (.ref 78)) ∧ isFn (KF w.params) (.ref 78) = true ∧ keepIn (KF w.params) (.ref 78) = true ∧ fnIn (KF w.params) 78 = true ∧ findIn (KF w.params) (.ref 1428) "WrapAt" = some (some (.ref 85)) ∧ isFn (KF w.params) (.ref 85) = true ∧ keepIn (KF w.params) (.ref 85) = true ∧ fnIn (KF w.params) 85 = true ∧ findIn (KF w.params) (.ref 1428) "ProgramCounter" = some (some (.ref 92)) ∧ isFn (KF w.params) (.ref 92) = true ∧ keepIn (KF w.params) (.ref 92) = true ∧ fnIn (KF w.params) 92 = true ∧ findIn (KF w.params) (.ref 1428) "ImmediateByte" = some (some (.ref 99)) ∧ isFn (KF w.params) (.ref 99) = true ∧ keepIn (KF w.params) (.ref 99) = true ∧ fnIn (KF w.params) 99 = true ∧ findIn (KF w.params) (.ref 1428) "ZeroPageAddr" = some (some (.ref 106)) ∧ isFn (KF w.params) (.ref 106) = true ∧ keepIn (KF w.params) (.ref 106) = true ∧ fnIn (KF w.params) 106 = true ∧ findIn (KF w.params) (.ref 1428) "ZeroPageXAddr" = some (some (.ref 113)) ∧ isFn (KF w.params) (.ref 113) = true ∧ keepIn (KF w.params) (.ref 113) = true ∧ fnIn (KF w.params) 113 = true ∧ findIn (KF w.params) (.ref 1428) "AbsoluteAddr" = some (some (.ref 141)) ∧ isFn (KF w.params) (.ref 141) = true ∧ keepIn (KF w.params) (.ref 141) = true ∧ fnIn (KF w.params) 141 = true ∧ findIn (KF w.params) (.ref 1428) "AbsoluteYAddr" = some (some (.ref 155)) ∧ isFn (KF w.params) (.ref 155) = true ∧ keepIn (KF w.params) (.ref 155) = true ∧ fnIn (KF w.params) 155 = true ∧ findIn (KF w.params) (.ref 1428) "BranchRelAddr" = some (some (.ref 162)) ∧ isFn (KF w.params) (.ref 162) = true ∧ keepIn (KF w.params) (.ref 162) = true ∧ fnIn (KF w.params) 162 = true ∧ findIn (KF w.params) (.ref 1428) "stPush" = some (some (.ref 169)) ∧ isFn (KF w.params) (.ref 169) = true ∧ keepIn (KF w.params) (.ref 169) = true ∧ fnIn (KF w.params) 169 = true ∧ findIn (KF w.params) (.ref 1428) "stPop" = some (some (.ref 176)) ∧ isFn (KF w.params) (.ref 176) = true ∧ keepIn (KF w.params) (.ref 176) = true ∧ fnIn (KF w.params) 176 = true ∧ findIn (KF w.params) (.ref 1428) "FlagsNZ" = some (some (.ref 197)) ∧ isFn (KF w.params) (.ref 197) = true ∧ keepIn (KF w.params) (.ref 197) = true ∧ fnIn (KF w.params) 197 = true ∧ findIn (KF w.params) (.ref 1428) "opASL" = some (some (.ref 211)) ∧ isFn (KF w.params) (.ref 211) = true ∧ keepIn (KF w.params) (.ref 211) = true ∧ fnIn (KF w.params) 211 = true ∧ findIn (KF w.params) (.ref 1428) "opBCL" = some (some (.ref 225)) ∧ isFn (KF w.params) (.ref 225) = true ∧ keepIn (KF w.params) (.ref 225) = true ∧ fnIn (KF w.params) 225 = true ∧ findIn (KF w.params) (.ref 1428) "opBST" = some (some (.ref 232)) ∧ isFn (KF w.params) (.ref 232) = true ∧ keepIn (KF w.params) (.ref 232) = true ∧ fnIn (KF w.params) 232 = true ∧ findIn (KF w.params) (.ref 1428) "opCLR" = some (some (.ref 239)) ∧ isFn (KF w.params) (.ref 239) = true ∧ keepIn (KF w.params) (.ref 239) = true ∧ fnIn (KF w.params) 239 = true ∧ findIn (KF w.params) (.ref 1428) "opSET" = some (some (.ref 246)) ∧ isFn (KF w.params) (.ref 246) = true ∧ keepIn (KF w.params) (.ref 246) = true ∧ fnIn (KF w.params) 246 = true ∧ findIn (KF w.params) (.ref 1428) "opAND" = some (some (.ref 253)) ∧ isFn (KF w.params) (.ref 253) = true ∧ keepIn (KF w.params) (.ref 253) = true ∧ fnIn (KF w.params) 253 = true ∧ findIn (KF w.params) (.ref 1428) "opROL" = some (some (.ref 267)) ∧ isFn (KF w.params) (.ref 267) = true ∧ keepIn (KF w.params) (.ref 267) = true ∧ fnIn (KF w.params) 267 = true ∧ findIn (KF w.params) (.ref 1428) "opEOR" = some (some (.ref 274)) ∧ isFn (KF w.params) (.ref 274) = true ∧ keepIn (KF w.params) (.ref 274) = true ∧ fnIn (KF w.params) 274 = true ∧ findIn (KF w.params) (.ref 1428) "opADC" = some (some (.ref 281)) ∧ isFn (KF w.params) (.ref 281) = true ∧ keepIn (KF w.params) (.ref 281) = true ∧ fnIn (KF w.params) 281 = true ∧ findIn (KF w.params) (.ref 1428) "opROR" = some (some (.ref 288)) ∧ isFn (KF w.params) (.ref 288) = true ∧ keepIn (KF w.params) (.ref 288) = true ∧ fnIn (KF w.params) 288 = true ∧ findIn (KF w.params) (.ref 1428) "opSTA" = some (some (.ref 295)) ∧ isFn (KF w.params) (.ref 295) = true ∧ keepIn (KF w.params) (.ref 295) = true ∧ fnIn (KF w.params) 295 = true ∧ findIn (KF w.params) (.ref 1428) "opCMPR" = some (some (.ref 316)) ∧ isFn (KF w.params) (.ref 316) = true ∧ keepIn (KF w.params) (.ref 316) = true ∧ fnIn (KF w.params) 316 = true ∧ findIn (KF w.params) (.ref 1428) "opSBC" = some (some (.ref 323)) ∧ isFn (KF w.params) (.ref 323) = true ∧ keepIn (KF w.params) (.ref 323) = true ∧ fnIn (KF w.params) 323 = true ∧ findIn (KF w.params) (.ref 1428) "opDECR" = some (some (.ref 330)) ∧ isFn (KF w.params) (.ref 330) = true ∧ keepIn (KF w.params) (.ref 330) = true ∧ fnIn (KF w.params) 330 = true ∧ findIn (KF w.params) (.ref 1428) "opLDA" = some (some (.ref 344)) ∧ isFn (KF w.params) (.ref 344) = true ∧ keepIn (KF w.params) (.ref 344) = true ∧ fnIn (KF w.params) 344 = true ∧ findIn (KF w.params) (.ref 1428) "NEGATIVE" = some (some (.int 128 214)) ∧ specialIn (KF w.params) (.int 128 214) "__get__" = some none ∧ findIn (KF w.params) (.ref 1428) "OVERFLOW" = some (some (.int 64 216)) ∧ specialIn (KF w.params) (.int 64 216) "__get__" = some none ∧ findIn (KF w.params) (.ref 1428) "UNUSED" = some (some (.int 32 218)) ∧ specialIn (KF w.params) (.int 32 218) "__get__" = some none ∧ findIn (KF w.params) (.ref 1428) "BREAK" = some (some (.int 16 220)) ∧ specialIn (KF w.params) (.int 16 220) "__get__" = some none ∧ findIn (KF w.params) (.ref 1428) "DECIMAL" = some (some (.int 8 222)) ∧ specialIn (KF w.params) (.int 8 222) "__get__" = some none ∧ findIn (KF w.params) (.ref 1428) "ZERO" = some (some (.int 2 226)) ∧ specialIn (KF w.params) (.int 2 226) "__get__" = some none ∧ findIn (KF w.params) (.ref 1428) "CARRY" = some (some (.int 1 228)) ∧ specialIn (KF w.params) (.int 1 228) "__get__" = some none ∧ findIn (KF w.params) (.ref 1428) "BYTE_WIDTH" = some (some (.int 8 230)) ∧ specialIn (KF w.params) (.int 8 230) "__get__" = some none ∧ findIn (KF w.params) (.ref 1428) "ADDR_WIDTH" = some (some (.int 16 234)) ∧ specialIn (KF w.params) (.int 16 234) "__get__" = some none ∧ findIn (KF w.params) (.ref 1428) "instruct" = some (some (.ref 1423)) ∧ specialIn (KF w.params) (.ref 1423) "__get__" = some none ∧ findIn (KF w.params) (.ref 1428) "cycletime" = some (some (.ref 1424)) ∧ specialIn (KF w.params) (.ref 1424) "__get__" = some none ∧ findIn (KF w.params) (.ref 1428) "extracycles" = some (some (.ref 1425)) ∧ specialIn (KF w.params) (.ref 1425) "__get__" = some none ∧ takerIn (KF w.params) 1428 "name" = some none ∧ takerIn (KF w.params) 1428 "byteMask" = some none ∧ takerIn (KF w.params) 1428 "addrMask" = some none ∧ takerIn (KF w.params) 1428 "addrHighMask" = some none ∧ takerIn (KF w.params) 1428 "spBase" = some none ∧ takerIn (KF w.params) 1428 "excycles" = some none ∧ takerIn (KF w.params) 1428 "addcycles" = some none ∧ takerIn (KF w.params) 1428 "processorCycles" = some none ∧ takerIn (KF w.params) 1428 "memory" = some none ∧ takerIn (KF w.params) 1428 "start_pc" = some none ∧ takerIn (KF w.params) 1428 "pc" = some none ∧ takerIn (KF w.params) 1428 "sp" = some none ∧ takerIn (KF w.params) 1428 "a" = some none ∧ takerIn (KF w.params) 1428 "x" = some none ∧ takerIn (KF w.params) 1428 "y" = some none ∧ takerIn (KF w.params) 1428 "p" = some none ∧ findIn (KF w.params) (.ref 1428) "__setattr__" = some (some (.builtin "object.__setattr__")) ∧ plainOver (KF w.params) 1428 = true ∧ hasDictIn (KF w.params) 1428 = true ∧ noGet (KF w.params) none = true := by
  refine ⟨fun n => (by show plainGet _ 1428 "pc" = true; k_is), ?_, ?_, ?_, ?_, ?_, ?_, ?_, ?_, ?_, ?_, ?_, ?_, ?_, ?_, ?_, ?_, ?_, ?_, ?_, ?_, ?_, ?_, ?_, ?_, ?_, ?_, ?_, ?_, ?_, ?_, ?_, ?_, ?_, ?_, ?_, ?_, ?_, ?_, ?_, ?_, ?_, ?_, ?_, ?_, ?_, ?_, ?_, ?_, ?_, ?_, ?_, ?_, ?_, ?_, ?_, ?_, ?_, ?_, ?_, ?_, ?_, ?_, ?_, ?_, ?_, ?_, ?_, ?_, ?_, ?_, ?_, ?_, ?_, ?_, ?_, ?_, ?_, ?_, ?_, ?_, ?_, ?_, ?_, ?_, ?_, ?_, ?_, ?_, ?_, ?_, ?_, ?_, ?_, ?_, ?_, ?_, ?_, ?_, ?_, ?_, ?_, ?_, ?_, ?_, ?_, ?_, ?_, ?_, ?_, ?_, ?_, ?_, ?_, ?_, ?_, ?_, ?_, ?_, ?_, ?_, ?_, ?_, ?_, ?_, ?_, ?_, ?_, ?_, ?_, ?_, ?_, ?_, ?_, ?_, ?_, ?_, ?_, ?_, ?_, ?_, ?_, ?_, ?_, ?_, ?_, ?_, ?_, ?_, ?_, ?_, ?_, ?_, ?_, ?_, ?_, ?_, ?_, ?_, ?_, ?_, ?_, ?_, ?_, ?_, ?_, ?_, ?_, ?_, ?_, ?_, ?_, ?_, ?_, ?_, ?_, ?_, ?_, ?_, ?_, ?_, ?_, ?_, ?_, ?_⟩ <;> k_is
theorem F_plain (w : World) (n : Str) : plainGet (KF w.params) 1428 n = true := (facts w).1 n
theorem F_A_name (w : World) : findIn (KF w.params) (.ref 1428) "name" = some none := (facts w).2.1
theorem F_A_byteMask (w : World) : findIn (KF w.params) (.ref 1428) "byteMask" = some none := (facts w).2.2.1
theorem F_A_addrMask (w : World) : findIn (KF w.params) (.ref 1428) "addrMask" = some none := (facts w).2.2.2.1
theorem F_A_addrHighMask (w : World) : findIn (KF w.params) (.ref 1428) "addrHighMask" = some none := (facts w).2.2.2.2.1
theorem F_A_spBase (w : World) : findIn (KF w.params) (.ref 1428) "spBase" = some none := (facts w).2.2.2.2.2.1
theorem F_A_excycles (w : World) : findIn (KF w.params) (.ref 1428) "excycles" = some none := (facts w).2.2.2.2.2.2.1
theorem F_A_addcycles (w : World) : findIn (KF w.params) (.ref 1428) "addcycles" = some none := (facts w).2.2.2.2.2.2.2.1
theorem F_A_processorCycles (w : World) : findIn (KF w.params) (.ref 1428) "processorCycles" = some none := (facts w).2.2.2.2.2.2.2.2.1
theorem F_A_memory (w : World) : findIn (KF w.params) (.ref 1428) "memory" = some none := (facts w).2.2.2.2.2.2.2.2.2.1
theorem F_A_start_pc (w : World) : findIn (KF w.params) (.ref 1428) "start_pc" = some none := (facts w).2.2.2.2.2.2.2.2.2.2.1
theorem F_A_pc (w : World) : findIn (KF w.params) (.ref 1428) "pc" = some none := (facts w).2.2.2.2.2.2.2.2.2.2.2.1
theorem F_A_sp (w : World) : findIn (KF w.params) (.ref 1428) "sp" = some none := (facts w).2.2.2.2.2.2.2.2.2.2.2.2.1
theorem F_A_a (w : World) : findIn (KF w.params) (.ref 1428) "a" = some none := (facts w).2.2.2.2.2.2.2.2.2.2.2.2.2.1
theorem F_A_x (w : World) : findIn (KF w.params) (.ref 1428) "x" = some none := (facts w).2.2.2.2.2.2.2.2.2.2.2.2.2.2.1
theorem F_A_y (w : World) : findIn (KF w.params) (.ref 1428) "y" = some none := (facts w).2.2.2.2.2.2.2.2.2.2.2.2.2.2.2.1
theorem F_A_p (w : World) : findIn (KF w.params) (.ref 1428) "p" = some none := (facts w).2.2.2.2.2.2.2.2.2.2.2.2.2.2.2.2.1
theorem F_M___init__ (w : World) : findIn (KF w.params) (.ref 1428) "__init__" = some (some (.ref 36)) := (facts w).2.2.2.2.2.2.2.2.2.2.2.2.2.2.2.2.2.1
theorem F_T___init__ (w : World) : isFn (KF w.params) (.ref 36) = true := (facts w).2.2.2.2.2.2.2.2.2.2.2.2.2.2.2.2.2.2.1
theorem F_K___init__ (w : World) : keepIn (KF w.params) (.ref 36) = true := (facts w).2.2.2.2.2.2.2.2.2.2.2.2.2.2.2.2.2.2.2.1
theorem F_N___init__ (w : World) : fnIn (KF w.params) 36 = true := (facts w).2.2.2.2.2.2.2.2.2.2.2.2.2.2.2.2.2.2.2.2.1
theorem F_M_step (w : World) : findIn (KF w.params) (.ref 1428) "step" = some (some (.ref 43)) := (facts w).2.2.2.2.2.2.2.2.2.2.2.2.2.2.2.2.2.2.2.2.2.1
theorem F_T_step (w : World) : isFn (KF w.params) (.ref 43) = true := (facts w).2.2.2.2.2.2.2.2.2.2.2.2.2.2.2.2.2.2.2.2.2.2.1
theorem F_K_step (w : World) : keepIn (KF w.params) (.ref 43) = true := (facts w).2.2.2.2.2.2.2.2.2.2.2.2.2.2.2.2.2.2.2.2.2.2.2.1
theorem F_N_step (w : World) : fnIn (KF w.params) 43 = true := (facts w).2.2.2.2.2.2.2.2.2.2.2.2.2.2.2.2.2.2.2.2.2.2.2.2.1
theorem F_M_reset (w : World) : findIn (KF w.params) (.ref 1428) "reset" = some (some (.ref 50)) := (facts w).2.2.2.2.2.2.2.2.2.2.2.2.2.2.2.2.2.2.2.2.2.2.2.2.2.1
theorem F_T_reset (w : World) : isFn (KF w.params) (.ref 50) = true := (facts w).2.2.2.2.2.2.2.2.2.2.2.2.2.2.2.2.2.2.2.2.2.2.2.2.2.2.1
theorem F_K_reset (w : World) : keepIn (KF w.params) (.ref 50) = true := (facts w).2.2.2.2.2.2.2.2.2.2.2.2.2.2.2.2.2.2.2.2.2.2.2.2.2.2.2.1
theorem F_N_reset (w : World) : fnIn (KF w.params) 50 = true := (facts w).2.2.2.2.2.2.2.2.2.2.2.2.2.2.2.2.2.2.2.2.2.2.2.2.2.2.2.2.1
theorem F_M_ByteAt (w : World) : findIn (KF w.params) (.ref 1428) "ByteAt" = some (some (.ref 71)) := (facts w).2.2.2.2.2.2.2.2.2.2.2.2.2.2.2.2.2.2.2.2.2.2.2.2.2.2.2.2.2.1
theorem F_T_ByteAt (w : World) : isFn (KF w.params) (.ref 71) = true := (facts w).2.2.2.2.2.2.2.2.2.2.2.2.2.2.2.2.2.2.2.2.2.2.2.2.2.2.2.2.2.2.1
theorem F_K_ByteAt (w : World) : keepIn (KF w.params) (.ref 71) = true := (facts w).2.2.2.2.2.2.2.2.2.2.2.2.2.2.2.2.2.2.2.2.2.2.2.2.2.2.2.2.2.2.2.1
theorem F_N_ByteAt (w : World) : fnIn (KF w.params) 71 = true := (facts w).2.2.2.2.2.2.2.2.2.2.2.2.2.2.2.2.2.2.2.2.2.2.2.2.2.2.2.2.2.2.2.2.1
theorem F_M_WordAt (w : World) : findIn (KF w.params) (.ref 1428) "WordAt" = some (some (.ref 78)) := (facts w).2.2.2.2.2.2.2.2.2.2.2.2.2.2.2.2.2.2.2.2.2.2.2.2.2.2.2.2.2.2.2.2.2.1
theorem F_T_WordAt (w : World) : isFn (KF w.params) (.ref 78) = true := (facts w).2.2.2.2.2.2.2.2.2.2.2.2.2.2.2.2.2.2.2.2.2.2.2.2.2.2.2.2.2.2.2.2.2.2.1
theorem F_K_WordAt (w : World) : keepIn (KF w.params) (.ref 78) = true := (facts w).2.2.2.2.2.2.2.2.2.2.2.2.2.2.2.2.2.2.2.2.2.2.2.2.2.2.2.2.2.2.2.2.2.2.2.1
theorem F_N_WordAt (w : World) : fnIn (KF w.params) 78 = true := (facts w).2.2.2.2.2.2.2.2.2.2.2.2.2.2.2.2.2.2.2.2.2.2.2.2.2.2.2.2.2.2.2.2.2.2.2.2.1
theorem F_M_WrapAt (w : World) : findIn (KF w.params) (.ref 1428) "WrapAt" = some (some (.ref 85)) := (facts w).2.2.2.2.2.2.2.2.2.2.2.2.2.2.2.2.2.2.2.2.2.2.2.2.2.2.2.2.2.2.2.2.2.2.2.2.2.1
theorem F_T_WrapAt (w : World) : isFn (KF w.params) (.ref 85) = true := (facts w).2.2.2.2.2.2.2.2.2.2.2.2.2.2.2.2.2.2.2.2.2.2.2.2.2.2.2.2.2.2.2.2.2.2.2.2.2.2.1
theorem F_K_WrapAt (w : World) : keepIn (KF w.params) (.ref 85) = true := (facts w).2.2.2.2.2.2.2.2.2.2.2.2.2.2.2.2.2.2.2.2.2.2.2.2.2.2.2.2.2.2.2.2.2.2.2.2.2.2.2.1
theorem F_N_WrapAt (w : World) : fnIn (KF w.params) 85 = true := (facts w).2.2.2.2.2.2.2.2.2.2.2.2.2.2.2.2.2.2.2.2.2.2.2.2.2.2.2.2.2.2.2.2.2.2.2.2.2.2.2.2.1
theorem F_M_ProgramCounter (w : World) : findIn (KF w.params) (.ref 1428) "ProgramCounter" = some (some (.ref 92)) := (facts w).2.2.2.2.2.2.2.2.2.2.2.2.2.2.2.2.2.2.2.2.2.2.2.2.2.2.2.2.2.2.2.2.2.2.2.2.2.2.2.2.2.1
theorem F_T_ProgramCounter (w : World) : isFn (KF w.params) (.ref 92) = true := (facts w).2.2.2.2.2.2.2.2.2.2.2.2.2.2.2.2.2.2.2.2.2.2.2.2.2.2.2.2.2.2.2.2.2.2.2.2.2.2.2.2.2.2.1
theorem F_K_ProgramCounter (w : World) : keepIn (KF w.params) (.ref 92) = true := (facts w).2.2.2.2.2.2.2.2.2.2.2.2.2.2.2.2.2.2.2.2.2.2.2.2.2.2.2.2.2.2.2.2.2.2.2.2.2.2.2.2.2.2.2.1
theorem F_N_ProgramCounter (w : World) : fnIn (KF w.params) 92 = true := (facts w).2.2.2.2.2.2.2.2.2.2.2.2.2.2.2.2.2.2.2.2.2.2.2.2.2.2.2.2.2.2.2.2.2.2.2.2.2.2.2.2.2.2.2.2.1
theorem F_M_ImmediateByte (w : World) : findIn (KF w.params) (.ref 1428) "ImmediateByte" = some (some (.ref 99)) := (facts w).2.2.2.2.2.2.2.2.2.2.2.2.2.2.2.2.2.2.2.2.2.2.2.2.2.2.2.2.2.2.2.2.2.2.2.2.2.2.2.2.2.2.2.2.2.1
theorem F_T_ImmediateByte (w : World) : isFn (KF w.params) (.ref 99) = true := (facts w).2.2.2.2.2.2.2.2.2.2.2.2.2.2.2.2.2.2.2.2.2.2.2.2.2.2.2.2.2.2.2.2.2.2.2.2.2.2.2.2.2.2.2.2.2.2.1
theorem F_K_ImmediateByte (w : World) : keepIn (KF w.params) (.ref 99) = true := (facts w).2.2.2.2.2.2.2.2.2.2.2.2.2.2.2.2.2.2.2.2.2.2.2.2.2.2.2.2.2.2.2.2.2.2.2.2.2.2.2.2.2.2.2.2.2.2.2.1
theorem F_N_ImmediateByte (w : World) : fnIn (KF w.params) 99 = true := (facts w).2.2.2.2.2.2.2.2.2.2.2.2.2.2.2.2.2.2.2.2.2.2.2.2.2.2.2.2.2.2.2.2.2.2.2.2.2.2.2.2.2.2.2.2.2.2.2.2.1
theorem F_M_ZeroPageAddr (w : World) : findIn (KF w.params) (.ref 1428) "ZeroPageAddr" = some (some (.ref 106)) := (facts w).2.2.2.2.2.2.2.2.2.2.2.2.2.2.2.2.2.2.2.2.2.2.2.2.2.2.2.2.2.2.2.2.2.2.2.2.2.2.2.2.2.2.2.2.2.2.2.2.2.1
theorem F_T_ZeroPageAddr (w : World) : isFn (KF w.params) (.ref 106) = true := (facts w).2.2.2.2.2.2.2.2.2.2.2.2.2.2.2.2.2.2.2.2.2.2.2.2.2.2.2.2.2.2.2.2.2.2.2.2.2.2.2.2.2.2.2.2.2.2.2.2.2.2.1
theorem F_K_ZeroPageAddr (w : World) : keepIn (KF w.params) (.ref 106) = true := (facts w).2.2.2.2.2.2.2.2.2.2.2.2.2.2.2.2.2.2.2.2.2.2.2.2.2.2.2.2.2.2.2.2.2.2.2.2.2.2.2.2.2.2.2.2.2.2.2.2.2.2.2.1
theorem F_N_ZeroPageAddr (w : World) : fnIn (KF w.params) 106 = true := (facts w).2.2.2.2.2.2.2.2.2.2.2.2.2.2.2.2.2.2.2.2.2.2.2.2.2.2.2.2.2.2.2.2.2.2.2.2.2.2.2.2.2.2.2.2.2.2.2.2.2.2.2.2.1
theorem F_M_ZeroPageXAddr (w : World) : findIn (KF w.params) (.ref 1428) "ZeroPageXAddr" = some (some (.ref 113)) := (facts w).2.2.2.2.2.2.2.2.2.2.2.2.2.2.2.2.2.2.2.2.2.2.2.2.2.2.2.2.2.2.2.2.2.2.2.2.2.2.2.2.2.2.2.2.2.2.2.2.2.2.2.2.2.1
theorem F_T_ZeroPageXAddr (w : World) : isFn (KF w.params) (.ref 113) = true := (facts w).2.2.2.2.2.2.2.2.2.2.2.2.2.2.2.2.2.2.2.2.2.2.2.2.2.2.2.2.2.2.2.2.2.2.2.2.2.2.2.2.2.2.2.2.2.2.2.2.2.2.2.2.2.2.1
theorem F_K_ZeroPageXAddr (w : World) : keepIn (KF w.params) (.ref 113) = true := (facts w).2.2.2.2.2.2.2.2.2.2.2.2.2.2.2.2.2.2.2.2.2.2.2.2.2.2.2.2.2.2.2.2.2.2.2.2.2.2.2.2.2.2.2.2.2.2.2.2.2.2.2.2.2.2.2.1
theorem F_N_ZeroPageXAddr (w : World) : fnIn (KF w.params) 113 = true := (facts w).2.2.2.2.2.2.2.2.2.2.2.2.2.2.2.2.2.2.2.2.2.2.2.2.2.2.2.2.2.2.2.2.2.2.2.2.2.2.2.2.2.2.2.2.2.2.2.2.2.2.2.2.2.2.2.2.1
theorem F_M_AbsoluteAddr (w : World) : findIn (KF w.params) (.ref 1428) "AbsoluteAddr" = some (some (.ref 141)) := (facts w).2.2.2.2.2.2.2.2.2.2.2.2.2.2.2.2.2.2.2.2.2.2.2.2.2.2.2.2.2.2.2.2.2.2.2.2.2.2.2.2.2.2.2.2.2.2.2.2.2.2.2.2.2.2.2.2.2.1
theorem F_T_AbsoluteAddr (w : World) : isFn (KF w.params) (.ref 141) = true := (facts w).2.2.2.2.2.2.2.2.2.2.2.2.2.2.2.2.2.2.2.2.2.2.2.2.2.2.2.2.2.2.2.2.2.2.2.2.2.2.2.2.2.2.2.2.2.2.2.2.2.2.2.2.2.2.2.2.2.2.1
theorem F_K_AbsoluteAddr (w : World) : keepIn (KF w.params) (.ref 141) = true := (facts w).2.2.2.2.2.2.2.2.2.2.2.2.2.2.2.2.2.2.2.2.2.2.2.2.2.2.2.2.2.2.2.2.2.2.2.2.2.2.2.2.2.2.2.2.2.2.2.2.2.2.2.2.2.2.2.2.2.2.2.1
theorem F_N_AbsoluteAddr (w : World) : fnIn (KF w.params) 141 = true := (facts w).2.2.2.2.2.2.2.2.2.2.2.2.2.2.2.2.2.2.2.2.2.2.2.2.2.2.2.2.2.2.2.2.2.2.2.2.2.2.2.2.2.2.2.2.2.2.2.2.2.2.2.2.2.2.2.2.2.2.2.2.1
theorem F_M_AbsoluteYAddr (w : World) : findIn (KF w.params) (.ref 1428) "AbsoluteYAddr" = some (some (.ref 155)) := (facts w).2.2.2.2.2.2.2.2.2.2.2.2.2.2.2.2.2.2.2.2.2.2.2.2.2.2.2.2.2.2.2.2.2.2.2.2.2.2.2.2.2.2.2.2.2.2.2.2.2.2.2.2.2.2.2.2.2.2.2.2.2.1
theorem F_T_AbsoluteYAddr (w : World) : isFn (KF w.params) (.ref 155) = true := (facts w).2.2.2.2.2.2.2.2.2.2.2.2.2.2.2.2.2.2.2.2.2.2.2.2.2.2.2.2.2.2.2.2.2.2.2.2.2.2.2.2.2.2.2.2.2.2.2.2.2.2.2.2.2.2.2.2.2.2.2.2.2.2.1
theorem F_K_AbsoluteYAddr (w : World) : keepIn (KF w.params) (.ref 155) = true := (facts w).2.2.2.2.2.2.2.2.2.2.2.2.2.2.2.2.2.2.2.2.2.2.2.2.2.2.2.2.2.2.2.2.2.2.2.2.2.2.2.2.2.2.2.2.2.2.2.2.2.2.2.2.2.2.2.2.2.2.2.2.2.2.2.1
theorem F_N_AbsoluteYAddr (w : World) : fnIn (KF w.params) 155 = true := (facts w).2.2.2.2.2.2.2.2.2.2.2.2.2.2.2.2.2.2.2.2.2.2.2.2.2.2.2.2.2.2.2.2.2.2.2.2.2.2.2.2.2.2.2.2.2.2.2.2.2.2.2.2.2.2.2.2.2.2.2.2.2.2.2.2.1
theorem F_M_BranchRelAddr (w : World) : findIn (KF w.params) (.ref 1428) "BranchRelAddr" = some (some (.ref 162)) := (facts w).2.2.2.2.2.2.2.2.2.2.2.2.2.2.2.2.2.2.2.2.2.2.2.2.2.2.2.2.2.2.2.2.2.2.2.2.2.2.2.2.2.2.2.2.2.2.2.2.2.2.2.2.2.2.2.2.2.2.2.2.2.2.2.2.2.1
theorem F_T_BranchRelAddr (w : World) : isFn (KF w.params) (.ref 162) = true := (facts w).2.2.2.2.2.2.2.2.2.2.2.2.2.2.2.2.2.2.2.2.2.2.2.2.2.2.2.2.2.2.2.2.2.2.2.2.2.2.2.2.2.2.2.2.2.2.2.2.2.2.2.2.2.2.2.2.2.2.2.2.2.2.2.2.2.2.1
theorem F_K_BranchRelAddr (w : World) : keepIn (KF w.params) (.ref 162) = true := (facts w).2.2.2.2.2.2.2.2.2.2.2.2.2.2.2.2.2.2.2.2.2.2.2.2.2.2.2.2.2.2.2.2.2.2.2.2.2.2.2.2.2.2.2.2.2.2.2.2.2.2.2.2.2.2.2.2.2.2.2.2.2.2.2.2.2.2.2.1
theorem F_N_BranchRelAddr (w : World) : fnIn (KF w.params) 162 = true := (facts w).2.2.2.2.2.2.2.2.2.2.2.2.2.2.2.2.2.2.2.2.2.2.2.2.2.2.2.2.2.2.2.2.2.2.2.2.2.2.2.2.2.2.2.2.2.2.2.2.2.2.2.2.2.2.2.2.2.2.2.2.2.2.2.2.2.2.2.2.1
theorem F_M_stPush (w : World) : findIn (KF w.params) (.ref 1428) "stPush" = some (some (.ref 169)) := (facts w).2.2.2.2.2.2.2.2.2.2.2.2.2.2.2.2.2.2.2.2.2.2.2.2.2.2.2.2.2.2.2.2.2.2.2.2.2.2.2.2.2.2.2.2.2.2.2.2.2.2.2.2.2.2.2.2.2.2.2.2.2.2.2.2.2.2.2.2.2.1
theorem F_T_stPush (w : World) : isFn (KF w.params) (.ref 169) = true := (facts w).2.2.2.2.2.2.2.2.2.2.2.2.2.2.2.2.2.2.2.2.2.2.2.2.2.2.2.2.2.2.2.2.2.2.2.2.2.2.2.2.2.2.2.2.2.2.2.2.2.2.2.2.2.2.2.2.2.2.2.2.2.2.2.2.2.2.2.2.2.2.1
theorem F_K_stPush (w : World) : keepIn (KF w.params) (.ref 169) = true := (facts w).2.2.2.2.2.2.2.2.2.2.2.2.2.2.2.2.2.2.2.2.2.2.2.2.2.2.2.2.2.2.2.2.2.2.2.2.2.2.2.2.2.2.2.2.2.2.2.2.2.2.2.2.2.2.2.2.2.2.2.2.2.2.2.2.2.2.2.2.2.2.2.1
theorem F_N_stPush (w : World) : fnIn (KF w.params) 169 = true := (facts w).2.2.2.2.2.2.2.2.2.2.2.2.2.2.2.2.2.2.2.2.2.2.2.2.2.2.2.2.2.2.2.2.2.2.2.2.2.2.2.2.2.2.2.2.2.2.2.2.2.2.2.2.2.2.2.2.2.2.2.2.2.2.2.2.2.2.2.2.2.2.2.2.1
theorem F_M_stPop (w : World) : findIn (KF w.params) (.ref 1428) "stPop" = some (some (.ref 176)) := (facts w).2.2.2.2.2.2.2.2.2.2.2.2.2.2.2.2.2.2.2.2.2.2.2.2.2.2.2.2.2.2.2.2.2.2.2.2.2.2.2.2.2.2.2.2.2.2.2.2.2.2.2.2.2.2.2.2.2.2.2.2.2.2.2.2.2.2.2.2.2.2.2.2.2.1
theorem F_T_stPop (w : World) : isFn (KF w.params) (.ref 176) = true := (facts w).2.2.2.2.2.2.2.2.2.2.2.2.2.2.2.2.2.2.2.2.2.2.2.2.2.2.2.2.2.2.2.2.2.2.2.2.2.2.2.2.2.2.2.2.2.2.2.2.2.2.2.2.2.2.2.2.2.2.2.2.2.2.2.2.2.2.2.2.2.2.2.2.2.2.1
theorem F_K_stPop (w : World) : keepIn (KF w.params) (.ref 176) = true := (facts w).2.2.2.2.2.2.2.2.2.2.2.2.2.2.2.2.2.2.2.2.2.2.2.2.2.2.2.2.2.2.2.2.2.2.2.2.2.2.2.2.2.2.2.2.2.2.2.2.2.2.2.2.2.2.2.2.2.2.2.2.2.2.2.2.2.2.2.2.2.2.2.2.2.2.2.1
theorem F_N_stPop (w : World) : fnIn (KF w.params) 176 = true := (facts w).2.2.2.2.2.2.2.2.2.2.2.2.2.2.2.2.2.2.2.2.2.2.2.2.2.2.2.2.2.2.2.2.2.2.2.2.2.2.2.2.2.2.2.2.2.2.2.2.2.2.2.2.2.2.2.2.2.2.2.2.2.2.2.2.2.2.2.2.2.2.2.2.2.2.2.2.1
theorem F_M_FlagsNZ (w : World) : findIn (KF w.params) (.ref 1428) "FlagsNZ" = some (some (.ref 197)) := (facts w).2.2.2.2.2.2.2.2.2.2.2.2.2.2.2.2.2.2.2.2.2.2.2.2.2.2.2.2.2.2.2.2.2.2.2.2.2.2.2.2.2.2.2.2.2.2.2.2.2.2.2.2.2.2.2.2.2.2.2.2.2.2.2.2.2.2.2.2.2.2.2.2.2.2.2.2.2.1
theorem F_T_FlagsNZ (w : World) : isFn (KF w.params) (.ref 197) = true := (facts w).2.2.2.2.2.2.2.2.2.2.2.2.2.2.2.2.2.2.2.2.2.2.2.2.2.2.2.2.2.2.2.2.2.2.2.2.2.2.2.2.2.2.2.2.2.2.2.2.2.2.2.2.2.2.2.2.2.2.2.2.2.2.2.2.2.2.2.2.2.2.2.2.2.2.2.2.2.2.1
theorem F_K_FlagsNZ (w : World) : keepIn (KF w.params) (.ref 197) = true := (facts w).2.2.2.2.2.2.2.2.2.2.2.2.2.2.2.2.2.2.2.2.2.2.2.2.2.2.2.2.2.2.2.2.2.2.2.2.2.2.2.2.2.2.2.2.2.2.2.2.2.2.2.2.2.2.2.2.2.2.2.2.2.2.2.2.2.2.2.2.2.2.2.2.2.2.2.2.2.2.2.1
theorem F_N_FlagsNZ (w : World) : fnIn (KF w.params) 197 = true := (facts w).2.2.2.2.2.2.2.2.2.2.2.2.2.2.2.2.2.2.2.2.2.2.2.2.2.2.2.2.2.2.2.2.2.2.2.2.2.2.2.2.2.2.2.2.2.2.2.2.2.2.2.2.2.2.2.2.2.2.2.2.2.2.2.2.2.2.2.2.2.2.2.2.2.2.2.2.2.2.2.2.1
theorem F_M_opASL (w : World) : findIn (KF w.params) (.ref 1428) "opASL" = some (some (.ref 211)) := (facts w).2.2.2.2.2.2.2.2.2.2.2.2.2.2.2.2.2.2.2.2.2.2.2.2.2.2.2.2.2.2.2.2.2.2.2.2.2.2.2.2.2.2.2.2.2.2.2.2.2.2.2.2.2.2.2.2.2.2.2.2.2.2.2.2.2.2.2.2.2.2.2.2.2.2.2.2.2.2.2.2.2.1
theorem F_T_opASL (w : World) : isFn (KF w.params) (.ref 211) = true := (facts w).2.2.2.2.2.2.2.2.2.2.2.2.2.2.2.2.2.2.2.2.2.2.2.2.2.2.2.2.2.2.2.2.2.2.2.2.2.2.2.2.2.2.2.2.2.2.2.2.2.2.2.2.2.2.2.2.2.2.2.2.2.2.2.2.2.2.2.2.2.2.2.2.2.2.2.2.2.2.2.2.2.2.1
theorem F_K_opASL (w : World) : keepIn (KF w.params) (.ref 211) = true := (facts w).2.2.2.2.2.2.2.2.2.2.2.2.2.2.2.2.2.2.2.2.2.2.2.2.2.2.2.2.2.2.2.2.2.2.2.2.2.2.2.2.2.2.2.2.2.2.2.2.2.2.2.2.2.2.2.2.2.2.2.2.2.2.2.2.2.2.2.2.2.2.2.2.2.2.2.2.2.2.2.2.2.2.2.1
theorem F_N_opASL (w : World) : fnIn (KF w.params) 211 = true := (facts w).2.2.2.2.2.2.2.2.2.2.2.2.2.2.2.2.2.2.2.2.2.2.2.2.2.2.2.2.2.2.2.2.2.2.2.2.2.2.2.2.2.2.2.2.2.2.2.2.2.2.2.2.2.2.2.2.2.2.2.2.2.2.2.2.2.2.2.2.2.2.2.2.2.2.2.2.2.2.2.2.2.2.2.2.1
theorem F_M_opBCL (w : World) : findIn (KF w.params) (.ref 1428) "opBCL" = some (some (.ref 225)) := (facts w).2.2.2.2.2.2.2.2.2.2.2.2.2.2.2.2.2.2.2.2.2.2.2.2.2.2.2.2.2.2.2.2.2.2.2.2.2.2.2.2.2.2.2.2.2.2.2.2.2.2.2.2.2.2.2.2.2.2.2.2.2.2.2.2.2.2.2.2.2.2.2.2.2.2.2.2.2.2.2.2.2.2.2.2.2.1
theorem F_T_opBCL (w : World) : isFn (KF w.params) (.ref 225) = true := (facts w).2.2.2.2.2.2.2.2.2.2.2.2.2.2.2.2.2.2.2.2.2.2.2.2.2.2.2.2.2.2.2.2.2.2.2.2.2.2.2.2.2.2.2.2.2.2.2.2.2.2.2.2.2.2.2.2.2.2.2.2.2.2.2.2.2.2.2.2.2.2.2.2.2.2.2.2.2.2.2.2.2.2.2.2.2.2.1
theorem F_K_opBCL (w : World) : keepIn (KF w.params) (.ref 225) = true := (facts w).2.2.2.2.2.2.2.2.2.2.2.2.2.2.2.2.2.2.2.2.2.2.2.2.2.2.2.2.2.2.2.2.2.2.2.2.2.2.2.2.2.2.2.2.2.2.2.2.2.2.2.2.2.2.2.2.2.2.2.2.2.2.2.2.2.2.2.2.2.2.2.2.2.2.2.2.2.2.2.2.2.2.2.2.2.2.2.1
theorem F_N_opBCL (w : World) : fnIn (KF w.params) 225 = true := (facts w).2.2.2.2.2.2.2.2.2.2.2.2.2.2.2.2.2.2.2.2.2.2.2.2.2.2.2.2.2.2.2.2.2.2.2.2.2.2.2.2.2.2.2.2.2.2.2.2.2.2.2.2.2.2.2.2.2.2.2.2.2.2.2.2.2.2.2.2.2.2.2.2.2.2.2.2.2.2.2.2.2.2.2.2.2.2.2.2.1
theorem F_M_opBST (w : World) : findIn (KF w.params) (.ref 1428) "opBST" = some (some (.ref 232)) := (facts w).2.2.2.2.2.2.2.2.2.2.2.2.2.2.2.2.2.2.2.2.2.2.2.2.2.2.2.2.2.2.2.2.2.2.2.2.2.2.2.2.2.2.2.2.2.2.2.2.2.2.2.2.2.2.2.2.2.2.2.2.2.2.2.2.2.2.2.2.2.2.2.2.2.2.2.2.2.2.2.2.2.2.2.2.2.2.2.2.2.1
theorem F_T_opBST (w : World) : isFn (KF w.params) (.ref 232) = true := (facts w).2.2.2.2.2.2.2.2.2.2.2.2.2.2.2.2.2.2.2.2.2.2.2.2.2.2.2.2.2.2.2.2.2.2.2.2.2.2.2.2.2.2.2.2.2.2.2.2.2.2.2.2.2.2.2.2.2.2.2.2.2.2.2.2.2.2.2.2.2.2.2.2.2.2.2.2.2.2.2.2.2.2.2.2.2.2.2.2.2.2.1
theorem F_K_opBST (w : World) : keepIn (KF w.params) (.ref 232) = true := (facts w).2.2.2.2.2.2.2.2.2.2.2.2.2.2.2.2.2.2.2.2.2.2.2.2.2.2.2.2.2.2.2.2.2.2.2.2.2.2.2.2.2.2.2.2.2.2.2.2.2.2.2.2.2.2.2.2.2.2.2.2.2.2.2.2.2.2.2.2.2.2.2.2.2.2.2.2.2.2.2.2.2.2.2.2.2.2.2.2.2.2.2.1
theorem F_N_opBST (w : World) : fnIn (KF w.params) 232 = true := (facts w).2.2.2.2.2.2.2.2.2.2.2.2.2.2.2.2.2.2.2.2.2.2.2.2.2.2.2.2.2.2.2.2.2.2.2.2.2.2.2.2.2.2.2.2.2.2.2.2.2.2.2.2.2.2.2.2.2.2.2.2.2.2.2.2.2.2.2.2.2.2.2.2.2.2.2.2.2.2.2.2.2.2.2.2.2.2.2.2.2.2.2.2.1
theorem F_M_opCLR (w : World) : findIn (KF w.params) (.ref 1428) "opCLR" = some (some (.ref 239)) := (facts w).2.2.2.2.2.2.2.2.2.2.2.2.2.2.2.2.2.2.2.2.2.2.2.2.2.2.2.2.2.2.2.2.2.2.2.2.2.2.2.2.2.2.2.2.2.2.2.2.2.2.2.2.2.2.2.2.2.2.2.2.2.2.2.2.2.2.2.2.2.2.2.2.2.2.2.2.2.2.2.2.2.2.2.2.2.2.2.2.2.2.2.2.2.1
theorem F_T_opCLR (w : World) : isFn (KF w.params) (.ref 239) = true := (facts w).2.2.2.2.2.2.2.2.2.2.2.2.2.2.2.2.2.2.2.2.2.2.2.2.2.2.2.2.2.2.2.2.2.2.2.2.2.2.2.2.2.2.2.2.2.2.2.2.2.2.2.2.2.2.2.2.2.2.2.2.2.2.2.2.2.2.2.2.2.2.2.2.2.2.2.2.2.2.2.2.2.2.2.2.2.2.2.2.2.2.2.2.2.2.1
theorem F_K_opCLR (w : World) : keepIn (KF w.params) (.ref 239) = true := (facts w).2.2.2.2.2.2.2.2.2.2.2.2.2.2.2.2.2.2.2.2.2.2.2.2.2.2.2.2.2.2.2.2.2.2.2.2.2.2.2.2.2.2.2.2.2.2.2.2.2.2.2.2.2.2.2.2.2.2.2.2.2.2.2.2.2.2.2.2.2.2.2.2.2.2.2.2.2.2.2.2.2.2.2.2.2.2.2.2.2.2.2.2.2.2.2.1
theorem F_N_opCLR (w : World) : fnIn (KF w.params) 239 = true := (facts w).2.2.2.2.2.2.2.2.2.2.2.2.2.2.2.2.2.2.2.2.2.2.2.2.2.2.2.2.2.2.2.2.2.2.2.2.2.2.2.2.2.2.2.2.2.2.2.2.2.2.2.2.2.2.2.2.2.2.2.2.2.2.2.2.2.2.2.2.2.2.2.2.2.2.2.2.2.2.2.2.2.2.2.2.2.2.2.2.2.2.2.2.2.2.2.2.1
theorem F_M_opSET (w : World) : findIn (KF w.params) (.ref 1428) "opSET" = some (some (.ref 246)) := (facts w).2.2.2.2.2.2.2.2.2.2.2.2.2.2.2.2.2.2.2.2.2.2.2.2.2.2.2.2.2.2.2.2.2.2.2.2.2.2.2.2.2.2.2.2.2.2.2.2.2.2.2.2.2.2.2.2.2.2.2.2.2.2.2.2.2.2.2.2.2.2.2.2.2.2.2.2.2.2.2.2.2.2.2.2.2.2.2.2.2.2.2.2.2.2.2.2.2.1
theorem F_T_opSET (w : World) : isFn (KF w.params) (.ref 246) = true := (facts w).2.2.2.2.2.2.2.2.2.2.2.2.2.2.2.2.2.2.2.2.2.2.2.2.2.2.2.2.2.2.2.2.2.2.2.2.2.2.2.2.2.2.2.2.2.2.2.2.2.2.2.2.2.2.2.2.2.2.2.2.2.2.2.2.2.2.2.2.2.2.2.2.2.2.2.2.2.2.2.2.2.2.2.2.2.2.2.2.2.2.2.2.2.2.2.2.2.2.1
theorem F_K_opSET (w : World) : keepIn (KF w.params) (.ref 246) = true := (facts w).2.2.2.2.2.2.2.2.2.2.2.2.2.2.2.2.2.2.2.2.2.2.2.2.2.2.2.2.2.2.2.2.2.2.2.2.2.2.2.2.2.2.2.2.2.2.2.2.2.2.2.2.2.2.2.2.2.2.2.2.2.2.2.2.2.2.2.2.2.2.2.2.2.2.2.2.2.2.2.2.2.2.2.2.2.2.2.2.2.2.2.2.2.2.2.2.2.2.2.1
theorem F_N_opSET (w : World) : fnIn (KF w.params) 246 = true := (facts w).2.2.2.2.2.2.2.2.2.2.2.2.2.2.2.2.2.2.2.2.2.2.2.2.2.2.2.2.2.2.2.2.2.2.2.2.2.2.2.2.2.2.2.2.2.2.2.2.2.2.2.2.2.2.2.2.2.2.2.2.2.2.2.2.2.2.2.2.2.2.2.2.2.2.2.2.2.2.2.2.2.2.2.2.2.2.2.2.2.2.2.2.2.2.2.2.2.2.2.2.1
theorem F_M_opAND (w : World) : findIn (KF w.params) (.ref 1428) "opAND" = some (some (.ref 253)) := (facts w).2.2.2.2.2.2.2.2.2.2.2.2.2.2.2.2.2.2.2.2.2.2.2.2.2.2.2.2.2.2.2.2.2.2.2.2.2.2.2.2.2.2.2.2.2.2.2.2.2.2.2.2.2.2.2.2.2.2.2.2.2.2.2.2.2.2.2.2.2.2.2.2.2.2.2.2.2.2.2.2.2.2.2.2.2.2.2.2.2.2.2.2.2.2.2.2.2.2.2.2.2.1
theorem F_T_opAND (w : World) : isFn (KF w.params) (.ref 253) = true := (facts w).2.2.2.2.2.2.2.2.2.2.2.2.2.2.2.2.2.2.2.2.2.2.2.2.2.2.2.2.2.2.2.2.2.2.2.2.2.2.2.2.2.2.2.2.2.2.2.2.2.2.2.2.2.2.2.2.2.2.2.2.2.2.2.2.2.2.2.2.2.2.2.2.2.2.2.2.2.2.2.2.2.2.2.2.2.2.2.2.2.2.2.2.2.2.2.2.2.2.2.2.2.2.1
theorem F_K_opAND (w : World) : keepIn (KF w.params) (.ref 253) = true := (facts w).2.2.2.2.2.2.2.2.2.2.2.2.2.2.2.2.2.2.2.2.2.2.2.2.2.2.2.2.2.2.2.2.2.2.2.2.2.2.2.2.2.2.2.2.2.2.2.2.2.2.2.2.2.2.2.2.2.2.2.2.2.2.2.2.2.2.2.2.2.2.2.2.2.2.2.2.2.2.2.2.2.2.2.2.2.2.2.2.2.2.2.2.2.2.2.2.2.2.2.2.2.2.2.1
theorem F_N_opAND (w : World) : fnIn (KF w.params) 253 = true := (facts w).2.2.2.2.2.2.2.2.2.2.2.2.2.2.2.2.2.2.2.2.2.2.2.2.2.2.2.2.2.2.2.2.2.2.2.2.2.2.2.2.2.2.2.2.2.2.2.2.2.2.2.2.2.2.2.2.2.2.2.2.2.2.2.2.2.2.2.2.2.2.2.2.2.2.2.2.2.2.2.2.2.2.2.2.2.2.2.2.2.2.2.2.2.2.2.2.2.2.2.2.2.2.2.2.1
theorem F_M_opROL (w : World) : findIn (KF w.params) (.ref 1428) "opROL" = some (some (.ref 267)) := (facts w).2.2.2.2.2.2.2.2.2.2.2.2.2.2.2.2.2.2.2.2.2.2.2.2.2.2.2.2.2.2.2.2.2.2.2.2.2.2.2.2.2.2.2.2.2.2.2.2.2.2.2.2.2.2.2.2.2.2.2.2.2.2.2.2.2.2.2.2.2.2.2.2.2.2.2.2.2.2.2.2.2.2.2.2.2.2.2.2.2.2.2.2.2.2.2.2.2.2.2.2.2.2.2.2.2.1
theorem F_T_opROL (w : World) : isFn (KF w.params) (.ref 267) = true := (facts w).2.2.2.2.2.2.2.2.2.2.2.2.2.2.2.2.2.2.2.2.2.2.2.2.2.2.2.2.2.2.2.2.2.2.2.2.2.2.2.2.2.2.2.2.2.2.2.2.2.2.2.2.2.2.2.2.2.2.2.2.2.2.2.2.2.2.2.2.2.2.2.2.2.2.2.2.2.2.2.2.2.2.2.2.2.2.2.2.2.2.2.2.2.2.2.2.2.2.2.2.2.2.2.2.2.2.1
theorem F_K_opROL (w : World) : keepIn (KF w.params) (.ref 267) = true := (facts w).2.2.2.2.2.2.2.2.2.2.2.2.2.2.2.2.2.2.2.2.2.2.2.2.2.2.2.2.2.2.2.2.2.2.2.2.2.2.2.2.2.2.2.2.2.2.2.2.2.2.2.2.2.2.2.2.2.2.2.2.2.2.2.2.2.2.2.2.2.2.2.2.2.2.2.2.2.2.2.2.2.2.2.2.2.2.2.2.2.2.2.2.2.2.2.2.2.2.2.2.2.2.2.2.2.2.2.1
theorem F_N_opROL (w : World) : fnIn (KF w.params) 267 = true := (facts w).2.2.2.2.2.2.2.2.2.2.2.2.2.2.2.2.2.2.2.2.2.2.2.2.2.2.2.2.2.2.2.2.2.2.2.2.2.2.2.2.2.2.2.2.2.2.2.2.2.2.2.2.2.2.2.2.2.2.2.2.2.2.2.2.2.2.2.2.2.2.2.2.2.2.2.2.2.2.2.2.2.2.2.2.2.2.2.2.2.2.2.2.2.2.2.2.2.2.2.2.2.2.2.2.2.2.2.2.1
theorem F_M_opEOR (w : World) : findIn (KF w.params) (.ref 1428) "opEOR" = some (some (.ref 274)) := (facts w).2.2.2.2.2.2.2.2.2.2.2.2.2.2.2.2.2.2.2.2.2.2.2.2.2.2.2.2.2.2.2.2.2.2.2.2.2.2.2.2.2.2.2.2.2.2.2.2.2.2.2.2.2.2.2.2.2.2.2.2.2.2.2.2.2.2.2.2.2.2.2.2.2.2.2.2.2.2.2.2.2.2.2.2.2.2.2.2.2.2.2.2.2.2.2.2.2.2.2.2.2.2.2.2.2.2.2.2.2.1
theorem F_T_opEOR (w : World) : isFn (KF w.params) (.ref 274) = true := (facts w).2.2.2.2.2.2.2.2.2.2.2.2.2.2.2.2.2.2.2.2.2.2.2.2.2.2.2.2.2.2.2.2.2.2.2.2.2.2.2.2.2.2.2.2.2.2.2.2.2.2.2.2.2.2.2.2.2.2.2.2.2.2.2.2.2.2.2.2.2.2.2.2.2.2.2.2.2.2.2.2.2.2.2.2.2.2.2.2.2.2.2.2.2.2.2.2.2.2.2.2.2.2.2.2.2.2.2.2.2.2.1
theorem F_K_opEOR (w : World) : keepIn (KF w.params) (.ref 274) = true := (facts w).2.2.2.2.2.2.2.2.2.2.2.2.2.2.2.2.2.2.2.2.2.2.2.2.2.2.2.2.2.2.2.2.2.2.2.2.2.2.2.2.2.2.2.2.2.2.2.2.2.2.2.2.2.2.2.2.2.2.2.2.2.2.2.2.2.2.2.2.2.2.2.2.2.2.2.2.2.2.2.2.2.2.2.2.2.2.2.2.2.2.2.2.2.2.2.2.2.2.2.2.2.2.2.2.2.2.2.2.2.2.2.1
theorem F_N_opEOR (w : World) : fnIn (KF w.params) 274 = true := (facts w).2.2.2.2.2.2.2.2.2.2.2.2.2.2.2.2.2.2.2.2.2.2.2.2.2.2.2.2.2.2.2.2.2.2.2.2.2.2.2.2.2.2.2.2.2.2.2.2.2.2.2.2.2.2.2.2.2.2.2.2.2.2.2.2.2.2.2.2.2.2.2.2.2.2.2.2.2.2.2.2.2.2.2.2.2.2.2.2.2.2.2.2.2.2.2.2.2.2.2.2.2.2.2.2.2.2.2.2.2.2.2.2.1
theorem F_M_opADC (w : World) : findIn (KF w.params) (.ref 1428) "opADC" = some (some (.ref 281)) := (facts w).2.2.2.2.2.2.2.2.2.2.2.2.2.2.2.2.2.2.2.2.2.2.2.2.2.2.2.2.2.2.2.2.2.2.2.2.2.2.2.2.2.2.2.2.2.2.2.2.2.2.2.2.2.2.2.2.2.2.2.2.2.2.2.2.2.2.2.2.2.2.2.2.2.2.2.2.2.2.2.2.2.2.2.2.2.2.2.2.2.2.2.2.2.2.2.2.2.2.2.2.2.2.2.2.2.2.2.2.2.2.2.2.2.1
theorem F_T_opADC (w : World) : isFn (KF w.params) (.ref 281) = true := (facts w).2.2.2.2.2.2.2.2.2.2.2.2.2.2.2.2.2.2.2.2.2.2.2.2.2.2.2.2.2.2.2.2.2.2.2.2.2.2.2.2.2.2.2.2.2.2.2.2.2.2.2.2.2.2.2.2.2.2.2.2.2.2.2.2.2.2.2.2.2.2.2.2.2.2.2.2.2.2.2.2.2.2.2.2.2.2.2.2.2.2.2.2.2.2.2.2.2.2.2.2.2.2.2.2.2.2.2.2.2.2.2.2.2.2.1
theorem F_K_opADC (w : World) : keepIn (KF w.params) (.ref 281) = true := (facts w).2.2.2.2.2.2.2.2.2.2.2.2.2.2.2.2.2.2.2.2.2.2.2.2.2.2.2.2.2.2.2.2.2.2.2.2.2.2.2.2.2.2.2.2.2.2.2.2.2.2.2.2.2.2.2.2.2.2.2.2.2.2.2.2.2.2.2.2.2.2.2.2.2.2.2.2.2.2.2.2.2.2.2.2.2.2.2.2.2.2.2.2.2.2.2.2.2.2.2.2.2.2.2.2.2.2.2.2.2.2.2.2.2.2.2.1
theorem F_N_opADC (w : World) : fnIn (KF w.params) 281 = true := (facts w).2.2.2.2.2.2.2.2.2.2.2.2.2.2.2.2.2.2.2.2.2.2.2.2.2.2.2.2.2.2.2.2.2.2.2.2.2.2.2.2.2.2.2.2.2.2.2.2.2.2.2.2.2.2.2.2.2.2.2.2.2.2.2.2.2.2.2.2.2.2.2.2.2.2.2.2.2.2.2.2.2.2.2.2.2.2.2.2.2.2.2.2.2.2.2.2.2.2.2.2.2.2.2.2.2.2.2.2.2.2.2.2.2.2.2.2.1
theorem F_M_opROR (w : World) : findIn (KF w.params) (.ref 1428) "opROR" = some (some (.ref 288)) := (facts w).2.2.2.2.2.2.2.2.2.2.2.2.2.2.2.2.2.2.2.2.2.2.2.2.2.2.2.2.2.2.2.2.2.2.2.2.2.2.2.2.2.2.2.2.2.2.2.2.2.2.2.2.2.2.2.2.2.2.2.2.2.2.2.2.2.2.2.2.2.2.2.2.2.2.2.2.2.2.2.2.2.2.2.2.2.2.2.2.2.2.2.2.2.2.2.2.2.2.2.2.2.2.2.2.2.2.2.2.2.2.2.2.2.2.2.2.2.1
theorem F_T_opROR (w : World) : isFn (KF w.params) (.ref 288) = true := (facts w).2.2.2.2.2.2.2.2.2.2.2.2.2.2.2.2.2.2.2.2.2.2.2.2.2.2.2.2.2.2.2.2.2.2.2.2.2.2.2.2.2.2.2.2.2.2.2.2.2.2.2.2.2.2.2.2.2.2.2.2.2.2.2.2.2.2.2.2.2.2.2.2.2.2.2.2.2.2.2.2.2.2.2.2.2.2.2.2.2.2.2.2.2.2.2.2.2.2.2.2.2.2.2.2.2.2.2.2.2.2.2.2.2.2.2.2.2.2.1
theorem F_K_opROR (w : World) : keepIn (KF w.params) (.ref 288) = true := (facts w).2.2.2.2.2.2.2.2.2.2.2.2.2.2.2.2.2.2.2.2.2.2.2.2.2.2.2.2.2.2.2.2.2.2.2.2.2.2.2.2.2.2.2.2.2.2.2.2.2.2.2.2.2.2.2.2.2.2.2.2.2.2.2.2.2.2.2.2.2.2.2.2.2.2.2.2.2.2.2.2.2.2.2.2.2.2.2.2.2.2.2.2.2.2.2.2.2.2.2.2.2.2.2.2.2.2.2.2.2.2.2.2.2.2.2.2.2.2.2.1
theorem F_N_opROR (w : World) : fnIn (KF w.params) 288 = true := (facts w).2.2.2.2.2.2.2.2.2.2.2.2.2.2.2.2.2.2.2.2.2.2.2.2.2.2.2.2.2.2.2.2.2.2.2.2.2.2.2.2.2.2.2.2.2.2.2.2.2.2.2.2.2.2.2.2.2.2.2.2.2.2.2.2.2.2.2.2.2.2.2.2.2.2.2.2.2.2.2.2.2.2.2.2.2.2.2.2.2.2.2.2.2.2.2.2.2.2.2.2.2.2.2.2.2.2.2.2.2.2.2.2.2.2.2.2.2.2.2.2.1
theorem F_M_opSTA (w : World) : findIn (KF w.params) (.ref 1428) "opSTA" = some (some (.ref 295)) := (facts w).2.2.2.2.2.2.2.2.2.2.2.2.2.2.2.2.2.2.2.2.2.2.2.2.2.2.2.2.2.2.2.2.2.2.2.2.2.2.2.2.2.2.2.2.2.2.2.2.2.2.2.2.2.2.2.2.2.2.2.2.2.2.2.2.2.2.2.2.2.2.2.2.2.2.2.2.2.2.2.2.2.2.2.2.2.2.2.2.2.2.2.2.2.2.2.2.2.2.2.2.2.2.2.2.2.2.2.2.2.2.2.2.2.2.2.2.2.2.2.2.2.1
theorem F_T_opSTA (w : World) : isFn (KF w.params) (.ref 295) = true := (facts w).2.2.2.2.2.2.2.2.2.2.2.2.2.2.2.2.2.2.2.2.2.2.2.2.2.2.2.2.2.2.2.2.2.2.2.2.2.2.2.2.2.2.2.2.2.2.2.2.2.2.2.2.2.2.2.2.2.2.2.2.2.2.2.2.2.2.2.2.2.2.2.2.2.2.2.2.2.2.2.2.2.2.2.2.2.2.2.2.2.2.2.2.2.2.2.2.2.2.2.2.2.2.2.2.2.2.2.2.2.2.2.2.2.2.2.2.2.2.2.2.2.2.1
theorem F_K_opSTA (w : World) : keepIn (KF w.params) (.ref 295) = true := (facts w).2.2.2.2.2.2.2.2.2.2.2.2.2.2.2.2.2.2.2.2.2.2.2.2.2.2.2.2.2.2.2.2.2.2.2.2.2.2.2.2.2.2.2.2.2.2.2.2.2.2.2.2.2.2.2.2.2.2.2.2.2.2.2.2.2.2.2.2.2.2.2.2.2.2.2.2.2.2.2.2.2.2.2.2.2.2.2.2.2.2.2.2.2.2.2.2.2.2.2.2.2.2.2.2.2.2.2.2.2.2.2.2.2.2.2.2.2.2.2.2.2.2.2.1
theorem F_N_opSTA (w : World) : fnIn (KF w.params) 295 = true := (facts w).2.2.2.2.2.2.2.2.2.2.2.2.2.2.2.2.2.2.2.2.2.2.2.2.2.2.2.2.2.2.2.2.2.2.2.2.2.2.2.2.2.2.2.2.2.2.2.2.2.2.2.2.2.2.2.2.2.2.2.2.2.2.2.2.2.2.2.2.2.2.2.2.2.2.2.2.2.2.2.2.2.2.2.2.2.2.2.2.2.2.2.2.2.2.2.2.2.2.2.2.2.2.2.2.2.2.2.2.2.2.2.2.2.2.2.2.2.2.2.2.2.2.2.2.1
theorem F_M_opCMPR (w : World) : findIn (KF w.params) (.ref 1428) "opCMPR" = some (some (.ref 316)) := (facts w).2.2.2.2.2.2.2.2.2.2.2.2.2.2.2.2.2.2.2.2.2.2.2.2.2.2.2.2.2.2.2.2.2.2.2.2.2.2.2.2.2.2.2.2.2.2.2.2.2.2.2.2.2.2.2.2.2.2.2.2.2.2.2.2.2.2.2.2.2.2.2.2.2.2.2.2.2.2.2.2.2.2.2.2.2.2.2.2.2.2.2.2.2.2.2.2.2.2.2.2.2.2.2.2.2.2.2.2.2.2.2.2.2.2.2.2.2.2.2.2.2.2.2.2.2.1
theorem F_T_opCMPR (w : World) : isFn (KF w.params) (.ref 316) = true := (facts w).2.2.2.2.2.2.2.2.2.2.2.2.2.2.2.2.2.2.2.2.2.2.2.2.2.2.2.2.2.2.2.2.2.2.2.2.2.2.2.2.2.2.2.2.2.2.2.2.2.2.2.2.2.2.2.2.2.2.2.2.2.2.2.2.2.2.2.2.2.2.2.2.2.2.2.2.2.2.2.2.2.2.2.2.2.2.2.2.2.2.2.2.2.2.2.2.2.2.2.2.2.2.2.2.2.2.2.2.2.2.2.2.2.2.2.2.2.2.2.2.2.2.2.2.2.2.1
theorem F_K_opCMPR (w : World) : keepIn (KF w.params) (.ref 316) = true := (facts w).2.2.2.2.2.2.2.2.2.2.2.2.2.2.2.2.2.2.2.2.2.2.2.2.2.2.2.2.2.2.2.2.2.2.2.2.2.2.2.2.2.2.2.2.2.2.2.2.2.2.2.2.2.2.2.2.2.2.2.2.2.2.2.2.2.2.2.2.2.2.2.2.2.2.2.2.2.2.2.2.2.2.2.2.2.2.2.2.2.2.2.2.2.2.2.2.2.2.2.2.2.2.2.2.2.2.2.2.2.2.2.2.2.2.2.2.2.2.2.2.2.2.2.2.2.2.2.1
theorem F_N_opCMPR (w : World) : fnIn (KF w.params) 316 = true := (facts w).2.2.2.2.2.2.2.2.2.2.2.2.2.2.2.2.2.2.2.2.2.2.2.2.2.2.2.2.2.2.2.2.2.2.2.2.2.2.2.2.2.2.2.2.2.2.2.2.2.2.2.2.2.2.2.2.2.2.2.2.2.2.2.2.2.2.2.2.2.2.2.2.2.2.2.2.2.2.2.2.2.2.2.2.2.2.2.2.2.2.2.2.2.2.2.2.2.2.2.2.2.2.2.2.2.2.2.2.2.2.2.2.2.2.2.2.2.2.2.2.2.2.2.2.2.2.2.2.1
theorem F_M_opSBC (w : World) : findIn (KF w.params) (.ref 1428) "opSBC" = some (some (.ref 323)) := (facts w).2.2.2.2.2.2.2.2.2.2.2.2.2.2.2.2.2.2.2.2.2.2.2.2.2.2.2.2.2.2.2.2.2.2.2.2.2.2.2.2.2.2.2.2.2.2.2.2.2.2.2.2.2.2.2.2.2.2.2.2.2.2.2.2.2.2.2.2.2.2.2.2.2.2.2.2.2.2.2.2.2.2.2.2.2.2.2.2.2.2.2.2.2.2.2.2.2.2.2.2.2.2.2.2.2.2.2.2.2.2.2.2.2.2.2.2.2.2.2.2.2.2.2.2.2.2.2.2.2.1
theorem F_T_opSBC (w : World) : isFn (KF w.params) (.ref 323) = true := (facts w).2.2.2.2.2.2.2.2.2.2.2.2.2.2.2.2.2.2.2.2.2.2.2.2.2.2.2.2.2.2.2.2.2.2.2.2.2.2.2.2.2.2.2.2.2.2.2.2.2.2.2.2.2.2.2.2.2.2.2.2.2.2.2.2.2.2.2.2.2.2.2.2.2.2.2.2.2.2.2.2.2.2.2.2.2.2.2.2.2.2.2.2.2.2.2.2.2.2.2.2.2.2.2.2.2.2.2.2.2.2.2.2.2.2.2.2.2.2.2.2.2.2.2.2.2.2.2.2.2.2.1
theorem F_K_opSBC (w : World) : keepIn (KF w.params) (.ref 323) = true := (facts w).2.2.2.2.2.2.2.2.2.2.2.2.2.2.2.2.2.2.2.2.2.2.2.2.2.2.2.2.2.2.2.2.2.2.2.2.2.2.2.2.2.2.2.2.2.2.2.2.2.2.2.2.2.2.2.2.2.2.2.2.2.2.2.2.2.2.2.2.2.2.2.2.2.2.2.2.2.2.2.2.2.2.2.2.2.2.2.2.2.2.2.2.2.2.2.2.2.2.2.2.2.2.2.2.2.2.2.2.2.2.2.2.2.2.2.2.2.2.2.2.2.2.2.2.2.2.2.2.2.2.2.1
theorem F_N_opSBC (w : World) : fnIn (KF w.params) 323 = true := (facts w).2.2.2.2.2.2.2.2.2.2.2.2.2.2.2.2.2.2.2.2.2.2.2.2.2.2.2.2.2.2.2.2.2.2.2.2.2.2.2.2.2.2.2.2.2.2.2.2.2.2.2.2.2.2.2.2.2.2.2.2.2.2.2.2.2.2.2.2.2.2.2.2.2.2.2.2.2.2.2.2.2.2.2.2.2.2.2.2.2.2.2.2.2.2.2.2.2.2.2.2.2.2.2.2.2.2.2.2.2.2.2.2.2.2.2.2.2.2.2.2.2.2.2.2.2.2.2.2.2.2.2.2.1
theorem F_M_opDECR (w : World) : findIn (KF w.params) (.ref 1428) "opDECR" = some (some (.ref 330)) := (facts w).2.2.2.2.2.2.2.2.2.2.2.2.2.2.2.2.2.2.2.2.2.2.2.2.2.2.2.2.2.2.2.2.2.2.2.2.2.2.2.2.2.2.2.2.2.2.2.2.2.2.2.2.2.2.2.2.2.2.2.2.2.2.2.2.2.2.2.2.2.2.2.2.2.2.2.2.2.2.2.2.2.2.2.2.2.2.2.2.2.2.2.2.2.2.2.2.2.2.2.2.2.2.2.2.2.2.2.2.2.2.2.2.2.2.2.2.2.2.2.2.2.2.2.2.2.2.2.2.2.2.2.2.2.1
theorem F_T_opDECR (w : World) : isFn (KF w.params) (.ref 330) = true := (facts w).2.2.2.2.2.2.2.2.2.2.2.2.2.2.2.2.2.2.2.2.2.2.2.2.2.2.2.2.2.2.2.2.2.2.2.2.2.2.2.2.2.2.2.2.2.2.2.2.2.2.2.2.2.2.2.2.2.2.2.2.2.2.2.2.2.2.2.2.2.2.2.2.2.2.2.2.2.2.2.2.2.2.2.2.2.2.2.2.2.2.2.2.2.2.2.2.2.2.2.2.2.2.2.2.2.2.2.2.2.2.2.2.2.2.2.2.2.2.2.2.2.2.2.2.2.2.2.2.2.2.2.2.2.2.1
theorem F_K_opDECR (w : World) : keepIn (KF w.params) (.ref 330) = true := (facts w).2.2.2.2.2.2.2.2.2.2.2.2.2.2.2.2.2.2.2.2.2.2.2.2.2.2.2.2.2.2.2.2.2.2.2.2.2.2.2.2.2.2.2.2.2.2.2.2.2.2.2.2.2.2.2.2.2.2.2.2.2.2.2.2.2.2.2.2.2.2.2.2.2.2.2.2.2.2.2.2.2.2.2.2.2.2.2.2.2.2.2.2.2.2.2.2.2.2.2.2.2.2.2.2.2.2.2.2.2.2.2.2.2.2.2.2.2.2.2.2.2.2.2.2.2.2.2.2.2.2.2.2.2.2.2.1
theorem F_N_opDECR (w : World) : fnIn (KF w.params) 330 = true := (facts w).2.2.2.2.2.2.2.2.2.2.2.2.2.2.2.2.2.2.2.2.2.2.2.2.2.2.2.2.2.2.2.2.2.2.2.2.2.2.2.2.2.2.2.2.2.2.2.2.2.2.2.2.2.2.2.2.2.2.2.2.2.2.2.2.2.2.2.2.2.2.2.2.2.2.2.2.2.2.2.2.2.2.2.2.2.2.2.2.2.2.2.2.2.2.2.2.2.2.2.2.2.2.2.2.2.2.2.2.2.2.2.2.2.2.2.2.2.2.2.2.2.2.2.2.2.2.2.2.2.2.2.2.2.2.2.2.1
theorem F_M_opLDA (w : World) : findIn (KF w.params) (.ref 1428) "opLDA" = some (some (.ref 344)) := (facts w).2.2.2.2.2.2.2.2.2.2.2.2.2.2.2.2.2.2.2.2.2.2.2.2.2.2.2.2.2.2.2.2.2.2.2.2.2.2.2.2.2.2.2.2.2.2.2.2.2.2.2.2.2.2.2.2.2.2.2.2.2.2.2.2.2.2.2.2.2.2.2.2.2.2.2.2.2.2.2.2.2.2.2.2.2.2.2.2.2.2.2.2.2.2.2.2.2.2.2.2.2.2.2.2.2.2.2.2.2.2.2.2.2.2.2.2.2.2.2.2.2.2.2.2.2.2.2.2.2.2.2.2.2.2.2.2.2.1
theorem F_T_opLDA (w : World) : isFn (KF w.params) (.ref 344) = true := (facts w).2.2.2.2.2.2.2.2.2.2.2.2.2.2.2.2.2.2.2.2.2.2.2.2.2.2.2.2.2.2.2.2.2.2.2.2.2.2.2.2.2.2.2.2.2.2.2.2.2.2.2.2.2.2.2.2.2.2.2.2.2.2.2.2.2.2.2.2.2.2.2.2.2.2.2.2.2.2.2.2.2.2.2.2.2.2.2.2.2.2.2.2.2.2.2.2.2.2.2.2.2.2.2.2.2.2.2.2.2.2.2.2.2.2.2.2.2.2.2.2.2.2.2.2.2.2.2.2.2.2.2.2.2.2.2.2.2.2.1
theorem F_K_opLDA (w : World) : keepIn (KF w.params) (.ref 344) = true := (facts w).2.2.2.2.2.2.2.2.2.2.2.2.2.2.2.2.2.2.2.2.2.2.2.2.2.2.2.2.2.2.2.2.2.2.2.2.2.2.2.2.2.2.2.2.2.2.2.2.2.2.2.2.2.2.2.2.2.2.2.2.2.2.2.2.2.2.2.2.2.2.2.2.2.2.2.2.2.2.2.2.2.2.2.2.2.2.2.2.2.2.2.2.2.2.2.2.2.2.2.2.2.2.2.2.2.2.2.2.2.2.2.2.2.2.2.2.2.2.2.2.2.2.2.2.2.2.2.2.2.2.2.2.2.2.2.2.2.2.2.1
theorem F_N_opLDA (w : World) : fnIn (KF w.params) 344 = true := (facts w).2.2.2.2.2.2.2.2.2.2.2.2.2.2.2.2.2.2.2.2.2.2.2.2.2.2.2.2.2.2.2.2.2.2.2.2.2.2.2.2.2.2.2.2.2.2.2.2.2.2.2.2.2.2.2.2.2.2.2.2.2.2.2.2.2.2.2.2.2.2.2.2.2.2.2.2.2.2.2.2.2.2.2.2.2.2.2.2.2.2.2.2.2.2.2.2.2.2.2.2.2.2.2.2.2.2.2.2.2.2.2.2.2.2.2.2.2.2.2.2.2.2.2.2.2.2.2.2.2.2.2.2.2.2.2.2.2.2.2.2.1
theorem F_C_NEGATIVE (w : World) : findIn (KF w.params) (.ref 1428) "NEGATIVE" = some (some (.int 128 214)) := (facts w).2.2.2.2.2.2.2.2.2.2.2.2.2.2.2.2.2.2.2.2.2.2.2.2.2.2.2.2.2.2.2.2.2.2.2.2.2.2.2.2.2.2.2.2.2.2.2.2.2.2.2.2.2.2.2.2.2.2.2.2.2.2.2.2.2.2.2.2.2.2.2.2.2.2.2.2.2.2.2.2.2.2.2.2.2.2.2.2.2.2.2.2.2.2.2.2.2.2.2.2.2.2.2.2.2.2.2.2.2.2.2.2.2.2.2.2.2.2.2.2.2.2.2.2.2.2.2.2.2.2.2.2.2.2.2.2.2.2.2.2.2.1
theorem F_S_NEGATIVE (w : World) : specialIn (KF w.params) (.int 128 214) "__get__" = some none := (facts w).2.2.2.2.2.2.2.2.2.2.2.2.2.2.2.2.2.2.2.2.2.2.2.2.2.2.2.2.2.2.2.2.2.2.2.2.2.2.2.2.2.2.2.2.2.2.2.2.2.2.2.2.2.2.2.2.2.2.2.2.2.2.2.2.2.2.2.2.2.2.2.2.2.2.2.2.2.2.2.2.2.2.2.2.2.2.2.2.2.2.2.2.2.2.2.2.2.2.2.2.2.2.2.2.2.2.2.2.2.2.2.2.2.2.2.2.2.2.2.2.2.2.2.2.2.2.2.2.2.2.2.2.2.2.2.2.2.2.2.2.2.2.1
theorem F_C_OVERFLOW (w : World) : findIn (KF w.params) (.ref 1428) "OVERFLOW" = some (some (.int 64 216)) := (facts w).2.2.2.2.2.2.2.2.2.2.2.2.2.2.2.2.2.2.2.2.2.2.2.2.2.2.2.2.2.2.2.2.2.2.2.2.2.2.2.2.2.2.2.2.2.2.2.2.2.2.2.2.2.2.2.2.2.2.2.2.2.2.2.2.2.2.2.2.2.2.2.2.2.2.2.2.2.2.2.2.2.2.2.2.2.2.2.2.2.2.2.2.2.2.2.2.2.2.2.2.2.2.2.2.2.2.2.2.2.2.2.2.2.2.2.2.2.2.2.2.2.2.2.2.2.2.2.2.2.2.2.2.2.2.2.2.2.2.2.2.2.2.2.1
theorem F_S_OVERFLOW (w : World) : specialIn (KF w.params) (.int 64 216) "__get__" = some none := (facts w).2.2.2.2.2.2.2.2.2.2.2.2.2.2.2.2.2.2.2.2.2.2.2.2.2.2.2.2.2.2.2.2.2.2.2.2.2.2.2.2.2.2.2.2.2.2.2.2.2.2.2.2.2.2.2.2.2.2.2.2.2.2.2.2.2.2.2.2.2.2.2.2.2.2.2.2.2.2.2.2.2.2.2.2.2.2.2.2.2.2.2.2.2.2.2.2.2.2.2.2.2.2.2.2.2.2.2.2.2.2.2.2.2.2.2.2.2.2.2.2.2.2.2.2.2.2.2.2.2.2.2.2.2.2.2.2.2.2.2.2.2.2.2.2.1
theorem F_C_UNUSED (w : World) : findIn (KF w.params) (.ref 1428) "UNUSED" = some (some (.int 32 218)) := (facts w).2.2.2.2.2.2.2.2.2.2.2.2.2.2.2.2.2.2.2.2.2.2.2.2.2.2.2.2.2.2.2.2.2.2.2.2.2.2.2.2.2.2.2.2.2.2.2.2.2.2.2.2.2.2.2.2.2.2.2.2.2.2.2.2.2.2.2.2.2.2.2.2.2.2.2.2.2.2.2.2.2.2.2.2.2.2.2.2.2.2.2.2.2.2.2.2.2.2.2.2.2.2.2.2.2.2.2.2.2.2.2.2.2.2.2.2.2.2.2.2.2.2.2.2.2.2.2.2.2.2.2.2.2.2.2.2.2.2.2.2.2.2.2.2.2.1
theorem F_S_UNUSED (w : World) : specialIn (KF w.params) (.int 32 218) "__get__" = some none := (facts w).2.2.2.2.2.2.2.2.2.2.2.2.2.2.2.2.2.2.2.2.2.2.2.2.2.2.2.2.2.2.2.2.2.2.2.2.2.2.2.2.2.2.2.2.2.2.2.2.2.2.2.2.2.2.2.2.2.2.2.2.2.2.2.2.2.2.2.2.2.2.2.2.2.2.2.2.2.2.2.2.2.2.2.2.2.2.2.2.2.2.2.2.2.2.2.2.2.2.2.2.2.2.2.2.2.2.2.2.2.2.2.2.2.2.2.2.2.2.2.2.2.2.2.2.2.2.2.2.2.2.2.2.2.2.2.2.2.2.2.2.2.2.2.2.2.2.1
theorem F_C_BREAK (w : World) : findIn (KF w.params) (.ref 1428) "BREAK" = some (some (.int 16 220)) := (facts w).2.2.2.2.2.2.2.2.2.2.2.2.2.2.2.2.2.2.2.2.2.2.2.2.2.2.2.2.2.2.2.2.2.2.2.2.2.2.2.2.2.2.2.2.2.2.2.2.2.2.2.2.2.2.2.2.2.2.2.2.2.2.2.2.2.2.2.2.2.2.2.2.2.2.2.2.2.2.2.2.2.2.2.2.2.2.2.2.2.2.2.2.2.2.2.2.2.2.2.2.2.2.2.2.2.2.2.2.2.2.2.2.2.2.2.2.2.2.2.2.2.2.2.2.2.2.2.2.2.2.2.2.2.2.2.2.2.2.2.2.2.2.2.2.2.2.2.1
theorem F_S_BREAK (w : World) : specialIn (KF w.params) (.int 16 220) "__get__" = some none := (facts w).2.2.2.2.2.2.2.2.2.2.2.2.2.2.2.2.2.2.2.2.2.2.2.2.2.2.2.2.2.2.2.2.2.2.2.2.2.2.2.2.2.2.2.2.2.2.2.2.2.2.2.2.2.2.2.2.2.2.2.2.2.2.2.2.2.2.2.2.2.2.2.2.2.2.2.2.2.2.2.2.2.2.2.2.2.2.2.2.2.2.2.2.2.2.2.2.2.2.2.2.2.2.2.2.2.2.2.2.2.2.2.2.2.2.2.2.2.2.2.2.2.2.2.2.2.2.2.2.2.2.2.2.2.2.2.2.2.2.2.2.2.2.2.2.2.2.2.2.1
theorem F_C_DECIMAL (w : World) : findIn (KF w.params) (.ref 1428) "DECIMAL" = some (some (.int 8 222)) := (facts w).2.2.2.2.2.2.2.2.2.2.2.2.2.2.2.2.2.2.2.2.2.2.2.2.2.2.2.2.2.2.2.2.2.2.2.2.2.2.2.2.2.2.2.2.2.2.2.2.2.2.2.2.2.2.2.2.2.2.2.2.2.2.2.2.2.2.2.2.2.2.2.2.2.2.2.2.2.2.2.2.2.2.2.2.2.2.2.2.2.2.2.2.2.2.2.2.2.2.2.2.2.2.2.2.2.2.2.2.2.2.2.2.2.2.2.2.2.2.2.2.2.2.2.2.2.2.2.2.2.2.2.2.2.2.2.2.2.2.2.2.2.2.2.2.2.2.2.2.2.1
theorem F_S_DECIMAL (w : World) : specialIn (KF w.params) (.int 8 222) "__get__" = some none := (facts w).2.2.2.2.2.2.2.2.2.2.2.2.2.2.2.2.2.2.2.2.2.2.2.2.2.2.2.2.2.2.2.2.2.2.2.2.2.2.2.2.2.2.2.2.2.2.2.2.2.2.2.2.2.2.2.2.2.2.2.2.2.2.2.2.2.2.2.2.2.2.2.2.2.2.2.2.2.2.2.2.2.2.2.2.2.2.2.2.2.2.2.2.2.2.2.2.2.2.2.2.2.2.2.2.2.2.2.2.2.2.2.2.2.2.2.2.2.2.2.2.2.2.2.2.2.2.2.2.2.2.2.2.2.2.2.2.2.2.2.2.2.2.2.2.2.2.2.2.2.2.1
theorem F_C_ZERO (w : World) : findIn (KF w.params) (.ref 1428) "ZERO" = some (some (.int 2 226)) := (facts w).2.2.2.2.2.2.2.2.2.2.2.2.2.2.2.2.2.2.2.2.2.2.2.2.2.2.2.2.2.2.2.2.2.2.2.2.2.2.2.2.2.2.2.2.2.2.2.2.2.2.2.2.2.2.2.2.2.2.2.2.2.2.2.2.2.2.2.2.2.2.2.2.2.2.2.2.2.2.2.2.2.2.2.2.2.2.2.2.2.2.2.2.2.2.2.2.2.2.2.2.2.2.2.2.2.2.2.2.2.2.2.2.2.2.2.2.2.2.2.2.2.2.2.2.2.2.2.2.2.2.2.2.2.2.2.2.2.2.2.2.2.2.2.2.2.2.2.2.2.2.2.1
theorem F_S_ZERO (w : World) : specialIn (KF w.params) (.int 2 226) "__get__" = some none := (facts w).2.2.2.2.2.2.2.2.2.2.2.2.2.2.2.2.2.2.2.2.2.2.2.2.2.2.2.2.2.2.2.2.2.2.2.2.2.2.2.2.2.2.2.2.2.2.2.2.2.2.2.2.2.2.2.2.2.2.2.2.2.2.2.2.2.2.2.2.2.2.2.2.2.2.2.2.2.2.2.2.2.2.2.2.2.2.2.2.2.2.2.2.2.2.2.2.2.2.2.2.2.2.2.2.2.2.2.2.2.2.2.2.2.2.2.2.2.2.2.2.2.2.2.2.2.2.2.2.2.2.2.2.2.2.2.2.2.2.2.2.2.2.2.2.2.2.2.2.2.2.2.2.1
theorem F_C_CARRY (w : World) : findIn (KF w.params) (.ref 1428) "CARRY" = some (some (.int 1 228)) := (facts w).2.2.2.2.2.2.2.2.2.2.2.2.2.2.2.2.2.2.2.2.2.2.2.2.2.2.2.2.2.2.2.2.2.2.2.2.2.2.2.2.2.2.2.2.2.2.2.2.2.2.2.2.2.2.2.2.2.2.2.2.2.2.2.2.2.2.2.2.2.2.2.2.2.2.2.2.2.2.2.2.2.2.2.2.2.2.2.2.2.2.2.2.2.2.2.2.2.2.2.2.2.2.2.2.2.2.2.2.2.2.2.2.2.2.2.2.2.2.2.2.2.2.2.2.2.2.2.2.2.2.2.2.2.2.2.2.2.2.2.2.2.2.2.2.2.2.2.2.2.2.2.2.2.1
theorem F_S_CARRY (w : World) : specialIn (KF w.params) (.int 1 228) "__get__" = some none := (facts w).2.2.2.2.2.2.2.2.2.2.2.2.2.2.2.2.2.2.2.2.2.2.2.2.2.2.2.2.2.2.2.2.2.2.2.2.2.2.2.2.2.2.2.2.2.2.2.2.2.2.2.2.2.2.2.2.2.2.2.2.2.2.2.2.2.2.2.2.2.2.2.2.2.2.2.2.2.2.2.2.2.2.2.2.2.2.2.2.2.2.2.2.2.2.2.2.2.2.2.2.2.2.2.2.2.2.2.2.2.2.2.2.2.2.2.2.2.2.2.2.2.2.2.2.2.2.2.2.2.2.2.2.2.2.2.2.2.2.2.2.2.2.2.2.2.2.2.2.2.2.2.2.2.2.1
theorem F_C_BYTE_WIDTH (w : World) : findIn (KF w.params) (.ref 1428) "BYTE_WIDTH" = some (some (.int 8 230)) := (facts w).2.2.2.2.2.2.2.2.2.2.2.2.2.2.2.2.2.2.2.2.2.2.2.2.2.2.2.2.2.2.2.2.2.2.2.2.2.2.2.2.2.2.2.2.2.2.2.2.2.2.2.2.2.2.2.2.2.2.2.2.2.2.2.2.2.2.2.2.2.2.2.2.2.2.2.2.2.2.2.2.2.2.2.2.2.2.2.2.2.2.2.2.2.2.2.2.2.2.2.2.2.2.2.2.2.2.2.2.2.2.2.2.2.2.2.2.2.2.2.2.2.2.2.2.2.2.2.2.2.2.2.2.2.2.2.2.2.2.2.2.2.2.2.2.2.2.2.2.2.2.2.2.2.2.2.1
theorem F_S_BYTE_WIDTH (w : World) : specialIn (KF w.params) (.int 8 230) "__get__" = some none := (facts w).2.2.2.2.2.2.2.2.2.2.2.2.2.2.2.2.2.2.2.2.2.2.2.2.2.2.2.2.2.2.2.2.2.2.2.2.2.2.2.2.2.2.2.2.2.2.2.2.2.2.2.2.2.2.2.2.2.2.2.2.2.2.2.2.2.2.2.2.2.2.2.2.2.2.2.2.2.2.2.2.2.2.2.2.2.2.2.2.2.2.2.2.2.2.2.2.2.2.2.2.2.2.2.2.2.2.2.2.2.2.2.2.2.2.2.2.2.2.2.2.2.2.2.2.2.2.2.2.2.2.2.2.2.2.2.2.2.2.2.2.2.2.2.2.2.2.2.2.2.2.2.2.2.2.2.2.1
theorem F_C_ADDR_WIDTH (w : World) : findIn (KF w.params) (.ref 1428) "ADDR_WIDTH" = some (some (.int 16 234)) := (facts w).2.2.2.2.2.2.2.2.2.2.2.2.2.2.2.2.2.2.2.2.2.2.2.2.2.2.2.2.2.2.2.2.2.2.2.2.2.2.2.2.2.2.2.2.2.2.2.2.2.2.2.2.2.2.2.2.2.2.2.2.2.2.2.2.2.2.2.2.2.2.2.2.2.2.2.2.2.2.2.2.2.2.2.2.2.2.2.2.2.2.2.2.2.2.2.2.2.2.2.2.2.2.2.2.2.2.2.2.2.2.2.2.2.2.2.2.2.2.2.2.2.2.2.2.2.2.2.2.2.2.2.2.2.2.2.2.2.2.2.2.2.2.2.2.2.2.2.2.2.2.2.2.2.2.2.2.2.1
theorem F_S_ADDR_WIDTH (w : World) : specialIn (KF w.params) (.int 16 234) "__get__" = some none := (facts w).2.2.2.2.2.2.2.2.2.2.2.2.2.2.2.2.2.2.2.2.2.2.2.2.2.2.2.2.2.2.2.2.2.2.2.2.2.2.2.2.2.2.2.2.2.2.2.2.2.2.2.2.2.2.2.2.2.2.2.2.2.2.2.2.2.2.2.2.2.2.2.2.2.2.2.2.2.2.2.2.2.2.2.2.2.2.2.2.2.2.2.2.2.2.2.2.2.2.2.2.2.2.2.2.2.2.2.2.2.2.2.2.2.2.2.2.2.2.2.2.2.2.2.2.2.2.2.2.2.2.2.2.2.2.2.2.2.2.2.2.2.2.2.2.2.2.2.2.2.2.2.2.2.2.2.2.2.2.1
theorem F_C_instruct (w : World) : findIn (KF w.params) (.ref 1428) "instruct" = some (some (.ref 1423)) := (facts w).2.2.2.2.2.2.2.2.2.2.2.2.2.2.2.2.2.2.2.2.2.2.2.2.2.2.2.2.2.2.2.2.2.2.2.2.2.2.2.2.2.2.2.2.2.2.2.2.2.2.2.2.2.2.2.2.2.2.2.2.2.2.2.2.2.2.2.2.2.2.2.2.2.2.2.2.2.2.2.2.2.2.2.2.2.2.2.2.2.2.2.2.2.2.2.2.2.2.2.2.2.2.2.2.2.2.2.2.2.2.2.2.2.2.2.2.2.2.2.2.2.2.2.2.2.2.2.2.2.2.2.2.2.2.2.2.2.2.2.2.2.2.2.2.2.2.2.2.2.2.2.2.2.2.2.2.2.2.2.1
theorem F_S_instruct (w : World) : specialIn (KF w.params) (.ref 1423) "__get__" = some none := (facts w).2.2.2.2.2.2.2.2.2.2.2.2.2.2.2.2.2.2.2.2.2.2.2.2.2.2.2.2.2.2.2.2.2.2.2.2.2.2.2.2.2.2.2.2.2.2.2.2.2.2.2.2.2.2.2.2.2.2.2.2.2.2.2.2.2.2.2.2.2.2.2.2.2.2.2.2.2.2.2.2.2.2.2.2.2.2.2.2.2.2.2.2.2.2.2.2.2.2.2.2.2.2.2.2.2.2.2.2.2.2.2.2.2.2.2.2.2.2.2.2.2.2.2.2.2.2.2.2.2.2.2.2.2.2.2.2.2.2.2.2.2.2.2.2.2.2.2.2.2.2.2.2.2.2.2.2.2.2.2.2.1
theorem F_C_cycletime (w : World) : findIn (KF w.params) (.ref 1428) "cycletime" = some (some (.ref 1424)) := (facts w).2.2.2.2.2.2.2.2.2.2.2.2.2.2.2.2.2.2.2.2.2.2.2.2.2.2.2.2.2.2.2.2.2.2.2.2.2.2.2.2.2.2.2.2.2.2.2.2.2.2.2.2.2.2.2.2.2.2.2.2.2.2.2.2.2.2.2.2.2.2.2.2.2.2.2.2.2.2.2.2.2.2.2.2.2.2.2.2.2.2.2.2.2.2.2.2.2.2.2.2.2.2.2.2.2.2.2.2.2.2.2.2.2.2.2.2.2.2.2.2.2.2.2.2.2.2.2.2.2.2.2.2.2.2.2.2.2.2.2.2.2.2.2.2.2.2.2.2.2.2.2.2.2.2.2.2.2.2.2.2.2.1
theorem F_S_cycletime (w : World) : specialIn (KF w.params) (.ref 1424) "__get__" = some none := (facts w).2.2.2.2.2.2.2.2.2.2.2.2.2.2.2.2.2.2.2.2.2.2.2.2.2.2.2.2.2.2.2.2.2.2.2.2.2.2.2.2.2.2.2.2.2.2.2.2.2.2.2.2.2.2.2.2.2.2.2.2.2.2.2.2.2.2.2.2.2.2.2.2.2.2.2.2.2.2.2.2.2.2.2.2.2.2.2.2.2.2.2.2.2.2.2.2.2.2.2.2.2.2.2.2.2.2.2.2.2.2.2.2.2.2.2.2.2.2.2.2.2.2.2.2.2.2.2.2.2.2.2.2.2.2.2.2.2.2.2.2.2.2.2.2.2.2.2.2.2.2.2.2.2.2.2.2.2.2.2.2.2.2.1
theorem F_C_extracycles (w : World) : findIn (KF w.params) (.ref 1428) "extracycles" = some (some (.ref 1425)) := (facts w).2.2.2.2.2.2.2.2.2.2.2.2.2.2.2.2.2.2.2.2.2.2.2.2.2.2.2.2.2.2.2.2.2.2.2.2.2.2.2.2.2.2.2.2.2.2.2.2.2.2.2.2.2.2.2.2.2.2.2.2.2.2.2.2.2.2.2.2.2.2.2.2.2.2.2.2.2.2.2.2.2.2.2.2.2.2.2.2.2.2.2.2.2.2.2.2.2.2.2.2.2.2.2.2.2.2.2.2.2.2.2.2.2.2.2.2.2.2.2.2.2.2.2.2.2.2.2.2.2.2.2.2.2.2.2.2.2.2.2.2.2.2.2.2.2.2.2.2.2.2.2.2.2.2.2.2.2.2.2.2.2.2.2.1
theorem F_S_extracycles (w : World) : specialIn (KF w.params) (.ref 1425) "__get__" = some none := (facts w).2.2.2.2.2.2.2.2.2.2.2.2.2.2.2.2.2.2.2.2.2.2.2.2.2.2.2.2.2.2.2.2.2.2.2.2.2.2.2.2.2.2.2.2.2.2.2.2.2.2.2.2.2.2.2.2.2.2.2.2.2.2.2.2.2.2.2.2.2.2.2.2.2.2.2.2.2.2.2.2.2.2.2.2.2.2.2.2.2.2.2.2.2.2.2.2.2.2.2.2.2.2.2.2.2.2.2.2.2.2.2.2.2.2.2.2.2.2.2.2.2.2.2.2.2.2.2.2.2.2.2.2.2.2.2.2.2.2.2.2.2.2.2.2.2.2.2.2.2.2.2.2.2.2.2.2.2.2.2.2.2.2.2.2.1
theorem F_W_name (w : World) : takerIn (KF w.params) 1428 "name" = some none := (facts w).2.2.2.2.2.2.2.2.2.2.2.2.2.2.2.2.2.2.2.2.2.2.2.2.2.2.2.2.2.2.2.2.2.2.2.2.2.2.2.2.2.2.2.2.2.2.2.2.2.2.2.2.2.2.2.2.2.2.2.2.2.2.2.2.2.2.2.2.2.2.2.2.2.2.2.2.2.2.2.2.2.2.2.2.2.2.2.2.2.2.2.2.2.2.2.2.2.2.2.2.2.2.2.2.2.2.2.2.2.2.2.2.2.2.2.2.2.2.2.2.2.2.2.2.2.2.2.2.2.2.2.2.2.2.2.2.2.2.2.2.2.2.2.2.2.2.2.2.2.2.2.2.2.2.2.2.2.2.2.2.2.2.2.2.2.1
theorem F_W_byteMask (w : World) : takerIn (KF w.params) 1428 "byteMask" = some none := (facts w).2.2.2.2.2.2.2.2.2.2.2.2.2.2.2.2.2.2.2.2.2.2.2.2.2.2.2.2.2.2.2.2.2.2.2.2.2.2.2.2.2.2.2.2.2.2.2.2.2.2.2.2.2.2.2.2.2.2.2.2.2.2.2.2.2.2.2.2.2.2.2.2.2.2.2.2.2.2.2.2.2.2.2.2.2.2.2.2.2.2.2.2.2.2.2.2.2.2.2.2.2.2.2.2.2.2.2.2.2.2.2.2.2.2.2.2.2.2.2.2.2.2.2.2.2.2.2.2.2.2.2.2.2.2.2.2.2.2.2.2.2.2.2.2.2.2.2.2.2.2.2.2.2.2.2.2.2.2.2.2.2.2.2.2.2.2.1
theorem F_W_addrMask (w : World) : takerIn (KF w.params) 1428 "addrMask" = some none := (facts w).2.2.2.2.2.2.2.2.2.2.2.2.2.2.2.2.2.2.2.2.2.2.2.2.2.2.2.2.2.2.2.2.2.2.2.2.2.2.2.2.2.2.2.2.2.2.2.2.2.2.2.2.2.2.2.2.2.2.2.2.2.2.2.2.2.2.2.2.2.2.2.2.2.2.2.2.2.2.2.2.2.2.2.2.2.2.2.2.2.2.2.2.2.2.2.2.2.2.2.2.2.2.2.2.2.2.2.2.2.2.2.2.2.2.2.2.2.2.2.2.2.2.2.2.2.2.2.2.2.2.2.2.2.2.2.2.2.2.2.2.2.2.2.2.2.2.2.2.2.2.2.2.2.2.2.2.2.2.2.2.2.2.2.2.2.2.2.1
theorem F_W_addrHighMask (w : World) : takerIn (KF w.params) 1428 "addrHighMask" = some none := (facts w).2.2.2.2.2.2.2.2.2.2.2.2.2.2.2.2.2.2.2.2.2.2.2.2.2.2.2.2.2.2.2.2.2.2.2.2.2.2.2.2.2.2.2.2.2.2.2.2.2.2.2.2.2.2.2.2.2.2.2.2.2.2.2.2.2.2.2.2.2.2.2.2.2.2.2.2.2.2.2.2.2.2.2.2.2.2.2.2.2.2.2.2.2.2.2.2.2.2.2.2.2.2.2.2.2.2.2.2.2.2.2.2.2.2.2.2.2.2.2.2.2.2.2.2.2.2.2.2.2.2.2.2.2.2.2.2.2.2.2.2.2.2.2.2.2.2.2.2.2.2.2.2.2.2.2.2.2.2.2.2.2.2.2.2.2.2.2.2.1
theorem F_W_spBase (w : World) : takerIn (KF w.params) 1428 "spBase" = some none := (facts w).2.2.2.2.2.2.2.2.2.2.2.2.2.2.2.2.2.2.2.2.2.2.2.2.2.2.2.2.2.2.2.2.2.2.2.2.2.2.2.2.2.2.2.2.2.2.2.2.2.2.2.2.2.2.2.2.2.2.2.2.2.2.2.2.2.2.2.2.2.2.2.2.2.2.2.2.2.2.2.2.2.2.2.2.2.2.2.2.2.2.2.2.2.2.2.2.2.2.2.2.2.2.2.2.2.2.2.2.2.2.2.2.2.2.2.2.2.2.2.2.2.2.2.2.2.2.2.2.2.2.2.2.2.2.2.2.2.2.2.2.2.2.2.2.2.2.2.2.2.2.2.2.2.2.2.2.2.2.2.2.2.2.2.2.2.2.2.2.2.1
theorem F_W_excycles (w : World) : takerIn (KF w.params) 1428 "excycles" = some none := (facts w).2.2.2.2.2.2.2.2.2.2.2.2.2.2.2.2.2.2.2.2.2.2.2.2.2.2.2.2.2.2.2.2.2.2.2.2.2.2.2.2.2.2.2.2.2.2.2.2.2.2.2.2.2.2.2.2.2.2.2.2.2.2.2.2.2.2.2.2.2.2.2.2.2.2.2.2.2.2.2.2.2.2.2.2.2.2.2.2.2.2.2.2.2.2.2.2.2.2.2.2.2.2.2.2.2.2.2.2.2.2.2.2.2.2.2.2.2.2.2.2.2.2.2.2.2.2.2.2.2.2.2.2.2.2.2.2.2.2.2.2.2.2.2.2.2.2.2.2.2.2.2.2.2.2.2.2.2.2.2.2.2.2.2.2.2.2.2.2.2.2.1
theorem F_W_addcycles (w : World) : takerIn (KF w.params) 1428 "addcycles" = some none := (facts w).2.2.2.2.2.2.2.2.2.2.2.2.2.2.2.2.2.2.2.2.2.2.2.2.2.2.2.2.2.2.2.2.2.2.2.2.2.2.2.2.2.2.2.2.2.2.2.2.2.2.2.2.2.2.2.2.2.2.2.2.2.2.2.2.2.2.2.2.2.2.2.2.2.2.2.2.2.2.2.2.2.2.2.2.2.2.2.2.2.2.2.2.2.2.2.2.2.2.2.2.2.2.2.2.2.2.2.2.2.2.2.2.2.2.2.2.2.2.2.2.2.2.2.2.2.2.2.2.2.2.2.2.2.2.2.2.2.2.2.2.2.2.2.2.2.2.2.2.2.2.2.2.2.2.2.2.2.2.2.2.2.2.2.2.2.2.2.2.2.2.2.1
theorem F_W_processorCycles (w : World) : takerIn (KF w.params) 1428 "processorCycles" = some none := (facts w).2.2.2.2.2.2.2.2.2.2.2.2.2.2.2.2.2.2.2.2.2.2.2.2.2.2.2.2.2.2.2.2.2.2.2.2.2.2.2.2.2.2.2.2.2.2.2.2.2.2.2.2.2.2.2.2.2.2.2.2.2.2.2.2.2.2.2.2.2.2.2.2.2.2.2.2.2.2.2.2.2.2.2.2.2.2.2.2.2.2.2.2.2.2.2.2.2.2.2.2.2.2.2.2.2.2.2.2.2.2.2.2.2.2.2.2.2.2.2.2.2.2.2.2.2.2.2.2.2.2.2.2.2.2.2.2.2.2.2.2.2.2.2.2.2.2.2.2.2.2.2.2.2.2.2.2.2.2.2.2.2.2.2.2.2.2.2.2.2.2.2.2.1
theorem F_W_memory (w : World) : takerIn (KF w.params) 1428 "memory" = some none := (facts w).2.2.2.2.2.2.2.2.2.2.2.2.2.2.2.2.2.2.2.2.2.2.2.2.2.2.2.2.2.2.2.2.2.2.2.2.2.2.2.2.2.2.2.2.2.2.2.2.2.2.2.2.2.2.2.2.2.2.2.2.2.2.2.2.2.2.2.2.2.2.2.2.2.2.2.2.2.2.2.2.2.2.2.2.2.2.2.2.2.2.2.2.2.2.2.2.2.2.2.2.2.2.2.2.2.2.2.2.2.2.2.2.2.2.2.2.2.2.2.2.2.2.2.2.2.2.2.2.2.2.2.2.2.2.2.2.2.2.2.2.2.2.2.2.2.2.2.2.2.2.2.2.2.2.2.2.2.2.2.2.2.2.2.2.2.2.2.2.2.2.2.2.2.1
theorem F_W_start_pc (w : World) : takerIn (KF w.params) 1428 "start_pc" = some none := (facts w).2.2.2.2.2.2.2.2.2.2.2.2.2.2.2.2.2.2.2.2.2.2.2.2.2.2.2.2.2.2.2.2.2.2.2.2.2.2.2.2.2.2.2.2.2.2.2.2.2.2.2.2.2.2.2.2.2.2.2.2.2.2.2.2.2.2.2.2.2.2.2.2.2.2.2.2.2.2.2.2.2.2.2.2.2.2.2.2.2.2.2.2.2.2.2.2.2.2.2.2.2.2.2.2.2.2.2.2.2.2.2.2.2.2.2.2.2.2.2.2.2.2.2.2.2.2.2.2.2.2.2.2.2.2.2.2.2.2.2.2.2.2.2.2.2.2.2.2.2.2.2.2.2.2.2.2.2.2.2.2.2.2.2.2.2.2.2.2.2.2.2.2.2.2.1
theorem F_W_pc (w : World) : takerIn (KF w.params) 1428 "pc" = some none := (facts w).2.2.2.2.2.2.2.2.2.2.2.2.2.2.2.2.2.2.2.2.2.2.2.2.2.2.2.2.2.2.2.2.2.2.2.2.2.2.2.2.2.2.2.2.2.2.2.2.2.2.2.2.2.2.2.2.2.2.2.2.2.2.2.2.2.2.2.2.2.2.2.2.2.2.2.2.2.2.2.2.2.2.2.2.2.2.2.2.2.2.2.2.2.2.2.2.2.2.2.2.2.2.2.2.2.2.2.2.2.2.2.2.2.2.2.2.2.2.2.2.2.2.2.2.2.2.2.2.2.2.2.2.2.2.2.2.2.2.2.2.2.2.2.2.2.2.2.2.2.2.2.2.2.2.2.2.2.2.2.2.2.2.2.2.2.2.2.2.2.2.2.2.2.2.2.1
theorem F_W_sp (w : World) : takerIn (KF w.params) 1428 "sp" = some none := (facts w).2.2.2.2.2.2.2.2.2.2.2.2.2.2.2.2.2.2.2.2.2.2.2.2.2.2.2.2.2.2.2.2.2.2.2.2.2.2.2.2.2.2.2.2.2.2.2.2.2.2.2.2.2.2.2.2.2.2.2.2.2.2.2.2.2.2.2.2.2.2.2.2.2.2.2.2.2.2.2.2.2.2.2.2.2.2.2.2.2.2.2.2.2.2.2.2.2.2.2.2.2.2.2.2.2.2.2.2.2.2.2.2.2.2.2.2.2.2.2.2.2.2.2.2.2.2.2.2.2.2.2.2.2.2.2.2.2.2.2.2.2.2.2.2.2.2.2.2.2.2.2.2.2.2.2.2.2.2.2.2.2.2.2.2.2.2.2.2.2.2.2.2.2.2.2.2.1
theorem F_W_a (w : World) : takerIn (KF w.params) 1428 "a" = some none := (facts w).2.2.2.2.2.2.2.2.2.2.2.2.2.2.2.2.2.2.2.2.2.2.2.2.2.2.2.2.2.2.2.2.2.2.2.2.2.2.2.2.2.2.2.2.2.2.2.2.2.2.2.2.2.2.2.2.2.2.2.2.2.2.2.2.2.2.2.2.2.2.2.2.2.2.2.2.2.2.2.2.2.2.2.2.2.2.2.2.2.2.2.2.2.2.2.2.2.2.2.2.2.2.2.2.2.2.2.2.2.2.2.2.2.2.2.2.2.2.2.2.2.2.2.2.2.2.2.2.2.2.2.2.2.2.2.2.2.2.2.2.2.2.2.2.2.2.2.2.2.2.2.2.2.2.2.2.2.2.2.2.2.2.2.2.2.2.2.2.2.2.2.2.2.2.2.2.2.1
theorem F_W_x (w : World) : takerIn (KF w.params) 1428 "x" = some none := (facts w).2.2.2.2.2.2.2.2.2.2.2.2.2.2.2.2.2.2.2.2.2.2.2.2.2.2.2.2.2.2.2.2.2.2.2.2.2.2.2.2.2.2.2.2.2.2.2.2.2.2.2.2.2.2.2.2.2.2.2.2.2.2.2.2.2.2.2.2.2.2.2.2.2.2.2.2.2.2.2.2.2.2.2.2.2.2.2.2.2.2.2.2.2.2.2.2.2.2.2.2.2.2.2.2.2.2.2.2.2.2.2.2.2.2.2.2.2.2.2.2.2.2.2.2.2.2.2.2.2.2.2.2.2.2.2.2.2.2.2.2.2.2.2.2.2.2.2.2.2.2.2.2.2.2.2.2.2.2.2.2.2.2.2.2.2.2.2.2.2.2.2.2.2.2.2.2.2.2.1
theorem F_W_y (w : World) : takerIn (KF w.params) 1428 "y" = some none := (facts w).2.2.2.2.2.2.2.2.2.2.2.2.2.2.2.2.2.2.2.2.2.2.2.2.2.2.2.2.2.2.2.2.2.2.2.2.2.2.2.2.2.2.2.2.2.2.2.2.2.2.2.2.2.2.2.2.2.2.2.2.2.2.2.2.2.2.2.2.2.2.2.2.2.2.2.2.2.2.2.2.2.2.2.2.2.2.2.2.2.2.2.2.2.2.2.2.2.2.2.2.2.2.2.2.2.2.2.2.2.2.2.2.2.2.2.2.2.2.2.2.2.2.2.2.2.2.2.2.2.2.2.2.2.2.2.2.2.2.2.2.2.2.2.2.2.2.2.2.2.2.2.2.2.2.2.2.2.2.2.2.2.2.2.2.2.2.2.2.2.2.2.2.2.2.2.2.2.2.2.1
theorem F_W_p (w : World) : takerIn (KF w.params) 1428 "p" = some none := (facts w).2.2.2.2.2.2.2.2.2.2.2.2.2.2.2.2.2.2.2.2.2.2.2.2.2.2.2.2.2.2.2.2.2.2.2.2.2.2.2.2.2.2.2.2.2.2.2.2.2.2.2.2.2.2.2.2.2.2.2.2.2.2.2.2.2.2.2.2.2.2.2.2.2.2.2.2.2.2.2.2.2.2.2.2.2.2.2.2.2.2.2.2.2.2.2.2.2.2.2.2.2.2.2.2.2.2.2.2.2.2.2.2.2.2.2.2.2.2.2.2.2.2.2.2.2.2.2.2.2.2.2.2.2.2.2.2.2.2.2.2.2.2.2.2.2.2.2.2.2.2.2.2.2.2.2.2.2.2.2.2.2.2.2.2.2.2.2.2.2.2.2.2.2.2.2.2.2.2.2.2.1
theorem F_setattr (w : World) : findIn (KF w.params) (.ref 1428) "__setattr__" = some (some (.builtin "object.__setattr__")) := (facts w).2.2.2.2.2.2.2.2.2.2.2.2.2.2.2.2.2.2.2.2.2.2.2.2.2.2.2.2.2.2.2.2.2.2.2.2.2.2.2.2.2.2.2.2.2.2.2.2.2.2.2.2.2.2.2.2.2.2.2.2.2.2.2.2.2.2.2.2.2.2.2.2.2.2.2.2.2.2.2.2.2.2.2.2.2.2.2.2.2.2.2.2.2.2.2.2.2.2.2.2.2.2.2.2.2.2.2.2.2.2.2.2.2.2.2.2.2.2.2.2.2.2.2.2.2.2.2.2.2.2.2.2.2.2.2.2.2.2.2.2.2.2.2.2.2.2.2.2.2.2.2.2.2.2.2.2.2.2.2.2.2.2.2.2.2.2.2.2.2.2.2.2.2.2.2.2.2.2.2.2.2.1
theorem F_over (w : World) : plainOver (KF w.params) 1428 = true := (facts w).2.2.2.2.2.2.2.2.2.2.2.2.2.2.2.2.2.2.2.2.2.2.2.2.2.2.2.2.2.2.2.2.2.2.2.2.2.2.2.2.2.2.2.2.2.2.2.2.2.2.2.2.2.2.2.2.2.2.2.2.2.2.2.2.2.2.2.2.2.2.2.2.2.2.2.2.2.2.2.2.2.2.2.2.2.2.2.2.2.2.2.2.2.2.2.2.2.2.2.2.2.2.2.2.2.2.2.2.2.2.2.2.2.2.2.2.2.2.2.2.2.2.2.2.2.2.2.2.2.2.2.2.2.2.2.2.2.2.2.2.2.2.2.2.2.2.2.2.2.2.2.2.2.2.2.2.2.2.2.2.2.2.2.2.2.2.2.2.2.2.2.2.2.2.2.2.2.2.2.2.2.2.1
theorem F_hasDict (w : World) : hasDictIn (KF w.params) 1428 = true := (facts w).2.2.2.2.2.2.2.2.2.2.2.2.2.2.2.2.2.2.2.2.2.2.2.2.2.2.2.2.2.2.2.2.2.2.2.2.2.2.2.2.2.2.2.2.2.2.2.2.2.2.2.2.2.2.2.2.2.2.2.2.2.2.2.2.2.2.2.2.2.2.2.2.2.2.2.2.2.2.2.2.2.2.2.2.2.2.2.2.2.2.2.2.2.2.2.2.2.2.2.2.2.2.2.2.2.2.2.2.2.2.2.2.2.2.2.2.2.2.2.2.2.2.2.2.2.2.2.2.2.2.2.2.2.2.2.2.2.2.2.2.2.2.2.2.2.2.2.2.2.2.2.2.2.2.2.2.2.2.2.2.2.2.2.2.2.2.2.2.2.2.2.2.2.2.2.2.2.2.2.2.2.2.2.1
theorem F_noGet (w : World) : noGet (KF w.params) none = true := (facts w).2.2.2.2.2.2.2.2.2.2.2.2.2.2.2.2.2.2.2.2.2.2.2.2.2.2.2.2.2.2.2.2.2.2.2.2.2.2.2.2.2.2.2.2.2.2.2.2.2.2.2.2.2.2.2.2.2.2.2.2.2.2.2.2.2.2.2.2.2.2.2.2.2.2.2.2.2.2.2.2.2.2.2.2.2.2.2.2.2.2.2.2.2.2.2.2.2.2.2.2.2.2.2.2.2.2.2.2.2.2.2.2.2.2.2.2.2.2.2.2.2.2.2.2.2.2.2.2.2.2.2.2.2.2.2.2.2.2.2.2.2.2.2.2.2.2.2.2.2.2.2.2.2.2.2.2.2.2.2.2.2.2.2.2.2.2.2.2.2.2.2.2.2.2.2.2.2.2.2.2.2.2.2.2
end Mine
end
section
open PySem PySem.W PySem.Calls PyProof.Rows
set_option maxRecDepth 100000
set_option maxHeartbeats 4000000
namespace Mine
/-! ## a plain state of a call's frame: names, the machine's numbers, lists of ints -/
inductive AV where
  | int (i : Int)
  | val (v : Value)
noncomputable def AV.Is : AV → Value → Prop
  | .int i, v => ∃ t, v = .int i t
  | .val u, v => v = u
structure Raw where
  ex : Int
  cyc : Int
  pc : Int
  sp : Int
  a : Int
  x : Int
  y : Int
  p : Int
  ad : AV
noncomputable abbrev mq (I : Im) (r : Raw) (ad : Value) (t : Tk) : List DictEntry :=
  [⟨I.hs 0, .str "name" (I.ks 0), I.nm⟩, ⟨I.hs 1, .str "byteMask" (I.ks 1), .int 255 (I.tk 0)⟩, ⟨I.hs 2, .str "addrMask" (I.ks 2), .int 65535 (I.tk 1)⟩, ⟨I.hs 3, .str "addrHighMask" (I.ks 3), .int 65280 (I.tk 2)⟩, ⟨I.hs 4, .str "spBase" (I.ks 4), .int 256 (I.tk 3)⟩,
   ⟨I.hs 5, .str "excycles" (I.ks 5), .int r.ex t.e⟩, ⟨I.hs 6, .str "addcycles" (I.ks 6), ad⟩, ⟨I.hs 7, .str "processorCycles" (I.ks 7), .int r.cyc t.c⟩, ⟨I.hs 8, .str "memory" (I.ks 8), .ref I.r⟩, ⟨I.hs 9, .str "start_pc" (I.ks 9), I.spc⟩,
   ⟨I.hs 10, .str "pc" (I.ks 10), .int r.pc t.pc⟩, ⟨I.hs 11, .str "sp" (I.ks 11), .int r.sp t.sp⟩, ⟨I.hs 12, .str "a" (I.ks 12), .int r.a t.a⟩, ⟨I.hs 13, .str "x" (I.ks 13), .int r.x t.x⟩, ⟨I.hs 14, .str "y" (I.ks 14), .int r.y t.y⟩, ⟨I.hs 15, .str "p" (I.ks 15), .int r.p t.p⟩]
inductive LsAre : List (Addr × List Int) → List (Addr × Obj) → Prop
  | nil : LsAre [] []
  | cons {a : Addr} {vs : List Value} {ns : List Int} {l : List (Addr × List Int)} {o : List (Addr × Obj)} : IntsAre vs ns → LsAre l o → LsAre ((a, ns) :: l) ((a, listOf vs.toArray 0) :: o)
noncomputable def Sepa (I : Im) (rest : List (Addr × Obj)) (as : List Addr) : Prop := (I.x :: I.d :: as).Nodup ∧ ∀ p ∈ rest, ∀ b ∈ I.x :: I.d :: as, p.1 ≠ b
structure Sg where
  loc : List (Str × AV)
  r : Raw
  ls : List (Addr × List Int)
structure Cx where
  h₀ : Heap
  L : Addr
  A₀ : Around
  A : Around
  base : Heap
  outer : List Env
  top : Env
  qual : Str
  f : Addr
  cd : Value
  p : Program
  loose : List Str
  mean : ExcName → Option Value
  mg : Str → Option Value
  mb : Str → Option Value
  gens : Array GenState
  drawn : Drawn
  os : OsState
  m0 : Str → Option Value
noncomputable abbrev Cx.env (c : Cx) (sc : Scope) : Env := envOf c.qual sc c.L c.f c.cd
structure Cx.Ok (c : Cx) (w : World) (sc : Scope) (k : Nat) : Prop where
  B : Below c.A₀ c.base c.outer c.h₀
  X : (KF w.params).In c.h₀
  T : Top c.p c.loose c.mean c.mg c.mb c.h₀
  hA : c.A.frames = some (c.top :: c.outer)
  hf : c.top.frame = some c.L
  ht : c.top.scope.kind = .function
  hk : sc.kind = .function
  room : c.A.depth + k < recursionLimit
noncomputable def LocOk (m0 : Str → Option Value) (l : List (Str × AV)) (m : Str → Option Value) : Prop := (∀ x a, l.lookup x = some a → ∃ v, m x = some v ∧ a.Is v) ∧ ∀ x, l.lookup x = none → m x = m0 x
noncomputable def Led (I : Im) (rest : List (Addr × Obj)) (r : Raw) (ls : List (Addr × List Int)) (h₀ : Heap) (L : Addr) (h : Heap) : Prop :=
  Sepa I rest (ls.map (·.1)) ∧ ∃ (t : Tk) (ad : Value) (os : List (Addr × Obj)), r.ad.Is ad ∧ LsAre ls os ∧ News h₀ L h ((I.x, instObj 1428 I.d) :: (I.d, dictOf (mq I r ad t) 16) :: (os ++ rest))
structure Rel (I : Im) (rest : List (Addr × Obj)) (c : Cx) (σ : Sg) (s : Shared) : Prop where
  gens : s.gens = c.gens
  drawn : s.drawn = c.drawn
  os : s.os = c.os
  fr : ∃ m, Fr c.h₀ c.L s.heap m ∧ LocOk c.m0 σ.loc m
  led : Led I rest σ.r σ.ls c.h₀ c.L s.heap
noncomputable abbrev MD (w : World) : Model := model PySem.Challenge.rw_im0103_01.row.prog w
theorem Rel.at {I : Im} {rest : List (Addr × Obj)} {c : Cx} {σ : Sg} {s s' : Shared} (R : Rel I rest c σ s) (h : s'.heap = s.heap := by rfl) (h1 : s'.gens = s.gens := by rfl) (h2 : s'.drawn = s.drawn := by rfl) (h3 : s'.os = s.os := by rfl) : Rel I rest c σ s' :=
  ⟨h1.trans R.gens, h2.trans R.drawn, h3.trans R.os, by rw [h]; exact R.fr, by rw [h]; exact R.led⟩
section
variable (w : World) (I : Im) (rest : List (Addr × Obj)) (sc : Scope) (c : Cx)
noncomputable def Ev (e : Expr) (σ : Sg) (K : AV → Sg → Prop) : Prop := ∀ (Q : Value → Shared → Prop) (E : Value → Shared → Prop) (s : Shared), Rel I rest c σ s →
  (∀ v a σ' s', K a σ' → a.Is v → Rel I rest c σ' s' → Q v s') → wpAny (MD w) c.A (eval e (c.env sc)) Q E s
noncomputable def Ts (e : Expr) (σ : Sg) (K : Bool → Sg → Prop) : Prop := ∀ (Q : Bool → Shared → Prop) (E : Value → Shared → Prop) (s : Shared), Rel I rest c σ s →
  (∀ b σ' s', K b σ' → Rel I rest c σ' s' → Q b s') → wpAny (MD w) c.A (PySem.isTrue e (c.env sc) (eval e (c.env sc))) Q E s
noncomputable def Ex (st : Stmt) (σ : Sg) (Kn : Sg → Prop) (Kr : AV → Sg → Prop) : Prop := ∀ (Q : Flow → Shared → Prop) (E : Value → Shared → Prop) (s : Shared), Rel I rest c σ s →
  (∀ σ' s', Kn σ' → Rel I rest c σ' s' → Q .next s') → (∀ v a σ' s', Kr a σ' → a.Is v → Rel I rest c σ' s' → Q (.ret v) s') → wpAny (MD w) c.A (exec st (c.env sc)) Q E s
noncomputable def Exs (l : List Stmt) (σ : Sg) (Kn : Sg → Prop) (Kr : AV → Sg → Prop) : Prop := ∀ (Q : Flow → Shared → Prop) (E : Value → Shared → Prop) (s : Shared), Rel I rest c σ s →
  (∀ σ' s', Kn σ' → Rel I rest c σ' s' → Q .next s') → (∀ v a σ' s', Kr a σ' → a.Is v → Rel I rest c σ' s' → Q (.ret v) s') → wpAny (MD w) c.A (execs l (c.env sc)) Q E s
inductive IsAll : List AV → List Value → Prop
  | nil : IsAll [] []
  | cons {a v as vs} : AV.Is a v → IsAll as vs → IsAll (a :: as) (v :: vs)
noncomputable def Cal (fn : Addr) (as : List AV) (σ : Sg) (K : AV → Sg → Prop) : Prop := ∀ (vs : List Value) (R : Result → Shared → Prop) (s : Shared) (m : Str → Option Value), IsAll as vs → Fr c.h₀ c.L s.heap m → LocOk c.m0 σ.loc m → Rel I rest c σ s →
  (∀ v a σ' s', K a σ' → a.Is v → Fr c.h₀ c.L s'.heap m → Rel I rest c σ' s' → R (.ok (.ret v)) s') → codeAny (MD w) c.A (.call (.ref fn) ⟨vs, []⟩) R s
end
section
variable {w : World} {I : Im} {rest : List (Addr × Obj)} {sc : Scope} {c : Cx} {n : Nat} {σ : Sg}
theorem Rel.K {s : Shared} (R : Rel I rest c σ s) (O : c.Ok w sc n) : (KF w.params).In s.heap := by
  obtain ⟨m, F, _⟩ := R.fr
  exact O.X.keeps F.keep
theorem ev_name {x : Str} {pos : Pos} {a : AV} {K : AV → Sg → Prop} (O : c.Ok w sc n) (hl : σ.loc.lookup x = some a) (h : K a σ) (hk : (c.env sc).kindOf x = some .local := by rfl) (hd : (x == ("__debug__" : Str)) = false := by rfl) : Ev w I rest sc c (.Name x pos) σ K := by
  intro Q E s R k
  obtain ⟨m, F, lo⟩ := R.fr
  obtain ⟨v, hm, hv⟩ := lo.1 _ _ hl
  exact ld F hm (k v a σ s h hv R) O.hk hk hd
theorem ev_nameI {x : Str} {pos : Pos} {i : Int} {t : Tok} {K : AV → Sg → Prop} (O : c.Ok w sc n) (hl : σ.loc.lookup x = some (.val (.int i t))) (h : K (.int i) σ) (hk : (c.env sc).kindOf x = some .local := by rfl) (hd : (x == ("__debug__" : Str)) = false := by rfl) : Ev w I rest sc c (.Name x pos) σ K :=
  fun Q E s R k => ev_name (K := fun a σ' => a = .val (.int i t) ∧ σ' = σ) O hl ⟨rfl, rfl⟩ hk hd Q E s R fun v a σ' s' q hv R' => by
    obtain ⟨rfl, rfl⟩ := q
    exact k v (.int i) _ s' h ⟨t, hv⟩ R'
theorem ev_int {i : Int} {kk : Nat} {pos : Pos} {K : AV → Sg → Prop} (h : K (.int i) σ) : Ev w I rest sc c (.Constant (.int i) kk pos) σ K :=
  fun Q E s R k => wpAny_Constant_int (k _ _ σ _ h ⟨_, rfl⟩ R.at)
theorem ev_none {kk : Nat} {pos : Pos} {K : AV → Sg → Prop} (h : K (.val .none) σ) : Ev w I rest sc c (.Constant .none kk pos) σ K :=
  fun Q E s R k => wpAny_Constant_none (k _ _ σ _ h rfl R)
/-- a word of two ints -/
noncomputable def KI (P : Int → Int → Prop) (f : Int → Int → Int) (K : AV → Sg → Prop) : AV → AV → Sg → Prop
  | .int i, .int j, σ => P i j ∧ K (.int (f i j)) σ
  | _, _, _ => False
theorem ki {P : Int → Int → Prop} {f : Int → Int → Int} {K : AV → Sg → Prop} {i j : Int} (p : P i j) (h : K (.int (f i j)) σ) : KI P f K (.int i) (.int j) σ := ⟨p, h⟩
noncomputable abbrev pT : Int → Int → Prop := fun _ _ => True
theorem ki' {f : Int → Int → Int} {K : AV → Sg → Prop} {i j : Int} (h : K (.int (f i j)) σ) : KI pT f K (.int i) (.int j) σ := ⟨trivial, h⟩
theorem ev_bin {op : Operator} {P : Int → Int → Prop} {f : Int → Int → Int} {l r : Expr} {pos : Pos} {K : AV → Sg → Prop}
    (hop : ∀ {A : Around} {E : Value → Shared → Prop} {s : Shared} {a b : Int} {t u : Tok} {Q : Value → Shared → Prop}, P a b → Q (.int (f a b) s.toks) { s with toks := s.toks + 1 } → wpAny (MD w) A (binaryOp op (.int a t) (.int b u)) Q E s)
    (h : Ev w I rest sc c l σ fun a σ1 => Ev w I rest sc c r σ1 fun b σ2 => KI P f K a b σ2) : Ev w I rest sc c (.BinOp l op r pos) σ K := by
  intro Q E s R k
  refine wpAny_BinOp (h _ _ _ R fun v a σ1 s1 h1 hv R1 => h1 _ _ _ R1 fun v2 b σ2 s2 h2 hv2 R2 => ?_)
  cases a with
  | val _ => exact h2.elim
  | int i =>
    cases b with
    | val _ => exact h2.elim
    | int j =>
      obtain ⟨t, rfl⟩ := hv
      obtain ⟨u, rfl⟩ := hv2
      exact hop h2.1 (k _ _ _ _ h2.2 ⟨_, rfl⟩ R2.at)
section
variable {l r : Expr} {pos : Pos} {K : AV → Sg → Prop}
theorem ev_and (h : Ev w I rest sc c l σ fun a σ1 => Ev w I rest sc c r σ1 fun b σ2 => KI pT Builtin.bitAnd K a b σ2) : Ev w I rest sc c (.BinOp l .BitAnd r pos) σ K := ev_bin (fun _ h => and_int h) h
theorem ev_or (h : Ev w I rest sc c l σ fun a σ1 => Ev w I rest sc c r σ1 fun b σ2 => KI pT Builtin.bitOr K a b σ2) : Ev w I rest sc c (.BinOp l .BitOr r pos) σ K := ev_bin (fun _ h => or_int h) h
theorem ev_xor (h : Ev w I rest sc c l σ fun a σ1 => Ev w I rest sc c r σ1 fun b σ2 => KI pT Builtin.bitXor K a b σ2) : Ev w I rest sc c (.BinOp l .BitXor r pos) σ K := ev_bin (fun _ h => xor_int h) h
theorem ev_add (h : Ev w I rest sc c l σ fun a σ1 => Ev w I rest sc c r σ1 fun b σ2 => KI pT HAdd.hAdd K a b σ2) : Ev w I rest sc c (.BinOp l .Add r pos) σ K := ev_bin (fun _ h => add_int h) h
theorem ev_sub (h : Ev w I rest sc c l σ fun a σ1 => Ev w I rest sc c r σ1 fun b σ2 => KI pT HSub.hSub K a b σ2) : Ev w I rest sc c (.BinOp l .Sub r pos) σ K := ev_bin (fun _ h => sub_int h) h
theorem ev_shl (h : Ev w I rest sc c l σ fun a σ1 => Ev w I rest sc c r σ1 fun b σ2 => KI (fun a n => 0 ≤ n ∧ (Builtin.Int.intBits a : Int) + n ≤ 2 ^ 27) (fun a n => a * 2 ^ n.toNat) K a b σ2) : Ev w I rest sc c (.BinOp l .LShift r pos) σ K := ev_bin (fun p h => lshift_int p.1 p.2 h) h
theorem ev_shr (h : Ev w I rest sc c l σ fun a σ1 => Ev w I rest sc c r σ1 fun b σ2 => KI (fun _ n => 0 ≤ n) (fun a n => a.fdiv (2 ^ n.toNat)) K a b σ2) : Ev w I rest sc c (.BinOp l .RShift r pos) σ K := ev_bin (fun p h => rshift_int p h) h
theorem ev_mod (h : Ev w I rest sc c l σ fun a σ1 => Ev w I rest sc c r σ1 fun b σ2 => KI (fun _ n => n ≠ 0) Int.fmod K a b σ2) : Ev w I rest sc c (.BinOp l .Mod r pos) σ K := ev_bin (fun p h => mod_int' p h) h
end
noncomputable def KU (f : Int → Int) (K : AV → Sg → Prop) : AV → Sg → Prop
  | .int i, σ => K (.int (f i)) σ
  | _, _ => False
theorem ku {f : Int → Int} {K : AV → Sg → Prop} {i : Int} (h : K (.int (f i)) σ) : KU f K (.int i) σ := h
theorem ev_inv {x : Expr} {pos : Pos} {K : AV → Sg → Prop} (h : Ev w I rest sc c x σ fun a σ1 => KU Builtin.bitNot K a σ1) : Ev w I rest sc c (.UnaryOp .Invert x pos) σ K := by
  intro Q E s R k
  refine UnaryOp_ (h _ _ _ R fun v a σ1 s1 h1 hv R1 => ?_)
  cases a with
  | val _ => exact h1.elim
  | int i => obtain ⟨t, rfl⟩ := hv; exact invert_int (k _ _ _ _ h1 ⟨_, rfl⟩ R1.at)
theorem ev_neg {x : Expr} {pos : Pos} {K : AV → Sg → Prop} (h : Ev w I rest sc c x σ fun a σ1 => KU Neg.neg K a σ1) : Ev w I rest sc c (.UnaryOp .USub x pos) σ K := by
  intro Q E s R k
  refine UnaryOp_ (h _ _ _ R fun v a σ1 s1 h1 hv R1 => ?_)
  cases a with
  | val _ => exact h1.elim
  | int i => obtain ⟨t, rfl⟩ := hv; exact neg_int (k _ _ _ _ h1 ⟨_, rfl⟩ R1.at)
/-! the machine's attributes -/
theorem inst_at {s : Shared} {ad : Value} {t : Tk} {os : List (Addr × Obj)} (N : News c.h₀ c.L s.heap ((I.x, instObj 1428 I.d) :: (I.d, dictOf (mq I σ.r ad t) 16) :: (os ++ rest))) :
    W.InstAt s.heap I.x (instObj 1428 I.d) 1428 (some (dictOf (mq I σ.r ad t) 16)) := InstAt.of_news N (.head _) (.tail _ (.head _))
theorem attr_own {name : Str} {a : AV} {s : Shared} {Q : Value → Shared → Prop} {E : Value → Shared → Prop} {e : Bool} (O : c.Ok w sc n) (ha : findIn (KF w.params) (.ref 1428) name = some none)
    (hg : ∀ ad t, σ.r.ad.Is ad → ∃ v, getL name (mq I σ.r ad t) = some (some v) ∧ handedIn v = true ∧ a.Is v) (R : Rel I rest c σ s) (k : ∀ v s', a.Is v → Rel I rest c σ s' → Q v s') : wpAny (MD w) c.A (getAttr (.ref I.x) name e) Q E s := by
  obtain ⟨m, F, lo⟩ := R.fr
  obtain ⟨_, t, ad, os, had, _, N⟩ := R.led
  obtain ⟨v, h1, h2, h3⟩ := hg ad t had
  exact get_own F O.X (inst_at N) (F_plain _ _) (F_hasDict _) ha (F_noGet _) h1 h2 (k v _ h3 R.at)
theorem attr_cls {name : Str} {u : Value} {s : Shared} {Q : Value → Shared → Prop} {E : Value → Shared → Prop} {e : Bool} (O : c.Ok w sc n) (ha : findIn (KF w.params) (.ref 1428) name = some (some u)) (hs : specialIn (KF w.params) u "__get__" = some none)
    (hv : handedIn u = true) (hc : copiedNames.contains name = false) (hl : ∀ ad t, getL name (mq I σ.r ad t) = some none) (R : Rel I rest c σ s) (k : ∀ s', Rel I rest c σ s' → Q u s') : wpAny (MD w) c.A (getAttr (.ref I.x) name e) Q E s := by
  obtain ⟨m, F, lo⟩ := R.fr
  obtain ⟨_, t, ad, os, had, _, N⟩ := R.led
  exact get_cls F O.X (inst_at N) (F_plain _ _) (F_hasDict _) ha hs hv hc (hl ad t) (k _ R.at)
theorem ev_self {o : Str} {name : Str} {op pos : Pos} {K : AV → Sg → Prop} {a : AV} (O : c.Ok w sc n)
    (ga : ∀ {s : Shared} {Q : Value → Shared → Prop} {E : Value → Shared → Prop} {e : Bool}, Rel I rest c σ s → (∀ v s', a.Is v → Rel I rest c σ s' → Q v s') → wpAny (MD w) c.A (getAttr (.ref I.x) name e) Q E s)
    (hx : σ.loc.lookup o = some (.val (.ref I.x))) (h : K a σ) (hk : (c.env sc).kindOf o = some .local := by rfl) (hd : (o == ("__debug__" : Str)) = false := by rfl) : Ev w I rest sc c (.Attribute (.Name o op) name pos) σ K := by
  intro Q E s R k
  refine Attribute_Name_ (ev_name (K := fun a σ' => a = .val (.ref I.x) ∧ σ' = σ) O hx ⟨rfl, rfl⟩ hk hd _ _ _ R fun v b σ' s' q hv R' => ?_)
  obtain ⟨rfl, rfl⟩ := q
  subst hv
  exact ga R' fun v s'' h1 R1 => k v a _ s'' h h1 R1
end
end Mine
end
section
open PySem PySem.W PySem.Calls PyProof.Rows
set_option maxRecDepth 100000
set_option maxHeartbeats 4000000
namespace Mine
section
variable {w : World} {I : Im} {rest : List (Addr × Obj)} {sc : Scope} {c : Cx} {n : Nat} {σ : Sg}
/-! the machine's own numbers -/
inductive Fld | ex | cyc | pc | sp | a | x | y | p
noncomputable abbrev Fld.nm : Fld → Str
  | .ex => "excycles" | .cyc => "processorCycles" | .pc => "pc" | .sp => "sp" | .a => "a" | .x => "x" | .y => "y" | .p => "p"
noncomputable def Fld.get : Fld → Raw → Int
  | .ex, r => r.ex | .cyc, r => r.cyc | .pc, r => r.pc | .sp, r => r.sp | .a, r => r.a | .x, r => r.x | .y, r => r.y | .p, r => r.p
noncomputable def Fld.set : Fld → Int → Raw → Raw
  | .ex, i, r => { r with ex := i } | .cyc, i, r => { r with cyc := i } | .pc, i, r => { r with pc := i } | .sp, i, r => { r with sp := i }
  | .a, i, r => { r with a := i } | .x, i, r => { r with x := i } | .y, i, r => { r with y := i } | .p, i, r => { r with p := i }
theorem Fld.find (f : Fld) (w : World) : findIn (KF w.params) (.ref 1428) f.nm = some none := by
  cases f
  · exact F_A_excycles w
  · exact F_A_processorCycles w
  · exact F_A_pc w
  · exact F_A_sp w
  · exact F_A_a w
  · exact F_A_x w
  · exact F_A_y w
  · exact F_A_p w
theorem Fld.take (f : Fld) (w : World) : takerIn (KF w.params) 1428 f.nm = some none := by
  cases f
  · exact F_W_excycles w
  · exact F_W_processorCycles w
  · exact F_W_pc w
  · exact F_W_sp w
  · exact F_W_a w
  · exact F_W_x w
  · exact F_W_y w
  · exact F_W_p w
theorem Fld.look (f : Fld) (I : Im) (r : Raw) (ad : Value) (t : Tk) : ∃ v, getL f.nm (mq I r ad t) = some (some v) ∧ handedIn v = true ∧ (AV.int (f.get r)).Is v := by
  cases f <;> exact ⟨_, by rfl, rfl, ⟨_, rfl⟩⟩
theorem Fld.put (f : Fld) (I : Im) (r : Raw) (ad : Value) (t : Tk) (hsh : Int) (key : Value) (i : Int) (u : Tok) : ∃ t', (putL f.nm hsh key (.int i u) (mq I r ad t), putN f.nm (mq I r ad t) 16) = (mq I (f.set i r) ad t', 16) := by
  cases f
  · exact ⟨{ t with e := u }, by rfl⟩
  · exact ⟨{ t with c := u }, by rfl⟩
  · exact ⟨{ t with pc := u }, by rfl⟩
  · exact ⟨{ t with sp := u }, by rfl⟩
  · exact ⟨{ t with a := u }, by rfl⟩
  · exact ⟨{ t with x := u }, by rfl⟩
  · exact ⟨{ t with y := u }, by rfl⟩
  · exact ⟨{ t with p := u }, by rfl⟩
theorem Fld.set_ad (f : Fld) (i : Int) (r : Raw) : (f.set i r).ad = r.ad := by cases f <;> rfl
theorem LsAre.addr {ls : List (Addr × List Int)} {os : List (Addr × Obj)} (h : LsAre ls os) : ∀ p ∈ os, p.1 ∈ ls.map (·.1) := by
  induction h with
  | nil => intro p hp; cases hp
  | cons _ _ ih =>
    intro p hp
    rcases List.mem_cons.mp hp with rfl | hp
    · exact .head _
    · exact .tail _ (ih p hp)
theorem get_fld (f : Fld) {s : Shared} {Q : Value → Shared → Prop} {E : Value → Shared → Prop} {e : Bool} (O : c.Ok w sc n) (R : Rel I rest c σ s) (k : ∀ v s', (AV.int (f.get σ.r)).Is v → Rel I rest c σ s' → Q v s') :
    wpAny (MD w) c.A (getAttr (.ref I.x) f.nm e) Q E s := attr_own O (f.find w) (fun ad t _ => f.look I σ.r ad t) R k
theorem set_fld (f : Fld) {s : Shared} {i : Int} {u : Tok} {Q : Unit → Shared → Prop} {E : Value → Shared → Prop} (O : c.Ok w sc n) (R : Rel I rest c σ s) (k : ∀ s', Rel I rest c { σ with r := f.set i σ.r } s' → Q () s') :
    wpAny (MD w) c.A (setAttr (.ref I.x) f.nm (.int i u)) Q E s := by
  obtain ⟨m, F, lo⟩ := R.fr
  obtain ⟨hs, t, ad, os, had, hl, N⟩ := R.led
  obtain ⟨t', ht⟩ := f.put I σ.r ad t (PyData.keyHash w.params f.nm) (.str f.nm (s.toks + 1)) i u
  have hxd : I.x ≠ I.d := fun q => (List.nodup_cons.mp hs.1).1 (q ▸ .head _)
  have hnd := (List.nodup_cons.mp (List.nodup_cons.mp hs.1).2).1
  have hos : ∀ p ∈ os ++ rest, p.1 ≠ I.d := by
    intro p hp
    rcases List.mem_append.mp hp with h | h
    · intro q
      exact hnd (q ▸ hl.addr p h)
    · exact hs.2 p h _ (.tail _ (.head _))
  refine set_dict F O.X N (inst_at N) rfl (F_setattr w) (F_over w) (f.take w) (F_hasDict w) ?_ ht (.tail hxd (.head hos)) ?_ fun h' F' N' => k _ ⟨R.gens, R.drawn, R.os, ⟨m, F', lo⟩, hs, t', ad, os, by rw [f.set_ad]; exact had, hl, N'⟩
  · obtain ⟨v, hv, _⟩ := f.look I σ.r ad t
    rw [hv]; rfl
  · exact Nat.le_of_ble_eq_true rfl
end
end Mine
end
section
open PySem PySem.W PySem.Calls PyProof.Rows
set_option maxRecDepth 100000
set_option maxHeartbeats 4000000
namespace Mine
section
variable {w : World} {I : Im} {rest : List (Addr × Obj)} {sc : Scope} {c : Cx} {n : Nat} {σ : Sg}
section
variable {o : Str} {op pos : Pos} {K : AV → Sg → Prop}
theorem ev_ex (O : c.Ok w sc n) (hx : σ.loc.lookup o = some (.val (.ref I.x))) (h : K (.int σ.r.ex) σ) (hk : (c.env sc).kindOf o = some .local := by rfl) (hd : (o == ("__debug__" : Str)) = false := by rfl) : Ev w I rest sc c (.Attribute (.Name o op) "excycles" pos) σ K := ev_self O (fun R k => get_fld .ex O R k) hx h hk hd
theorem ev_cyc (O : c.Ok w sc n) (hx : σ.loc.lookup o = some (.val (.ref I.x))) (h : K (.int σ.r.cyc) σ) (hk : (c.env sc).kindOf o = some .local := by rfl) (hd : (o == ("__debug__" : Str)) = false := by rfl) : Ev w I rest sc c (.Attribute (.Name o op) "processorCycles" pos) σ K := ev_self O (fun R k => get_fld .cyc O R k) hx h hk hd
theorem ev_pc (O : c.Ok w sc n) (hx : σ.loc.lookup o = some (.val (.ref I.x))) (h : K (.int σ.r.pc) σ) (hk : (c.env sc).kindOf o = some .local := by rfl) (hd : (o == ("__debug__" : Str)) = false := by rfl) : Ev w I rest sc c (.Attribute (.Name o op) "pc" pos) σ K := ev_self O (fun R k => get_fld .pc O R k) hx h hk hd
theorem ev_sp (O : c.Ok w sc n) (hx : σ.loc.lookup o = some (.val (.ref I.x))) (h : K (.int σ.r.sp) σ) (hk : (c.env sc).kindOf o = some .local := by rfl) (hd : (o == ("__debug__" : Str)) = false := by rfl) : Ev w I rest sc c (.Attribute (.Name o op) "sp" pos) σ K := ev_self O (fun R k => get_fld .sp O R k) hx h hk hd
theorem ev_a (O : c.Ok w sc n) (hx : σ.loc.lookup o = some (.val (.ref I.x))) (h : K (.int σ.r.a) σ) (hk : (c.env sc).kindOf o = some .local := by rfl) (hd : (o == ("__debug__" : Str)) = false := by rfl) : Ev w I rest sc c (.Attribute (.Name o op) "a" pos) σ K := ev_self O (fun R k => get_fld .a O R k) hx h hk hd
theorem ev_x (O : c.Ok w sc n) (hx : σ.loc.lookup o = some (.val (.ref I.x))) (h : K (.int σ.r.x) σ) (hk : (c.env sc).kindOf o = some .local := by rfl) (hd : (o == ("__debug__" : Str)) = false := by rfl) : Ev w I rest sc c (.Attribute (.Name o op) "x" pos) σ K := ev_self O (fun R k => get_fld .x O R k) hx h hk hd
theorem ev_y (O : c.Ok w sc n) (hx : σ.loc.lookup o = some (.val (.ref I.x))) (h : K (.int σ.r.y) σ) (hk : (c.env sc).kindOf o = some .local := by rfl) (hd : (o == ("__debug__" : Str)) = false := by rfl) : Ev w I rest sc c (.Attribute (.Name o op) "y" pos) σ K := ev_self O (fun R k => get_fld .y O R k) hx h hk hd
theorem ev_p (O : c.Ok w sc n) (hx : σ.loc.lookup o = some (.val (.ref I.x))) (h : K (.int σ.r.p) σ) (hk : (c.env sc).kindOf o = some .local := by rfl) (hd : (o == ("__debug__" : Str)) = false := by rfl) : Ev w I rest sc c (.Attribute (.Name o op) "p" pos) σ K := ev_self O (fun R k => get_fld .p O R k) hx h hk hd
theorem ev_bm (O : c.Ok w sc n) (hx : σ.loc.lookup o = some (.val (.ref I.x))) (h : K (.int 255) σ) (hk : (c.env sc).kindOf o = some .local := by rfl) (hd : (o == ("__debug__" : Str)) = false := by rfl) : Ev w I rest sc c (.Attribute (.Name o op) "byteMask" pos) σ K := ev_self (a := .int 255) O (fun {s Q E e} R k => attr_own (a := .int 255) O (F_A_byteMask w) (fun ad t _ => ⟨_, by rfl, rfl, ⟨_, rfl⟩⟩) R k) hx h hk hd
theorem ev_am (O : c.Ok w sc n) (hx : σ.loc.lookup o = some (.val (.ref I.x))) (h : K (.int 65535) σ) (hk : (c.env sc).kindOf o = some .local := by rfl) (hd : (o == ("__debug__" : Str)) = false := by rfl) : Ev w I rest sc c (.Attribute (.Name o op) "addrMask" pos) σ K := ev_self (a := .int 65535) O (fun {s Q E e} R k => attr_own (a := .int 65535) O (F_A_addrMask w) (fun ad t _ => ⟨_, by rfl, rfl, ⟨_, rfl⟩⟩) R k) hx h hk hd
theorem ev_ah (O : c.Ok w sc n) (hx : σ.loc.lookup o = some (.val (.ref I.x))) (h : K (.int 65280) σ) (hk : (c.env sc).kindOf o = some .local := by rfl) (hd : (o == ("__debug__" : Str)) = false := by rfl) : Ev w I rest sc c (.Attribute (.Name o op) "addrHighMask" pos) σ K := ev_self (a := .int 65280) O (fun {s Q E e} R k => attr_own (a := .int 65280) O (F_A_addrHighMask w) (fun ad t _ => ⟨_, by rfl, rfl, ⟨_, rfl⟩⟩) R k) hx h hk hd
theorem ev_sb (O : c.Ok w sc n) (hx : σ.loc.lookup o = some (.val (.ref I.x))) (h : K (.int 256) σ) (hk : (c.env sc).kindOf o = some .local := by rfl) (hd : (o == ("__debug__" : Str)) = false := by rfl) : Ev w I rest sc c (.Attribute (.Name o op) "spBase" pos) σ K := ev_self (a := .int 256) O (fun {s Q E e} R k => attr_own (a := .int 256) O (F_A_spBase w) (fun ad t _ => ⟨_, by rfl, rfl, ⟨_, rfl⟩⟩) R k) hx h hk hd
theorem ev_mem (O : c.Ok w sc n) (hx : σ.loc.lookup o = some (.val (.ref I.x))) (h : K (.val (.ref I.r)) σ) (hk : (c.env sc).kindOf o = some .local := by rfl) (hd : (o == ("__debug__" : Str)) = false := by rfl) : Ev w I rest sc c (.Attribute (.Name o op) "memory" pos) σ K := ev_self (a := .val (.ref I.r)) O (fun {s Q E e} R k => attr_own (a := .val (.ref I.r)) O (F_A_memory w) (fun ad t _ => ⟨_, by rfl, rfl, rfl⟩) R k) hx h hk hd
theorem ev_ad {i : Int} {tt : Tok} (O : c.Ok w sc n) (hx : σ.loc.lookup o = some (.val (.ref I.x))) (ha : σ.r.ad = .val (.int i tt)) (h : K (.int i) σ) (hk : (c.env sc).kindOf o = some .local := by rfl) (hd : (o == ("__debug__" : Str)) = false := by rfl) : Ev w I rest sc c (.Attribute (.Name o op) "addcycles" pos) σ K := ev_self (a := .int i) O (fun {s Q E e} R k => attr_own (a := .int i) O (F_A_addcycles w) (fun ad t q => by rw [ha] at q; obtain rfl : ad = .int i tt := q; exact ⟨_, by rfl, rfl, ⟨_, rfl⟩⟩) R k) hx h hk hd
theorem ev_NEGATIVE (O : c.Ok w sc n) (hx : σ.loc.lookup o = some (.val (.ref I.x))) (h : K (.int 128) σ) (hk : (c.env sc).kindOf o = some .local := by rfl) (hd : (o == ("__debug__" : Str)) = false := by rfl) : Ev w I rest sc c (.Attribute (.Name o op) "NEGATIVE" pos) σ K := ev_self (a := .int 128) O (fun R k => attr_cls O (F_C_NEGATIVE w) (F_S_NEGATIVE w) rfl (by decide +kernel) (fun ad t => by rfl) R fun s' R1 => k _ _ (show (AV.int 128).Is _ from ⟨_, rfl⟩) R1) hx h hk hd
theorem ev_OVERFLOW (O : c.Ok w sc n) (hx : σ.loc.lookup o = some (.val (.ref I.x))) (h : K (.int 64) σ) (hk : (c.env sc).kindOf o = some .local := by rfl) (hd : (o == ("__debug__" : Str)) = false := by rfl) : Ev w I rest sc c (.Attribute (.Name o op) "OVERFLOW" pos) σ K := ev_self (a := .int 64) O (fun R k => attr_cls O (F_C_OVERFLOW w) (F_S_OVERFLOW w) rfl (by decide +kernel) (fun ad t => by rfl) R fun s' R1 => k _ _ (show (AV.int 64).Is _ from ⟨_, rfl⟩) R1) hx h hk hd
theorem ev_UNUSED (O : c.Ok w sc n) (hx : σ.loc.lookup o = some (.val (.ref I.x))) (h : K (.int 32) σ) (hk : (c.env sc).kindOf o = some .local := by rfl) (hd : (o == ("__debug__" : Str)) = false := by rfl) : Ev w I rest sc c (.Attribute (.Name o op) "UNUSED" pos) σ K := ev_self (a := .int 32) O (fun R k => attr_cls O (F_C_UNUSED w) (F_S_UNUSED w) rfl (by decide +kernel) (fun ad t => by rfl) R fun s' R1 => k _ _ (show (AV.int 32).Is _ from ⟨_, rfl⟩) R1) hx h hk hd
theorem ev_BREAK (O : c.Ok w sc n) (hx : σ.loc.lookup o = some (.val (.ref I.x))) (h : K (.int 16) σ) (hk : (c.env sc).kindOf o = some .local := by rfl) (hd : (o == ("__debug__" : Str)) = false := by rfl) : Ev w I rest sc c (.Attribute (.Name o op) "BREAK" pos) σ K := ev_self (a := .int 16) O (fun R k => attr_cls O (F_C_BREAK w) (F_S_BREAK w) rfl (by decide +kernel) (fun ad t => by rfl) R fun s' R1 => k _ _ (show (AV.int 16).Is _ from ⟨_, rfl⟩) R1) hx h hk hd
theorem ev_DECIMAL (O : c.Ok w sc n) (hx : σ.loc.lookup o = some (.val (.ref I.x))) (h : K (.int 8) σ) (hk : (c.env sc).kindOf o = some .local := by rfl) (hd : (o == ("__debug__" : Str)) = false := by rfl) : Ev w I rest sc c (.Attribute (.Name o op) "DECIMAL" pos) σ K := ev_self (a := .int 8) O (fun R k => attr_cls O (F_C_DECIMAL w) (F_S_DECIMAL w) rfl (by decide +kernel) (fun ad t => by rfl) R fun s' R1 => k _ _ (show (AV.int 8).Is _ from ⟨_, rfl⟩) R1) hx h hk hd
theorem ev_ZERO (O : c.Ok w sc n) (hx : σ.loc.lookup o = some (.val (.ref I.x))) (h : K (.int 2) σ) (hk : (c.env sc).kindOf o = some .local := by rfl) (hd : (o == ("__debug__" : Str)) = false := by rfl) : Ev w I rest sc c (.Attribute (.Name o op) "ZERO" pos) σ K := ev_self (a := .int 2) O (fun R k => attr_cls O (F_C_ZERO w) (F_S_ZERO w) rfl (by decide +kernel) (fun ad t => by rfl) R fun s' R1 => k _ _ (show (AV.int 2).Is _ from ⟨_, rfl⟩) R1) hx h hk hd
theorem ev_CARRY (O : c.Ok w sc n) (hx : σ.loc.lookup o = some (.val (.ref I.x))) (h : K (.int 1) σ) (hk : (c.env sc).kindOf o = some .local := by rfl) (hd : (o == ("__debug__" : Str)) = false := by rfl) : Ev w I rest sc c (.Attribute (.Name o op) "CARRY" pos) σ K := ev_self (a := .int 1) O (fun R k => attr_cls O (F_C_CARRY w) (F_S_CARRY w) rfl (by decide +kernel) (fun ad t => by rfl) R fun s' R1 => k _ _ (show (AV.int 1).Is _ from ⟨_, rfl⟩) R1) hx h hk hd
theorem ev_BYTE_WIDTH (O : c.Ok w sc n) (hx : σ.loc.lookup o = some (.val (.ref I.x))) (h : K (.int 8) σ) (hk : (c.env sc).kindOf o = some .local := by rfl) (hd : (o == ("__debug__" : Str)) = false := by rfl) : Ev w I rest sc c (.Attribute (.Name o op) "BYTE_WIDTH" pos) σ K := ev_self (a := .int 8) O (fun R k => attr_cls O (F_C_BYTE_WIDTH w) (F_S_BYTE_WIDTH w) rfl (by decide +kernel) (fun ad t => by rfl) R fun s' R1 => k _ _ (show (AV.int 8).Is _ from ⟨_, rfl⟩) R1) hx h hk hd
theorem ev_ADDR_WIDTH (O : c.Ok w sc n) (hx : σ.loc.lookup o = some (.val (.ref I.x))) (h : K (.int 16) σ) (hk : (c.env sc).kindOf o = some .local := by rfl) (hd : (o == ("__debug__" : Str)) = false := by rfl) : Ev w I rest sc c (.Attribute (.Name o op) "ADDR_WIDTH" pos) σ K := ev_self (a := .int 16) O (fun R k => attr_cls O (F_C_ADDR_WIDTH w) (F_S_ADDR_WIDTH w) rfl (by decide +kernel) (fun ad t => by rfl) R fun s' R1 => k _ _ (show (AV.int 16).Is _ from ⟨_, rfl⟩) R1) hx h hk hd
end
/-! lists of ints -/
noncomputable def KIt (K : AV → Sg → Prop) (a b : AV) (σ : Sg) : Prop := ∃ (j : Nat) (D : Addr) (ns : List Int) (k : Int), a = .val (.ref D) ∧ b = .int k ∧ σ.ls[j]? = some (D, ns) ∧ 0 ≤ k ∧ k < (ns.length : Int) ∧ ns.length ≤ 65536 ∧ K (.int (ns.getD k.toNat 0)) σ
theorem kit {K : AV → Sg → Prop} {D : Addr} {ns : List Int} {k : Int} (j : Nat) (h : σ.ls[j]? = some (D, ns)) (h0 : 0 ≤ k) (h1 : k < (ns.length : Int)) (h2 : ns.length ≤ 65536) (hK : K (.int (ns.getD k.toNat 0)) σ) : KIt K (.val (.ref D)) (.int k) σ := ⟨j, D, ns, k, rfl, rfl, h, h0, h1, h2, hK⟩
theorem LsAre.at {ls : List (Addr × List Int)} {os : List (Addr × Obj)} (h : LsAre ls os) {j : Nat} {D : Addr} {ns : List Int} (e : ls[j]? = some (D, ns)) : ∃ vs, IntsAre vs ns ∧ (D, listOf vs.toArray 0) ∈ os := by
  induction h generalizing j with
  | nil => simp at e
  | cons hi _ ih =>
    cases j with
    | zero => simp at e; obtain ⟨rfl, rfl⟩ := e; exact ⟨_, hi, .head _⟩
    | succ j => simp at e; obtain ⟨vs, a, b⟩ := ih e; exact ⟨vs, a, .tail _ b⟩
theorem LsAre.set {ls : List (Addr × List Int)} {os : List (Addr × Obj)} (h : LsAre ls os) {j : Nat} {D : Addr} {ns : List Int} (nd : (ls.map (·.1)).Nodup) (e : ls[j]? = some (D, ns)) :
    ∃ vs, IntsAre vs ns ∧ ∀ vs' ns' rest, IntsAre vs' ns' → (∀ p ∈ rest, p.1 ≠ D) → ∃ os', LsAre (ls.set j (D, ns')) os' ∧ Upd D (listOf vs.toArray 0) (listOf vs'.toArray 0) (os ++ rest) (os' ++ rest) := by
  induction h generalizing j with
  | nil => simp at e
  | @cons a vs0 ns0 l os hi hl ih =>
    cases j with
    | zero =>
      simp at e; obtain ⟨rfl, rfl⟩ := e
      refine ⟨_, hi, fun vs' ns' rest h' hr => ⟨(_, _) :: os, .cons h' hl, .head fun p hp => ?_⟩⟩
      rcases List.mem_append.mp hp with q | q
      · intro z
        exact (List.nodup_cons.mp nd).1 (z ▸ hl.addr p q)
      · exact hr p q
    | succ j =>
      simp at e
      obtain ⟨vs, h1, h2⟩ := ih (List.nodup_cons.mp nd).2 e
      refine ⟨vs, h1, fun vs' ns' rest h' hr => ?_⟩
      obtain ⟨os', h3, h4⟩ := h2 vs' ns' rest h' hr
      refine ⟨(_, _) :: os', .cons hi h3, .tail ?_ h4⟩
      intro z
      refine (List.nodup_cons.mp nd).1 ?_
      have : (D, ns) ∈ l := List.mem_of_getElem? e
      show a ∈ _
      rw [show a = D from z]
      exact List.mem_map.mpr ⟨_, this, rfl⟩
theorem set_fst {ls : List (Addr × List Int)} {j : Nat} {D : Addr} {ns ns' : List Int} (e : ls[j]? = some (D, ns)) : (ls.set j (D, ns')).map (·.1) = ls.map (·.1) := by
  induction ls generalizing j with
  | nil => rfl
  | cons p l ih =>
    cases j with
    | zero => simp at e; subst e; rfl
    | succ j => simp at e; simp [ih e]
theorem ev_item {vx ix : Expr} {pos : Pos} {K : AV → Sg → Prop} (h : Ev w I rest sc c vx σ fun a σ1 => Ev w I rest sc c ix σ1 fun b σ2 => KIt K a b σ2)
    (hs : ∀ D k u, subscripted ix false (.ref D) (.int k u) = operate [.ref D, .int k u] (getItem (.ref D) (.int k u)) := by intro _ _ _; rfl) : Ev w I rest sc c (.Subscript vx ix pos) σ K := by
  intro Q E s R k
  refine Subscript_ (h _ _ _ R fun v a σ1 s1 h1 hv R1 => h1 _ _ _ R1 fun v2 b σ2 s2 h2 hv2 R2 => ?_)
  obtain ⟨j, D, ns, i, rfl, rfl, e, i0, i1, hn, hK⟩ := h2
  obtain rfl : v = .ref D := hv
  obtain ⟨u, rfl⟩ := hv2
  obtain ⟨hse, t, ad, os, had, hl, N⟩ := R2.led
  obtain ⟨vs, hi, hm⟩ := hl.at e
  refine kba_turn (value' := .Name "x" ⟨0, 0, 0, 0⟩) (fun r => by rfl) (ksa_sub N (.tail _ (.tail _ (List.mem_append_left _ hm))) hi i0 i1 (by omega) (fun t => k _ _ _ _ hK ⟨_, rfl⟩ R2) (hs D i u))
/-! tests -/
noncomputable def KB (f : Int → Int → Bool) (K : Bool → Sg → Prop) : AV → AV → Sg → Prop
  | .int i, .int j, σ => K (f i j) σ
  | _, _, _ => False
theorem kb {f : Int → Int → Bool} {K : Bool → Sg → Prop} {i j : Int} (h : K (f i j) σ) : KB f K (.int i) (.int j) σ := h
noncomputable def KT (K : Bool → Sg → Prop) : AV → Sg → Prop
  | .int i, σ => K (i != 0) σ
  | _, _ => False
theorem kt {K : Bool → Sg → Prop} {i : Int} (h : K (i != 0) σ) : KT K (.int i) σ := h
theorem ts_plain {e : Expr} {K : Bool → Sg → Prop} (h : Ev w I rest sc c e σ fun a σ1 => KT K a σ1) (he : PySem.isTrue e (c.env sc) (eval e (c.env sc)) = (do let v ← eval e (c.env sc); standAt e.pos; holding [v] (truthy v)) := by rfl) : Ts w I rest sc c e σ K := by
  intro Q E s R k
  refine isTrue_plain (h _ _ _ R fun v a σ1 s1 h1 hv R1 => ?_) he
  cases a with
  | val _ => exact h1.elim
  | int i => obtain ⟨t, rfl⟩ := hv; exact truthy_int (k _ _ _ h1 R1)
theorem ts_cmp {op : CmpOp} {f : Int → Int → Bool} {l r : Expr} {pos : Pos} {K : Bool → Sg → Prop}
    (hop : ∀ {A : Around} {E : Value → Shared → Prop} {s : Shared} {a b : Int} {t u : Tok} {Q : Value → Shared → Prop}, Q (.bool (f a b)) s → wpAny (MD w) A (compareOp op (.int a t) (.int b u)) Q E s)
    (h : Ev w I rest sc c l σ fun a σ1 => Ev w I rest sc c r σ1 fun b σ2 => KB f K a b σ2) (hb : behindInMarks op r = false := by rfl) : Ts w I rest sc c (.Compare l [op] [r] pos) σ K := by
  intro Q E s R k
  refine wpAny_isTrue_Compare1 (h _ _ _ R fun v a σ1 s1 h1 hv R1 => h1 _ _ _ R1 fun v2 b σ2 s2 h2 hv2 R2 => ?_) hb
  cases a with
  | val _ => exact h2.elim
  | int i =>
    cases b with
    | val _ => exact h2.elim
    | int j =>
      obtain ⟨t, rfl⟩ := hv
      obtain ⟨u, rfl⟩ := hv2
      exact hop (wpAny_truthy_bool (k _ _ _ h2 R2))

noncomputable def KNo (K : Bool → Sg → Prop) : AV → Sg → Prop
  | .val .none, σ => K true σ
  | .val (.ref _), σ => K false σ
  | _, _ => False
theorem kno_t {K : Bool → Sg → Prop} (h : K true σ) : KNo K (.val .none) σ := h
theorem kno_f {K : Bool → Sg → Prop} {q : Addr} (h : K false σ) : KNo K (.val (.ref q)) σ := h
theorem ts_isn {l : Expr} {kk : Nat} {p1 pos : Pos} {K : Bool → Sg → Prop} (h : Ev w I rest sc c l σ fun a σ1 => KNo K a σ1) (hb : behindInMarks .Is (.Constant .none kk p1) = false := by rfl) : Ts w I rest sc c (.Compare l [.Is] [.Constant .none kk p1] pos) σ K := by
  intro Q E s R k
  refine wpAny_isTrue_Compare1 (h _ _ _ R fun v a σ1 s1 h1 hv R1 => wpAny_Constant_none ?_) hb
  cases a with
  | int _ => exact h1.elim
  | val u =>
    subst hv
    cases v with
    | none => exact is_none_none (wpAny_truthy_bool (k _ _ _ h1 R1))
    | ref q => exact is_ref_none (wpAny_truthy_bool (k _ _ _ h1 R1))
    | _ => exact h1.elim
section
variable {l r : Expr} {pos : Pos} {K : Bool → Sg → Prop}
theorem ts_eq (h : Ev w I rest sc c l σ fun a σ1 => Ev w I rest sc c r σ1 fun b σ2 => KB (fun a b => a == b) K a b σ2) (hb : behindInMarks .Eq r = false := by rfl) : Ts w I rest sc c (.Compare l [.Eq] [r] pos) σ K := ts_cmp (fun h => eq_int h) h hb
theorem ts_ne (h : Ev w I rest sc c l σ fun a σ1 => Ev w I rest sc c r σ1 fun b σ2 => KB (fun a b => a != b) K a b σ2) (hb : behindInMarks .NotEq r = false := by rfl) : Ts w I rest sc c (.Compare l [.NotEq] [r] pos) σ K := ts_cmp (fun h => ne_int h) h hb
theorem ts_lt (h : Ev w I rest sc c l σ fun a σ1 => Ev w I rest sc c r σ1 fun b σ2 => KB (fun a b => decide (a < b)) K a b σ2) (hb : behindInMarks .Lt r = false := by rfl) : Ts w I rest sc c (.Compare l [.Lt] [r] pos) σ K := ts_cmp (fun h => lt_int h) h hb
theorem ts_gt (h : Ev w I rest sc c l σ fun a σ1 => Ev w I rest sc c r σ1 fun b σ2 => KB (fun a b => decide (a > b)) K a b σ2) (hb : behindInMarks .Gt r = false := by rfl) : Ts w I rest sc c (.Compare l [.Gt] [r] pos) σ K := ts_cmp (fun h => gt_int h) h hb
theorem ts_le (h : Ev w I rest sc c l σ fun a σ1 => Ev w I rest sc c r σ1 fun b σ2 => KB (fun a b => decide (a ≤ b)) K a b σ2) (hb : behindInMarks .LtE r = false := by rfl) : Ts w I rest sc c (.Compare l [.LtE] [r] pos) σ K := ts_cmp (fun h => le_int h) h hb
theorem ts_ge (h : Ev w I rest sc c l σ fun a σ1 => Ev w I rest sc c r σ1 fun b σ2 => KB (fun a b => decide (a ≥ b)) K a b σ2) (hb : behindInMarks .GtE r = false := by rfl) : Ts w I rest sc c (.Compare l [.GtE] [r] pos) σ K := ts_cmp (fun h => ge_int h) h hb
end
/-! statements -/
section
variable {Kn : Sg → Prop} {Kr : AV → Sg → Prop} {pos : Pos}
theorem exs_nil (h : Kn σ) : Exs w I rest sc c [] σ Kn Kr := fun Q E s R kn kr => wpAny_execs_nil (kn _ _ h R)
theorem exs_cons {st : Stmt} {r : List Stmt} (h : Ex w I rest sc c st σ (fun σ1 => Exs w I rest sc c r σ1 Kn Kr) Kr) : Exs w I rest sc c (st :: r) σ Kn Kr := fun Q E s R kn kr =>
  wpAny_execs_cons (h _ _ _ R (fun σ' s' h1 R1 => h1 _ _ _ R1 kn kr) fun v a σ' s' h1 hv R1 => kr v a σ' s' h1 hv R1)
theorem ex_if {t : Expr} {body els : List Stmt} (h : Ts w I rest sc c t σ fun b σ1 => (b = true → Exs w I rest sc c body σ1 Kn Kr) ∧ (b = false → Exs w I rest sc c els σ1 Kn Kr)) : Ex w I rest sc c (.If t body els pos) σ Kn Kr := fun Q E s R kn kr =>
  wpAny_If (h _ _ _ R fun b σ' s' h1 R1 => by
    cases b with
    | true => rw [if_pos rfl]; exact h1.1 rfl _ _ _ R1 kn kr
    | false => rw [if_neg (by decide)]; exact h1.2 rfl _ _ _ R1 kn kr)
theorem ex_pass (h : Kn σ) : Ex w I rest sc c (.Pass pos) σ Kn Kr := fun Q E s R kn kr => wpAny_Pass (kn _ _ h R)
theorem ex_ret {e : Expr} (h : Ev w I rest sc c e σ Kr) : Ex w I rest sc c (.Return (some e) pos) σ Kn Kr := fun Q E s R kn kr => wpAny_Return_some (h _ _ _ R kr)
theorem ex_expr {e : Expr} (h : Ev w I rest sc c e σ fun _ σ1 => Kn σ1) (hi : interactive (c.env sc) = false := by rfl) (hs : swapsWith e none pos.line (c.env sc) = pure false := by rfl) : Ex w I rest sc c (.Expr e pos) σ Kn Kr := fun Q E s R kn kr =>
  wpAny_Expr_any (h _ _ _ R fun v a σ' s' h1 _ R1 => kn _ _ h1 R1) hi hs
theorem store_name {x : Str} {s : Shared} {v : Value} {a : AV} {Q : Unit → Shared → Prop} {E : Value → Shared → Prop} (O : c.Ok w sc n) (hk : (c.env sc).kindOf x = some .local) (hv : a.Is v) (R : Rel I rest c σ s) (k : ∀ s', Rel I rest c { σ with loc := (x, a) :: σ.loc } s' → Q () s') :
    wpAny (MD w) c.A (storeName (c.env sc) x v) Q E s := by
  obtain ⟨m, F, lo⟩ := R.fr
  obtain ⟨hse, t, ad, os, had, hl, N⟩ := R.led
  refine storeX_L (cl := []) F N (fun h' F' N' => k _ ⟨R.gens, R.drawn, R.os, ⟨_, F', fun y b hy => ?_, fun y hy => ?_⟩, hse, t, ad, os, had, hl, N'⟩) O.hk hk
  · rw [List.lookup_cons] at hy
    by_cases e : y = x
    · subst e
      rw [beq_self_eq_true] at hy
      obtain rfl := Option.some.inj hy
      exact ⟨v, if_pos rfl, hv⟩
    · rw [beq_eq_false_iff_ne.mpr e] at hy
      obtain ⟨u, h1, h2⟩ := lo.1 _ _ hy
      exact ⟨u, (if_neg e).trans h1, h2⟩
  · rw [List.lookup_cons] at hy
    by_cases e : y = x
    · subst e
      rw [beq_self_eq_true] at hy
      cases hy
    · rw [beq_eq_false_iff_ne.mpr e] at hy
      exact (if_neg e).trans (lo.2 _ hy)
noncomputable def KL (x : Str) (Kn : Sg → Prop) (a : AV) (σ : Sg) : Prop := Kn { σ with loc := (x, a) :: σ.loc }
theorem kl {x : Str} {a : AV} {loc : List (Str × AV)} {r : Raw} {ls : List (Addr × List Int)} (h : Kn ⟨(x, a) :: loc, r, ls⟩) : KL x Kn a ⟨loc, r, ls⟩ := h
theorem ex_let {x : Str} {p' : Pos} {e : Expr} (O : c.Ok w sc n) (h : Ev w I rest sc c e σ (KL x Kn)) (hk : (c.env sc).kindOf x = some .local := by rfl)
    (hs : swapsWith e (some (.Name x p')) pos.line (c.env sc) = pure false := by rfl) : Ex w I rest sc c (.Assign [.Name x p'] e pos) σ Kn Kr := fun Q E s R kn kr =>
  wpAny_Assign_Name (h _ _ _ R fun v a σ' s' h1 hv R1 => store_name O hk hv R1 fun s2 R2 => kn _ _ h1 R2) hs
noncomputable def KNA (P : Int → Int → Prop) (g : Int → Int → Int) (x : Str) (old : Int) (Kn : Sg → Prop) : AV → Sg → Prop
  | .int j, σ => P old j ∧ Kn { σ with loc := (x, .int (g old j)) :: σ.loc }
  | _, _ => False
theorem kna {g : Int → Int → Int} {x : Str} {old j : Int} {loc : List (Str × AV)} {r : Raw} {ls : List (Addr × List Int)} (k : Kn ⟨(x, .int (g old j)) :: loc, r, ls⟩) : KNA pT g x old Kn (.int j) ⟨loc, r, ls⟩ := ⟨trivial, k⟩
theorem ex_augn {ao : Operator} {P : Int → Int → Prop} {g : Int → Int → Int} {x : Str} {p' : Pos} {e : Expr} {old : Int} (O : c.Ok w sc n)
    (hop : ∀ {A : Around} {E : Value → Shared → Prop} {s : Shared} {a b : Int} {t u : Tok} {Q : Value → Shared → Prop}, P a b → Q (.int (g a b) s.toks) { s with toks := s.toks + 1 } → wpAny (MD w) A (inplaceOp ao (.int a t) (.int b u)) Q E s)
    (hx : σ.loc.lookup x = some (.int old)) (h : Ev w I rest sc c e σ fun a σ1 => KNA P g x old Kn a σ1) (hk : (c.env sc).kindOf x = some .local := by rfl) : Ex w I rest sc c (.AugAssign (.Name x p') ao e pos) σ Kn Kr := fun Q E s R kn kr => by
  obtain ⟨m, F, lo⟩ := R.fr
  obtain ⟨v, hm, t, rfl⟩ := lo.1 _ _ hx
  refine wpAny_AugAssign_Name (ldn F hm (h _ _ _ R fun v2 b σ2 s2 h2 hv2 R2 => ?_) O.hk hk)
  cases b with
  | val _ => exact h2.elim
  | int j =>
    obtain ⟨u, rfl⟩ := hv2
    exact hop h2.1 (store_name (a := .int (g old j)) O hk ⟨_, rfl⟩ R2.at fun s3 R3 => kn _ _ h2.2 R3)
theorem ex_augI {ao : Operator} {P : Int → Int → Prop} {g : Int → Int → Int} {x : Str} {p' : Pos} {e : Expr} {old : Int} {ot : Tok} (O : c.Ok w sc n)
    (hop : ∀ {A : Around} {E : Value → Shared → Prop} {s : Shared} {a b : Int} {t u : Tok} {Q : Value → Shared → Prop}, P a b → Q (.int (g a b) s.toks) { s with toks := s.toks + 1 } → wpAny (MD w) A (inplaceOp ao (.int a t) (.int b u)) Q E s)
    (hx : σ.loc.lookup x = some (.val (.int old ot))) (h : Ev w I rest sc c e σ fun a σ1 => KNA P g x old Kn a σ1) (hk : (c.env sc).kindOf x = some .local := by rfl) : Ex w I rest sc c (.AugAssign (.Name x p') ao e pos) σ Kn Kr := fun Q E s R kn kr => by
  obtain ⟨m, F, lo⟩ := R.fr
  obtain ⟨v, hm, hv⟩ := lo.1 _ _ hx
  obtain rfl : v = .int old ot := hv
  refine wpAny_AugAssign_Name (ldn F hm (h _ _ _ R fun v2 b σ2 s2 h2 hv2 R2 => ?_) O.hk hk)
  cases b with
  | val _ => exact h2.elim
  | int j =>
    obtain ⟨u, rfl⟩ := hv2
    exact hop h2.1 (store_name (a := .int (g old j)) O hk ⟨_, rfl⟩ R2.at fun s3 R3 => kn _ _ h2.2 R3)
theorem exn_addI {x : Str} {p' : Pos} {e : Expr} {old : Int} {ot : Tok} (O : c.Ok w sc n) (hx : σ.loc.lookup x = some (.val (.int old ot))) (h : Ev w I rest sc c e σ fun a σ1 => KNA pT HAdd.hAdd x old Kn a σ1) (hk : (c.env sc).kindOf x = some .local := by rfl) : Ex w I rest sc c (.AugAssign (.Name x p') .Add e pos) σ Kn Kr := ex_augI O (fun _ h => iadd_int h) hx h hk
theorem exn_and {x : Str} {p' : Pos} {e : Expr} {old : Int} (O : c.Ok w sc n) (hx : σ.loc.lookup x = some (.int old)) (h : Ev w I rest sc c e σ fun a σ1 => KNA pT Builtin.bitAnd x old Kn a σ1) (hk : (c.env sc).kindOf x = some .local := by rfl) : Ex w I rest sc c (.AugAssign (.Name x p') .BitAnd e pos) σ Kn Kr := ex_augn O (fun _ h => iand_int h) hx h hk
theorem exn_add {x : Str} {p' : Pos} {e : Expr} {old : Int} (O : c.Ok w sc n) (hx : σ.loc.lookup x = some (.int old)) (h : Ev w I rest sc c e σ fun a σ1 => KNA pT HAdd.hAdd x old Kn a σ1) (hk : (c.env sc).kindOf x = some .local := by rfl) : Ex w I rest sc c (.AugAssign (.Name x p') .Add e pos) σ Kn Kr := ex_augn O (fun _ h => iadd_int h) hx h hk
noncomputable def KS (o : Str) (I : Im) (f : Int → Raw → Raw) (Kn : Sg → Prop) : AV → Sg → Prop
  | .int i, σ => σ.loc.lookup o = some (.val (.ref I.x)) ∧ Kn { σ with r := f i σ.r }
  | _, _ => False
theorem ks {o : Str} {f : Int → Raw → Raw} {i : Int} (h : σ.loc.lookup o = some (.val (.ref I.x))) (k : Kn { σ with r := f i σ.r }) : KS o I f Kn (.int i) σ := ⟨h, k⟩
theorem ex_setf (f : Fld) {o : Str} {op p' : Pos} {e : Expr} (O : c.Ok w sc n) (h : Ev w I rest sc c e σ fun a σ1 => KS o I f.set Kn a σ1) (hk : (c.env sc).kindOf o = some .local := by rfl) (hd : (o == ("__debug__" : Str)) = false := by rfl)
    (hs : swapsWith e (some (.Attribute (.Name o op) f.nm p')) pos.line (c.env sc) = pure false := by rfl) : Ex w I rest sc c (.Assign [.Attribute (.Name o op) f.nm p'] e pos) σ Kn Kr := fun Q E s R kn kr =>
  plainObj_wpAny_Assign_Attribute (h _ _ _ R fun v a σ1 s1 h1 hv R1 => by
    cases a with
    | val _ => exact h1.elim
    | int i =>
      obtain ⟨t, rfl⟩ := hv
      refine ev_name (K := fun a σ' => a = .val (.ref I.x) ∧ σ' = σ1) O h1.1 ⟨rfl, rfl⟩ hk hd _ _ _ R1 fun v a σ' s' q hv R' => ?_
      obtain ⟨rfl, rfl⟩ := q
      subst hv
      exact set_fld f O R' fun s2 R2 => kn _ _ h1.2 R2) hs
noncomputable def KA (P : Int → Int → Prop) (g : Int → Int → Int) (f : Fld) (old : Int) (Kn : Sg → Prop) : AV → Sg → Prop
  | .int j, σ => P old j ∧ Kn { σ with r := f.set (g old j) σ.r }
  | _, _ => False
theorem ka {P : Int → Int → Prop} {g : Int → Int → Int} {f : Fld} {old j : Int} (p : P old j) (k : Kn { σ with r := f.set (g old j) σ.r }) : KA P g f old Kn (.int j) σ := ⟨p, k⟩
theorem ka' {g : Int → Int → Int} {f : Fld} {old j : Int} (k : Kn { σ with r := f.set (g old j) σ.r }) : KA pT g f old Kn (.int j) σ := ⟨trivial, k⟩
theorem ex_aug (f : Fld) {ao : Operator} {P : Int → Int → Prop} {g : Int → Int → Int} {o : Str} {op p' : Pos} {e : Expr} (O : c.Ok w sc n)
    (hop : ∀ {A : Around} {E : Value → Shared → Prop} {s : Shared} {a b : Int} {t u : Tok} {Q : Value → Shared → Prop}, P a b → Q (.int (g a b) s.toks) { s with toks := s.toks + 1 } → wpAny (MD w) A (inplaceOp ao (.int a t) (.int b u)) Q E s)
    (hx : σ.loc.lookup o = some (.val (.ref I.x))) (h : Ev w I rest sc c e σ fun a σ1 => KA P g f (f.get σ.r) Kn a σ1) (hk : (c.env sc).kindOf o = some .local := by rfl) (hd : (o == ("__debug__" : Str)) = false := by rfl) :
    Ex w I rest sc c (.AugAssign (.Attribute (.Name o op) f.nm p') ao e pos) σ Kn Kr := fun Q E s R kn kr => by
  refine wpAny_AugAssign_AttributeAny (ev_name (K := fun a σ' => a = .val (.ref I.x) ∧ σ' = σ) O hx ⟨rfl, rfl⟩ hk hd _ _ _ R fun v a σ' s' q hv R' => ?_)
  obtain ⟨rfl, rfl⟩ := q
  subst hv
  refine get_fld f O R' fun v1 s1 hv1 R1 => h _ _ _ R1 fun v2 b σ2 s2 h2 hv2 R2 => ?_
  cases b with
  | val _ => exact h2.elim
  | int j =>
    obtain ⟨t, rfl⟩ := hv1
    obtain ⟨u, rfl⟩ := hv2
    exact hop h2.1 (set_fld f O R2.at fun s3 R3 => kn _ _ h2.2 R3)
noncomputable def KM (Kn : Sg → Prop) (a b d : AV) (σ : Sg) : Prop := ∃ (j : Nat) (D : Addr) (ns : List Int) (k x : Int), a = .int x ∧ b = .val (.ref D) ∧ d = .int k ∧ σ.ls[j]? = some (D, ns) ∧ 0 ≤ k ∧ k < (ns.length : Int) ∧ ns.length ≤ 65536 ∧ Kn { σ with ls := σ.ls.set j (D, ns.set k.toNat x) }
theorem km {D : Addr} {ns : List Int} {k x : Int} (j : Nat) (h : σ.ls[j]? = some (D, ns)) (h0 : 0 ≤ k) (h1 : k < (ns.length : Int)) (h2 : ns.length ≤ 65536) (hK : Kn { σ with ls := σ.ls.set j (D, ns.set k.toNat x) }) : KM Kn (.int x) (.val (.ref D)) (.int k) σ := ⟨j, D, ns, k, x, rfl, rfl, rfl, h, h0, h1, h2, hK⟩
theorem set_item {s : Shared} {j : Nat} {D : Addr} {ns : List Int} {k x : Int} {t u : Tok} {Q : Unit → Shared → Prop} {E : Value → Shared → Prop} (e : σ.ls[j]? = some (D, ns)) (h0 : 0 ≤ k) (h1 : k < (ns.length : Int)) (h2 : ns.length ≤ 65536) (R : Rel I rest c σ s)
    (kq : ∀ s', Rel I rest c { σ with ls := σ.ls.set j (D, ns.set k.toNat x) } s' → Q () s') : wpAny (MD w) c.A (setItem (.ref D) (.int k t) (.int x u)) Q E s := by
  obtain ⟨m, F, lo⟩ := R.fr
  obtain ⟨hse, tt, ad, os, had, hl, N⟩ := R.led
  have nd := (List.nodup_cons.mp (List.nodup_cons.mp hse.1).2)
  obtain ⟨vs, hi, hu⟩ := hl.set nd.2 e
  have hD : D ∈ σ.ls.map (·.1) := List.mem_map.mpr ⟨_, List.mem_of_getElem? e, rfl⟩
  obtain ⟨os', hl', U⟩ := hu (vs.set k.toNat (.int x u)) (ns.set k.toNat x) rest (by exact ints_set (x := x) (u := u) hi k.toNat) (fun p hp => hse.2 p hp _ (.tail _ (.tail _ hD)))
  refine ksa_set F N (.tail (fun q => (List.nodup_cons.mp hse.1).1 ?_) (.tail (fun q => nd.1 ?_) U)) hi h0 h1 (by omega) fun h' F' N' hi' hl2 hs2 => kq _ ⟨R.gens, R.drawn, R.os, ⟨m, F', lo⟩, ?_, tt, ad, os', had, hl', N'⟩
  · exact .tail _ (by rw [show I.x = D from q]; exact hD)
  · rw [show I.d = D from q]; exact hD
  · show Sepa _ _ ((σ.ls.set j _).map (·.1))
    rw [set_fst e]
    exact hse
theorem ex_setitem {vo ix e : Expr} {p' : Pos} (h : Ev w I rest sc c e σ fun a σ1 => Ev w I rest sc c vo σ1 fun b σ2 => Ev w I rest sc c ix σ2 fun d σ3 => KM Kn a b d σ3)
    (hs : swapsWith e (some (.Subscript vo ix p')) pos.line (c.env sc) = pure false := by rfl) : Ex w I rest sc c (.Assign [.Subscript vo ix p'] e pos) σ Kn Kr := fun Q E s R kn kr =>
  wpAny_Assign_Subscript (h _ _ _ R fun v1 a σ1 s1 h1 hv1 R1 => h1 _ _ _ R1 fun v2 b σ2 s2 h2 hv2 R2 => h2 _ _ _ R2 fun v3 d σ3 s3 h3 hv3 R3 => by
    obtain ⟨j, D, ns, k, x, rfl, rfl, rfl, e, k0, k1, k2, hK⟩ := h3
    obtain ⟨t, rfl⟩ := hv1
    obtain rfl : v2 = .ref D := hv2
    obtain ⟨u, rfl⟩ := hv3
    exact set_item e k0 k1 k2 R3 fun s' R' => kn _ _ hK R') hs
end
end
end Mine
end
section
open PySem PySem.W PySem.Calls PyProof.Rows
set_option maxRecDepth 100000
set_option maxHeartbeats 4000000
namespace Mine
inductive LAll : List (Str × AV) → List (Str × Value) → Prop
  | nil : LAll [] []
  | cons {x a v l l'} : AV.Is a v → LAll l l' → LAll ((x, a) :: l) ((x, v) :: l')
theorem LAll.app : ∀ {l l' k k'}, LAll l l' → LAll k k' → LAll (l ++ k) (l' ++ k')
  | _, _, _, _, .nil, q => q
  | _, _, _, _, .cons h p, q => .cons h (p.app q)
theorem LAll.rev : ∀ {l l'}, LAll l l' → LAll l.reverse l'.reverse
  | _, _, .nil => .nil
  | _, _, .cons h p => by rw [List.reverse_cons, List.reverse_cons]; exact p.rev.app (.cons h .nil)
theorem LAll.look1 : ∀ {l l'}, LAll l l' → ∀ x a, l.lookup x = some a → ∃ v, l'.lookup x = some v ∧ a.Is v
  | _, _, .nil, _, _, h => by cases h
  | _, _, .cons (x := x) (v := v) ha p, y, b, h => by
    rw [List.lookup_cons] at h
    show ∃ v', List.lookup y ((x, v) :: _) = some v' ∧ _
    rw [List.lookup_cons]
    cases hq : y == x with
    | true => rw [hq] at h; exact ⟨v, rfl, Option.some.inj h ▸ ha⟩
    | false => rw [hq] at h; exact p.look1 _ _ h
theorem LAll.look {l : List (Str × AV)} {l' : List (Str × Value)} (h : LAll l l') : LocOk (fun y => l'.lookup y) l (fun y => l'.lookup y) := ⟨h.look1, fun _ _ => rfl⟩
theorem LAll.zip : ∀ {as vs} (names : List Str), IsAll as vs → LAll (names.zip as) (names.zip vs)
  | _, _, [], _ => by simp only [List.zip_nil_left]; exact .nil
  | _, _, _ :: _, .nil => .nil
  | _, _, _ :: ns, .cons h p => .cons h (LAll.zip ns p)
theorem IsAll.len : ∀ {as vs}, IsAll as vs → vs.length = as.length
  | _, _, .nil => rfl
  | _, _, .cons _ p => by rw [List.length_cons, List.length_cons, p.len]
section
variable {w : World} {I : Im} {rest : List (Addr × Obj)} {sc : Scope} {c : Cx} {n : Nat} {σ : Sg}
theorem Cal.use {fn : Addr} {as : List AV} {K : AV → Sg → Prop} {vs : List Value} {R : Result → Shared → Prop} {s : Shared} (h : Cal w I rest c fn as σ K) (ha : IsAll as vs) (Rl : Rel I rest c σ s) (k : ∀ v a σ' s', K a σ' → a.Is v → Rel I rest c σ' s' → R (.ok (.ret v)) s') : codeAny (MD w) c.A (.call (.ref fn) ⟨vs, []⟩) R s := by
  obtain ⟨m, F, lo⟩ := Rl.fr
  exact h vs R s m ha F lo Rl fun v a σ' s' h1 h2 _ h3 => k v a σ' s' h1 h2 h3
theorem cal_def {fn : Addr} {name qual : Str} {params : Arguments} {body : List Stmt} {sc' : Scope} {dV kV doc pm cdv ct oc : Value} {an od : Option Addr} {osl : Array (Option Value)} {as : List AV} {K : AV → Sg → Prop} (names : List Str) (O : c.Ok w sc (n + 1))
    (ho : (KF w.params).lookup fn = some ⟨oc, od, .func (fnOf name qual params body sc' dV kV doc pm an cdv ct), osl⟩) (hcd : codeIn (KF w.params) cdv qual = true)
    (hln : as.length = names.length) (hbind : ∀ s vs, vs.length = names.length → BindsTo s (fnOf name qual params body sc' dV kV doc pm an cdv ct) ⟨vs, []⟩ (names.zip vs))
    (hloc : (names.all fun x => decide (sc'.names.lookup x = some .local)) = true)
    (hco : sc'.isCoroutine = false) (hgen : sc'.isGenerator = false) (hk : sc'.kind = .function) (hcell : ∀ x ∈ sc'.names, x.2 ≠ .cell)
    (h : ∀ c' : Cx, c'.Ok w sc' n → Exs w I rest sc' c' body ⟨(names.zip as).reverse, σ.r, σ.ls⟩ (fun σ' => K (.val .none) ⟨σ.loc, σ'.r, σ'.ls⟩) (fun a σ' => K a ⟨σ.loc, σ'.r, σ'.ls⟩)) : Cal w I rest c fn as σ K := by
  intro vs R s m ha F lo Rl k
  obtain ⟨hse, t, ad, os, had, hl, N⟩ := Rl.led
  have hlv : vs.length = names.length := ha.len.trans hln
  refine code_def O.B F O.X N O.T O.hA O.hf O.ht ho hcd (by have := O.room; omega) (hbind s vs hlv) (fun y hy => ?_) (fun g L' h₁ FG F' N' B' X' T' => ?_) hco hgen hk hcell
  · obtain ⟨x, v⟩ := y
    exact of_decide_eq_true (List.all_eq_true.mp hloc x (List.of_mem_zip hy).1)
  · have O' : Cx.Ok ⟨g, L', c.A, c.A.deeper (envOf qual sc' L' fn cdv), c.base, c.top :: c.outer, envOf qual sc' L' fn cdv, qual, fn, cdv, c.p, c.loose, c.mean, c.mg, c.mb, c.gens, c.drawn, c.os, fun y => (names.zip vs).reverse.lookup y⟩ w sc' n :=
      ⟨B', X', T', frames_deep O.hA, rfl, hk, hk, by have := O.room; show c.A.depth + 1 + n < _; omega⟩
    refine h _ O' _ _ _ ⟨Rl.gens, Rl.drawn, Rl.os, ⟨_, F', (LAll.zip names ha).rev.look⟩, hse, t, ad, os, had, hl, N'⟩ (fun σ' s' h1 R1 => ?_) (fun v a σ' s' h1 hv R1 => ?_)
    · obtain ⟨m1, F1, _⟩ := R1.fr
      obtain ⟨q1, q2, q3, q4, q5, q6, N1⟩ := R1.led
      exact leaveK_ F1 N1 fun F2 N2 => k _ _ _ s' h1 rfl F2 ⟨R1.gens, R1.drawn, R1.os, ⟨m, F2, lo⟩, q1, q2, q3, q4, q5, q6, N2⟩
    · obtain ⟨m1, F1, _⟩ := R1.fr
      obtain ⟨q1, q2, q3, q4, q5, q6, N1⟩ := R1.led
      exact leaveK_ F1 N1 fun F2 N2 => k _ _ _ s' h1 hv F2 ⟨R1.gens, R1.drawn, R1.os, ⟨m, F2, lo⟩, q1, q2, q3, q4, q5, q6, N2⟩
theorem cal_def1 {fn : Addr} {name qual x1 : Str} {params : Arguments} {body : List Stmt} {sc' : Scope} {dV kV doc pm cdv ct oc : Value} {an od : Option Addr} {osl : Array (Option Value)} {a1 : AV} {K : AV → Sg → Prop} (O : c.Ok w sc (n + 1))
    (ho : (KF w.params).lookup fn = some ⟨oc, od, .func (fnOf name qual params body sc' dV kV doc pm an cdv ct), osl⟩) (hcd : codeIn (KF w.params) cdv qual = true)
    (hbind : ∀ v1, bindArgs (fnOf name qual params body sc' dV kV doc pm an cdv ct) ⟨[v1], []⟩ = pure [(x1, v1)])
    (hloc : ([x1].all fun x => decide (sc'.names.lookup x = some .local)) = true)
    (hco : sc'.isCoroutine = false) (hgen : sc'.isGenerator = false) (hk : sc'.kind = .function) (hcell : ∀ x ∈ sc'.names, x.2 ≠ .cell)
    (h : ∀ c' : Cx, c'.Ok w sc' n → Exs w I rest sc' c' body ⟨[(x1, a1)], σ.r, σ.ls⟩ (fun σ' => K (.val .none) ⟨σ.loc, σ'.r, σ'.ls⟩) (fun a σ' => K a ⟨σ.loc, σ'.r, σ'.ls⟩)) : Cal w I rest c fn [a1] σ K :=
  cal_def [x1] O ho hcd rfl (fun s vs hv => match vs, hv with | [v1], _ => BindsTo.of_eq (hbind v1)) hloc hco hgen hk hcell h
theorem cal_def2 {fn : Addr} {name qual x1 x2 : Str} {params : Arguments} {body : List Stmt} {sc' : Scope} {dV kV doc pm cdv ct oc : Value} {an od : Option Addr} {osl : Array (Option Value)} {a1 a2 : AV} {K : AV → Sg → Prop} (O : c.Ok w sc (n + 1))
    (ho : (KF w.params).lookup fn = some ⟨oc, od, .func (fnOf name qual params body sc' dV kV doc pm an cdv ct), osl⟩) (hcd : codeIn (KF w.params) cdv qual = true)
    (hbind : ∀ v1 v2, bindArgs (fnOf name qual params body sc' dV kV doc pm an cdv ct) ⟨[v1, v2], []⟩ = pure [(x1, v1), (x2, v2)])
    (hloc : ([x1, x2].all fun x => decide (sc'.names.lookup x = some .local)) = true)
    (hco : sc'.isCoroutine = false) (hgen : sc'.isGenerator = false) (hk : sc'.kind = .function) (hcell : ∀ x ∈ sc'.names, x.2 ≠ .cell)
    (h : ∀ c' : Cx, c'.Ok w sc' n → Exs w I rest sc' c' body ⟨[(x2, a2), (x1, a1)], σ.r, σ.ls⟩ (fun σ' => K (.val .none) ⟨σ.loc, σ'.r, σ'.ls⟩) (fun a σ' => K a ⟨σ.loc, σ'.r, σ'.ls⟩)) : Cal w I rest c fn [a1, a2] σ K :=
  cal_def [x1, x2] O ho hcd rfl (fun s vs hv => match vs, hv with | [v1, v2], _ => BindsTo.of_eq (hbind v1 v2)) hloc hco hgen hk hcell h
theorem cal_def3 {fn : Addr} {name qual x1 x2 x3 : Str} {params : Arguments} {body : List Stmt} {sc' : Scope} {dV kV doc pm cdv ct oc : Value} {an od : Option Addr} {osl : Array (Option Value)} {a1 a2 a3 : AV} {K : AV → Sg → Prop} (O : c.Ok w sc (n + 1))
    (ho : (KF w.params).lookup fn = some ⟨oc, od, .func (fnOf name qual params body sc' dV kV doc pm an cdv ct), osl⟩) (hcd : codeIn (KF w.params) cdv qual = true)
    (hbind : ∀ v1 v2 v3, bindArgs (fnOf name qual params body sc' dV kV doc pm an cdv ct) ⟨[v1, v2, v3], []⟩ = pure [(x1, v1), (x2, v2), (x3, v3)])
    (hloc : ([x1, x2, x3].all fun x => decide (sc'.names.lookup x = some .local)) = true)
    (hco : sc'.isCoroutine = false) (hgen : sc'.isGenerator = false) (hk : sc'.kind = .function) (hcell : ∀ x ∈ sc'.names, x.2 ≠ .cell)
    (h : ∀ c' : Cx, c'.Ok w sc' n → Exs w I rest sc' c' body ⟨[(x3, a3), (x2, a2), (x1, a1)], σ.r, σ.ls⟩ (fun σ' => K (.val .none) ⟨σ.loc, σ'.r, σ'.ls⟩) (fun a σ' => K a ⟨σ.loc, σ'.r, σ'.ls⟩)) : Cal w I rest c fn [a1, a2, a3] σ K :=
  cal_def [x1, x2, x3] O ho hcd rfl (fun s vs hv => match vs, hv with | [v1, v2, v3], _ => BindsTo.of_eq (hbind v1 v2 v3)) hloc hco hgen hk hcell h
/-! calls of the machine's own -/
noncomputable abbrev methE (sc : Scope) (c : Cx) (o name : Str) (op apos pos : Pos) (args : List Expr) (pl : Sem Bool) : Prop :=
  eval (.Call (.Attribute (.Name o op) name apos) args [] pos) (c.env sc) = (do
      let ov ← eval (.Name o op) (c.env sc)
      standAt apos.atName
      let (f, first) ← holding [ov] (getMethod ov name pl)
      callWith pos f first (backTo pos (starEach args (c.env sc))) [])
structure MF (w : World) (I : Im) (name : Str) (fn : Addr) : Prop where
  ha : findIn (KF w.params) (.ref 1428) name = some (some (.ref fn))
  hf : isFn (KF w.params) (.ref fn) = true
  hk : keepIn (KF w.params) (.ref fn) = true
  hl : ∀ (r : Raw) ad t, getL name (mq I r ad t) = some none
theorem meth_at {name : Str} {fn : Addr} {pl : Sem Bool} {s : Shared} {Q : Value × List Value → Shared → Prop} {E : Value → Shared → Prop} (O : c.Ok w sc n) (M : MF w I name fn) (R : Rel I rest c σ s) (k : Q (.ref fn, [.ref I.x]) s) :
    wpAny (MD w) c.A (getMethod (.ref I.x) name pl) Q E s := by
  obtain ⟨m, F, lo⟩ := R.fr
  obtain ⟨_, t, ad, os, had, _, N⟩ := R.led
  exact method_inst F O.X (inst_at N) (F_plain _ _) M.ha M.hf (M.hl _ ad t) k
theorem ev_m0 {o name : Str} {op apos pos : Pos} {fn : Addr} {pl : Sem Bool} {K : AV → Sg → Prop} (O : c.Ok w sc n) (M : MF w I name fn) (hx : σ.loc.lookup o = some (.val (.ref I.x))) (h : Cal w I rest c fn [.val (.ref I.x)] σ K)
    (he : methE sc c o name op apos pos [] pl := by rfl) (hk : (c.env sc).kindOf o = some .local := by rfl) (hd : (o == ("__debug__" : Str)) = false := by rfl) : Ev w I rest sc c (.Call (.Attribute (.Name o op) name apos) [] [] pos) σ K := by
  intro Q E s R k
  refine MethodCall_ (ev_name (K := fun a σ' => a = .val (.ref I.x) ∧ σ' = σ) O hx ⟨rfl, rfl⟩ hk hd _ _ _ R fun v a σ' s' q hv R' => ?_) he
  obtain ⟨rfl, rfl⟩ := q
  subst hv
  refine meth_at O M R' (callWith_K0 (R'.K O) M.hk (wpAny_call (h.use (.cons rfl .nil) R' fun v a σ2 s2 h2 hv R2 => k _ _ _ _ h2 hv R2)))
theorem ev_m1 {o name : Str} {op apos pos : Pos} {e : Expr} {fn : Addr} {pl : Sem Bool} {K : AV → Sg → Prop} (O : c.Ok w sc n) (M : MF w I name fn) (hx : σ.loc.lookup o = some (.val (.ref I.x))) (h : Ev w I rest sc c e σ fun a σ1 => Cal w I rest c fn [.val (.ref I.x), a] σ1 K)
    (he : methE sc c o name op apos pos [e] pl := by rfl) (hk : (c.env sc).kindOf o = some .local := by rfl) (hd : (o == ("__debug__" : Str)) = false := by rfl) (hs : starEach [e] (c.env sc) = (false, eval e (c.env sc)) :: starEach [] (c.env sc) := by rfl) : Ev w I rest sc c (.Call (.Attribute (.Name o op) name apos) [e] [] pos) σ K := by
  intro Q E s R k
  refine MethodCall_ (ev_name (K := fun a σ' => a = .val (.ref I.x) ∧ σ' = σ) O hx ⟨rfl, rfl⟩ hk hd _ _ _ R fun v a σ' s' q hv R' => ?_) he
  obtain ⟨rfl, rfl⟩ := q
  subst hv
  refine meth_at O M R' (callWith_K O.X M.hk (args_cons (h _ _ _ R' fun v a σ1 s1 h1 hv R1 => args_nil ⟨R1.K O, wpAny_call (h1.use (.cons rfl (.cons hv .nil)) R1 fun v a σ2 s2 h2 hv R2 => k _ _ _ _ h2 hv R2)⟩) hs) hs)
/-- a call that hands on a method of the machine -/
theorem Rel.push {s : Shared} {p : Addr × Obj} {h' : Heap} {tk : Tok} (R : Rel I rest c σ s) (F : ∃ m, Fr c.h₀ c.L h' m ∧ LocOk c.m0 σ.loc m) (hp : ∀ b ∈ I.x :: I.d :: σ.ls.map (·.1), p.1 ≠ b)
    (N : ∃ (t : Tk) (ad : Value) (os : List (Addr × Obj)), σ.r.ad.Is ad ∧ LsAre σ.ls os ∧ News c.h₀ c.L h' (p :: (I.x, instObj 1428 I.d) :: (I.d, dictOf (mq I σ.r ad t) 16) :: (os ++ rest))) : Rel I (p :: rest) c σ { s with heap := h', toks := tk } := by
  obtain ⟨t, ad, os, h1, h2, N⟩ := N
  refine ⟨R.gens, R.drawn, R.os, F, ⟨R.led.1.1, fun q hq b hb => ?_⟩, t, ad, os, h1, h2, news_sub N fun q hq => ?_⟩
  · rcases List.mem_cons.mp hq with rfl | hq
    · exact hp b hb
    · exact R.led.1.2 q hq b hb
  · simp only [List.mem_cons, List.mem_append] at hq ⊢
    rcases hq with h | h | h | h | h <;> simp [h]
theorem Rel.pop {s : Shared} {p : Addr × Obj} (R : Rel I (p :: rest) c σ s) : Rel I rest c σ s := by
  obtain ⟨h1, t, ad, os, h2, h3, N⟩ := R.led
  refine ⟨R.gens, R.drawn, R.os, R.fr, ⟨h1.1, fun q hq b hb => h1.2 q (.tail _ hq) b hb⟩, t, ad, os, h2, h3, news_sub N fun q hq => ?_⟩
  simp only [List.mem_cons, List.mem_append] at hq ⊢
  rcases hq with h | h | h | h <;> simp [h]
structure MA (w : World) (I : Im) (name : Str) (fn : Addr) : Prop extends MF w I name fn where
  hs : specialIn (KF w.params) (.ref fn) "__get__" = some (some (.builtin "function.__get__"))
  ht : takesIn (KF w.params) (.ref fn) = some false
  hc : copiedNames.contains name = false
theorem get_meth {name : Str} {fn : Addr} {s : Shared} {e : Bool} {Q : Value → Shared → Prop} {E : Value → Shared → Prop} (O : c.Ok w sc n) (M : MA w I name fn) (R : Rel I rest c σ s) (k : ∀ q s', Rel I ((q, methodObj (.ref fn) (.ref I.x)) :: rest) c σ s' → Q (.ref q) s') :
    wpAny (MD w) c.A (getAttr (.ref I.x) name e) Q E s := by
  obtain ⟨m, F, lo⟩ := R.fr
  obtain ⟨hse, t, ad, os, had, hl, N⟩ := R.led
  refine kbm_bound F O.X N (inst_at N) (F_plain _ _) (F_hasDict _) M.ha M.hf M.hs M.ht M.hc (M.hl _ ad t) fun q h' F' N' lt => k q _ (R.push ⟨m, F', lo⟩ (fun b hb => ?_) ⟨t, ad, os, had, hl, N'⟩)
  rcases List.mem_cons.mp hb with rfl | hb
  · exact (Nat.ne_of_lt (lt _ (.head _))).symm
  · rcases List.mem_cons.mp hb with rfl | hb
    · exact (Nat.ne_of_lt (lt _ (.tail _ (.head _)))).symm
    · obtain ⟨x, hx, rfl⟩ := List.mem_map.mp hb
      obtain ⟨j, hj⟩ := List.mem_iff_getElem?.mp hx
      obtain ⟨vs, _, hm⟩ := hl.at hj
      exact (Nat.ne_of_lt (lt _ (.tail _ (.tail _ (List.mem_append_left _ hm))))).symm
theorem ev_mb {o name o2 am : Str} {op apos pos op2 ap2 : Pos} {fn fa : Addr} {pl : Sem Bool} {K : AV → Sg → Prop} (O : c.Ok w sc n) (M : MF w I name fn) (MA : MA w I am fa) (hx : σ.loc.lookup o = some (.val (.ref I.x)))
    (h : ∀ q, Cal w I ((q, methodObj (.ref fa) (.ref I.x)) :: rest) c fn [.val (.ref I.x), .val (.ref q)] σ K)
    (he : methE sc c o name op apos pos [.Attribute (.Name o op2) am ap2] pl := by rfl) (hk : (c.env sc).kindOf o = some .local := by rfl) (hd : (o == ("__debug__" : Str)) = false := by rfl) (hs : starEach [.Attribute (.Name o op2) am ap2] (c.env sc) = (false, eval (.Attribute (.Name o op2) am ap2) (c.env sc)) :: starEach [] (c.env sc) := by rfl) : Ev w I rest sc c (.Call (.Attribute (.Name o op) name apos) [.Attribute (.Name o op2) am ap2] [] pos) σ K := by
  intro Q E s R k
  refine MethodCall_ (ev_name (K := fun a σ' => a = .val (.ref I.x) ∧ σ' = σ) O hx ⟨rfl, rfl⟩ hk hd _ _ _ R fun v a σ' s' q hv R' => ?_) he
  obtain ⟨rfl, rfl⟩ := q
  subst hv
  refine meth_at O M R' (callWith_K O.X M.hk (args_cons (Attribute_Name_ (ev_name (K := fun a σ1 => a = .val (.ref I.x) ∧ σ1 = σ') O hx ⟨rfl, rfl⟩ hk hd _ _ _ R' fun v a σ1 s1 q1 hv1 R1 => ?_)) hs) hs)
  obtain ⟨rfl, rfl⟩ := q1
  subst hv1
  exact get_meth O MA R1 fun q s2 R2 => args_nil ⟨R2.K O, wpAny_call ((h q).use (.cons rfl (.cons rfl .nil)) R2 fun v a σ3 s3 h3 hv3 R3 => k _ _ _ _ h3 hv3 R3.pop)⟩
theorem ev_mb2 {o name o2 am : Str} {op apos pos op2 ap2 : Pos} {e : Expr} {fn fa : Addr} {pl : Sem Bool} {K : AV → Sg → Prop} (O : c.Ok w sc n) (M : MF w I name fn) (MA : MA w I am fa) (hx : σ.loc.lookup o = some (.val (.ref I.x)))
    (h : ∀ q, Ev w I ((q, methodObj (.ref fa) (.ref I.x)) :: rest) sc c e σ fun a σ1 => Cal w I ((q, methodObj (.ref fa) (.ref I.x)) :: rest) c fn [.val (.ref I.x), .val (.ref q), a] σ1 K)
    (he : methE sc c o name op apos pos [.Attribute (.Name o op2) am ap2, e] pl := by rfl) (hk : (c.env sc).kindOf o = some .local := by rfl) (hd : (o == ("__debug__" : Str)) = false := by rfl) (hs : starEach [.Attribute (.Name o op2) am ap2, e] (c.env sc) = (false, eval (.Attribute (.Name o op2) am ap2) (c.env sc)) :: starEach [e] (c.env sc) := by rfl)
    (hs2 : starEach [e] (c.env sc) = (false, eval e (c.env sc)) :: starEach [] (c.env sc) := by rfl) (hs3 : ((backTo pos (starEach [e] (c.env sc))).any fun x => x.fst) = false := by rfl) : Ev w I rest sc c (.Call (.Attribute (.Name o op) name apos) [.Attribute (.Name o op2) am ap2, e] [] pos) σ K := by
  intro Q E s R k
  refine MethodCall_ (ev_name (K := fun a σ' => a = .val (.ref I.x) ∧ σ' = σ) O hx ⟨rfl, rfl⟩ hk hd _ _ _ R fun v a σ' s' q hv R' => ?_) he
  obtain ⟨rfl, rfl⟩ := q
  subst hv
  refine meth_at O M R' (callWith_K O.X M.hk (args_cons (Attribute_Name_ (ev_name (K := fun a σ1 => a = .val (.ref I.x) ∧ σ1 = σ') O hx ⟨rfl, rfl⟩ hk hd _ _ _ R' fun v a σ1 s1 q1 hv1 R1 => ?_)) hs) hs hs3)
  obtain ⟨rfl, rfl⟩ := q1
  subst hv1
  exact get_meth O MA R1 fun q s2 R2 => args_cons (h q _ _ _ R2 fun v a σ3 s3 h3 hv3 R3 => args_nil ⟨R3.K O, wpAny_call (h3.use (.cons rfl (.cons rfl (.cons hv3 .nil))) R3 fun v a σ4 s4 h4 hv4 R4 => k _ _ _ _ h4 hv4 R4.pop)⟩) hs2
/-- a call of a method that a name holds -/
theorem ev_b0 {o : Str} {op pos : Pos} {q fn : Addr} {K : AV → Sg → Prop} (O : c.Ok w sc n) (hx : σ.loc.lookup o = some (.val (.ref q))) (hq : (q, methodObj (.ref fn) (.ref I.x)) ∈ rest) (hN : fnIn (KF w.params) fn = true) (h : Cal w I rest c fn [.val (.ref I.x)] σ K)
    (he : eval (.Call (.Name o op) [] [] pos) (c.env sc) = (do let f ← eval (.Name o op) (c.env sc); callWith pos f [] (backTo pos (starEach [] (c.env sc))) (backToKw pos (keywordEach [] (c.env sc)))) := by rfl) (hk : (c.env sc).kindOf o = some .local := by rfl) (hd : (o == ("__debug__" : Str)) = false := by rfl) : Ev w I rest sc c (.Call (.Name o op) [] [] pos) σ K := by
  intro Q E s R k
  refine Call_ (ev_name (K := fun a σ' => a = .val (.ref q) ∧ σ' = σ) O hx ⟨rfl, rfl⟩ hk hd _ _ _ R fun v a σ' s' q1 hv R' => ?_) he
  obtain ⟨rfl, rfl⟩ := q1
  subst hv
  obtain ⟨m, F, lo⟩ := R'.fr
  obtain ⟨hse, t, ad, os, had, hl, N⟩ := R'.led
  have hm := List.mem_cons_of_mem (I.x, instObj 1428 I.d) (List.mem_cons_of_mem (I.d, dictOf (mq I σ'.r ad t) 16) (List.mem_append_right os hq))
  exact callWith_M0 (methP N hm (R'.K O)) hN (call_meth N hm (h.use (.cons rfl .nil) R' fun v a σ2 s2 h2 hv2 R2 => k _ _ _ _ h2 hv2 R2))
end
end Mine
end
section
open PySem PySem.W PySem.Calls PyProof.Rows
set_option maxRecDepth 100000
set_option maxHeartbeats 4000000
namespace Mine
theorem iaddW (w : World) {A : Around} {E : Value → Shared → Prop} {s : Shared} {a b : Int} {t u : Tok} {Q : Value → Shared → Prop} (_ : pT a b) (h : Q (.int (a + b) s.toks) { s with toks := s.toks + 1 }) : wpAny (MD w) A (inplaceOp .Add (.int a t) (.int b u)) Q E s := iadd_int h
theorem isubW (w : World) {A : Around} {E : Value → Shared → Prop} {s : Shared} {a b : Int} {t u : Tok} {Q : Value → Shared → Prop} (_ : pT a b) (h : Q (.int (a - b) s.toks) { s with toks := s.toks + 1 }) : wpAny (MD w) A (inplaceOp .Sub (.int a t) (.int b u)) Q E s := isub_int h
theorem iandW (w : World) {A : Around} {E : Value → Shared → Prop} {s : Shared} {a b : Int} {t u : Tok} {Q : Value → Shared → Prop} (_ : pT a b) (h : Q (.int (Builtin.bitAnd a b) s.toks) { s with toks := s.toks + 1 }) : wpAny (MD w) A (inplaceOp .BitAnd (.int a t) (.int b u)) Q E s := iand_int h
theorem iorW (w : World) {A : Around} {E : Value → Shared → Prop} {s : Shared} {a b : Int} {t u : Tok} {Q : Value → Shared → Prop} (_ : pT a b) (h : Q (.int (Builtin.bitOr a b) s.toks) { s with toks := s.toks + 1 }) : wpAny (MD w) A (inplaceOp .BitOr (.int a t) (.int b u)) Q E s := ior_int h
theorem ixorW (w : World) {A : Around} {E : Value → Shared → Prop} {s : Shared} {a b : Int} {t u : Tok} {Q : Value → Shared → Prop} (_ : pT a b) (h : Q (.int (Builtin.bitXor a b) s.toks) { s with toks := s.toks + 1 }) : wpAny (MD w) A (inplaceOp .BitXor (.int a t) (.int b u)) Q E s := ixor_int h
section
variable {w : World} {I : Im} {rest : List (Addr × Obj)} {sc : Scope} {c : Cx} {n : Nat}
variable {loc : List (Str × AV)} {ls : List (Addr × List Int)} {eX cY pC sP aA xX yY pP : Int} {aD : AV}
section
variable {o : Str} {op pos : Pos} {K : AV → Sg → Prop}
theorem vg_ex (O : c.Ok w sc n) (hx : loc.lookup o = some (.val (.ref I.x))) (h : K (.int eX) ⟨loc, ⟨eX, cY, pC, sP, aA, xX, yY, pP, aD⟩, ls⟩) (hk : (c.env sc).kindOf o = some .local := by rfl) (hd : (o == ("__debug__" : Str)) = false := by rfl) : Ev w I rest sc c (.Attribute (.Name o op) "excycles" pos) ⟨loc, ⟨eX, cY, pC, sP, aA, xX, yY, pP, aD⟩, ls⟩ K := ev_ex O hx h hk hd
theorem vg_cyc (O : c.Ok w sc n) (hx : loc.lookup o = some (.val (.ref I.x))) (h : K (.int cY) ⟨loc, ⟨eX, cY, pC, sP, aA, xX, yY, pP, aD⟩, ls⟩) (hk : (c.env sc).kindOf o = some .local := by rfl) (hd : (o == ("__debug__" : Str)) = false := by rfl) : Ev w I rest sc c (.Attribute (.Name o op) "processorCycles" pos) ⟨loc, ⟨eX, cY, pC, sP, aA, xX, yY, pP, aD⟩, ls⟩ K := ev_cyc O hx h hk hd
theorem vg_pc (O : c.Ok w sc n) (hx : loc.lookup o = some (.val (.ref I.x))) (h : K (.int pC) ⟨loc, ⟨eX, cY, pC, sP, aA, xX, yY, pP, aD⟩, ls⟩) (hk : (c.env sc).kindOf o = some .local := by rfl) (hd : (o == ("__debug__" : Str)) = false := by rfl) : Ev w I rest sc c (.Attribute (.Name o op) "pc" pos) ⟨loc, ⟨eX, cY, pC, sP, aA, xX, yY, pP, aD⟩, ls⟩ K := ev_pc O hx h hk hd
theorem vg_sp (O : c.Ok w sc n) (hx : loc.lookup o = some (.val (.ref I.x))) (h : K (.int sP) ⟨loc, ⟨eX, cY, pC, sP, aA, xX, yY, pP, aD⟩, ls⟩) (hk : (c.env sc).kindOf o = some .local := by rfl) (hd : (o == ("__debug__" : Str)) = false := by rfl) : Ev w I rest sc c (.Attribute (.Name o op) "sp" pos) ⟨loc, ⟨eX, cY, pC, sP, aA, xX, yY, pP, aD⟩, ls⟩ K := ev_sp O hx h hk hd
theorem vg_a (O : c.Ok w sc n) (hx : loc.lookup o = some (.val (.ref I.x))) (h : K (.int aA) ⟨loc, ⟨eX, cY, pC, sP, aA, xX, yY, pP, aD⟩, ls⟩) (hk : (c.env sc).kindOf o = some .local := by rfl) (hd : (o == ("__debug__" : Str)) = false := by rfl) : Ev w I rest sc c (.Attribute (.Name o op) "a" pos) ⟨loc, ⟨eX, cY, pC, sP, aA, xX, yY, pP, aD⟩, ls⟩ K := ev_a O hx h hk hd
theorem vg_x (O : c.Ok w sc n) (hx : loc.lookup o = some (.val (.ref I.x))) (h : K (.int xX) ⟨loc, ⟨eX, cY, pC, sP, aA, xX, yY, pP, aD⟩, ls⟩) (hk : (c.env sc).kindOf o = some .local := by rfl) (hd : (o == ("__debug__" : Str)) = false := by rfl) : Ev w I rest sc c (.Attribute (.Name o op) "x" pos) ⟨loc, ⟨eX, cY, pC, sP, aA, xX, yY, pP, aD⟩, ls⟩ K := ev_x O hx h hk hd
theorem vg_y (O : c.Ok w sc n) (hx : loc.lookup o = some (.val (.ref I.x))) (h : K (.int yY) ⟨loc, ⟨eX, cY, pC, sP, aA, xX, yY, pP, aD⟩, ls⟩) (hk : (c.env sc).kindOf o = some .local := by rfl) (hd : (o == ("__debug__" : Str)) = false := by rfl) : Ev w I rest sc c (.Attribute (.Name o op) "y" pos) ⟨loc, ⟨eX, cY, pC, sP, aA, xX, yY, pP, aD⟩, ls⟩ K := ev_y O hx h hk hd
theorem vg_p (O : c.Ok w sc n) (hx : loc.lookup o = some (.val (.ref I.x))) (h : K (.int pP) ⟨loc, ⟨eX, cY, pC, sP, aA, xX, yY, pP, aD⟩, ls⟩) (hk : (c.env sc).kindOf o = some .local := by rfl) (hd : (o == ("__debug__" : Str)) = false := by rfl) : Ev w I rest sc c (.Attribute (.Name o op) "p" pos) ⟨loc, ⟨eX, cY, pC, sP, aA, xX, yY, pP, aD⟩, ls⟩ K := ev_p O hx h hk hd
theorem vg_ad {i : Int} {tt : Tok} (O : c.Ok w sc n) (hx : loc.lookup o = some (.val (.ref I.x))) (h : K (.int i) ⟨loc, ⟨eX, cY, pC, sP, aA, xX, yY, pP, .val (.int i tt)⟩, ls⟩) (hk : (c.env sc).kindOf o = some .local := by rfl) (hd : (o == ("__debug__" : Str)) = false := by rfl) : Ev w I rest sc c (.Attribute (.Name o op) "addcycles" pos) ⟨loc, ⟨eX, cY, pC, sP, aA, xX, yY, pP, .val (.int i tt)⟩, ls⟩ K := ev_ad O hx rfl h hk hd
end
section
variable {Kn : Sg → Prop} {Kr : AV → Sg → Prop} {o : Str} {op p' pos : Pos} {e : Expr} {i old : Int} {g : Int → Int → Int}
theorem ks_ex (h : loc.lookup o = some (.val (.ref I.x))) (k : Kn ⟨loc, ⟨i, cY, pC, sP, aA, xX, yY, pP, aD⟩, ls⟩) : KS o I (Fld.set .ex) Kn (.int i) ⟨loc, ⟨eX, cY, pC, sP, aA, xX, yY, pP, aD⟩, ls⟩ := ⟨h, k⟩
theorem ka_ex (k : Kn ⟨loc, ⟨(g old i), cY, pC, sP, aA, xX, yY, pP, aD⟩, ls⟩) : KA pT g .ex old Kn (.int i) ⟨loc, ⟨eX, cY, pC, sP, aA, xX, yY, pP, aD⟩, ls⟩ := ⟨trivial, k⟩
theorem vs_ex (O : c.Ok w sc n) (h : Ev w I rest sc c e ⟨loc, ⟨eX, cY, pC, sP, aA, xX, yY, pP, aD⟩, ls⟩ fun a σ1 => KS o I (Fld.set .ex) Kn a σ1) (hk : (c.env sc).kindOf o = some .local := by rfl) (hd : (o == ("__debug__" : Str)) = false := by rfl) (hs : swapsWith e (some (.Attribute (.Name o op) "excycles" p')) pos.line (c.env sc) = pure false := by rfl) : Ex w I rest sc c (.Assign [.Attribute (.Name o op) "excycles" p'] e pos) ⟨loc, ⟨eX, cY, pC, sP, aA, xX, yY, pP, aD⟩, ls⟩ Kn Kr := ex_setf .ex O h hk hd hs
theorem vaadd_ex (O : c.Ok w sc n) (hx : loc.lookup o = some (.val (.ref I.x))) (h : Ev w I rest sc c e ⟨loc, ⟨eX, cY, pC, sP, aA, xX, yY, pP, aD⟩, ls⟩ fun a σ1 => KA pT HAdd.hAdd .ex eX Kn a σ1) (hk : (c.env sc).kindOf o = some .local := by rfl) (hd : (o == ("__debug__" : Str)) = false := by rfl) : Ex w I rest sc c (.AugAssign (.Attribute (.Name o op) "excycles" p') .Add e pos) ⟨loc, ⟨eX, cY, pC, sP, aA, xX, yY, pP, aD⟩, ls⟩ Kn Kr := ex_aug .ex O (@iaddW w) hx h hk hd
theorem vasub_ex (O : c.Ok w sc n) (hx : loc.lookup o = some (.val (.ref I.x))) (h : Ev w I rest sc c e ⟨loc, ⟨eX, cY, pC, sP, aA, xX, yY, pP, aD⟩, ls⟩ fun a σ1 => KA pT HSub.hSub .ex eX Kn a σ1) (hk : (c.env sc).kindOf o = some .local := by rfl) (hd : (o == ("__debug__" : Str)) = false := by rfl) : Ex w I rest sc c (.AugAssign (.Attribute (.Name o op) "excycles" p') .Sub e pos) ⟨loc, ⟨eX, cY, pC, sP, aA, xX, yY, pP, aD⟩, ls⟩ Kn Kr := ex_aug .ex O (@isubW w) hx h hk hd
theorem vaand_ex (O : c.Ok w sc n) (hx : loc.lookup o = some (.val (.ref I.x))) (h : Ev w I rest sc c e ⟨loc, ⟨eX, cY, pC, sP, aA, xX, yY, pP, aD⟩, ls⟩ fun a σ1 => KA pT Builtin.bitAnd .ex eX Kn a σ1) (hk : (c.env sc).kindOf o = some .local := by rfl) (hd : (o == ("__debug__" : Str)) = false := by rfl) : Ex w I rest sc c (.AugAssign (.Attribute (.Name o op) "excycles" p') .BitAnd e pos) ⟨loc, ⟨eX, cY, pC, sP, aA, xX, yY, pP, aD⟩, ls⟩ Kn Kr := ex_aug .ex O (@iandW w) hx h hk hd
theorem vaor_ex (O : c.Ok w sc n) (hx : loc.lookup o = some (.val (.ref I.x))) (h : Ev w I rest sc c e ⟨loc, ⟨eX, cY, pC, sP, aA, xX, yY, pP, aD⟩, ls⟩ fun a σ1 => KA pT Builtin.bitOr .ex eX Kn a σ1) (hk : (c.env sc).kindOf o = some .local := by rfl) (hd : (o == ("__debug__" : Str)) = false := by rfl) : Ex w I rest sc c (.AugAssign (.Attribute (.Name o op) "excycles" p') .BitOr e pos) ⟨loc, ⟨eX, cY, pC, sP, aA, xX, yY, pP, aD⟩, ls⟩ Kn Kr := ex_aug .ex O (@iorW w) hx h hk hd
theorem vaxor_ex (O : c.Ok w sc n) (hx : loc.lookup o = some (.val (.ref I.x))) (h : Ev w I rest sc c e ⟨loc, ⟨eX, cY, pC, sP, aA, xX, yY, pP, aD⟩, ls⟩ fun a σ1 => KA pT Builtin.bitXor .ex eX Kn a σ1) (hk : (c.env sc).kindOf o = some .local := by rfl) (hd : (o == ("__debug__" : Str)) = false := by rfl) : Ex w I rest sc c (.AugAssign (.Attribute (.Name o op) "excycles" p') .BitXor e pos) ⟨loc, ⟨eX, cY, pC, sP, aA, xX, yY, pP, aD⟩, ls⟩ Kn Kr := ex_aug .ex O (@ixorW w) hx h hk hd
theorem ks_cyc (h : loc.lookup o = some (.val (.ref I.x))) (k : Kn ⟨loc, ⟨eX, i, pC, sP, aA, xX, yY, pP, aD⟩, ls⟩) : KS o I (Fld.set .cyc) Kn (.int i) ⟨loc, ⟨eX, cY, pC, sP, aA, xX, yY, pP, aD⟩, ls⟩ := ⟨h, k⟩
theorem ka_cyc (k : Kn ⟨loc, ⟨eX, (g old i), pC, sP, aA, xX, yY, pP, aD⟩, ls⟩) : KA pT g .cyc old Kn (.int i) ⟨loc, ⟨eX, cY, pC, sP, aA, xX, yY, pP, aD⟩, ls⟩ := ⟨trivial, k⟩
theorem vs_cyc (O : c.Ok w sc n) (h : Ev w I rest sc c e ⟨loc, ⟨eX, cY, pC, sP, aA, xX, yY, pP, aD⟩, ls⟩ fun a σ1 => KS o I (Fld.set .cyc) Kn a σ1) (hk : (c.env sc).kindOf o = some .local := by rfl) (hd : (o == ("__debug__" : Str)) = false := by rfl) (hs : swapsWith e (some (.Attribute (.Name o op) "processorCycles" p')) pos.line (c.env sc) = pure false := by rfl) : Ex w I rest sc c (.Assign [.Attribute (.Name o op) "processorCycles" p'] e pos) ⟨loc, ⟨eX, cY, pC, sP, aA, xX, yY, pP, aD⟩, ls⟩ Kn Kr := ex_setf .cyc O h hk hd hs
theorem vaadd_cyc (O : c.Ok w sc n) (hx : loc.lookup o = some (.val (.ref I.x))) (h : Ev w I rest sc c e ⟨loc, ⟨eX, cY, pC, sP, aA, xX, yY, pP, aD⟩, ls⟩ fun a σ1 => KA pT HAdd.hAdd .cyc cY Kn a σ1) (hk : (c.env sc).kindOf o = some .local := by rfl) (hd : (o == ("__debug__" : Str)) = false := by rfl) : Ex w I rest sc c (.AugAssign (.Attribute (.Name o op) "processorCycles" p') .Add e pos) ⟨loc, ⟨eX, cY, pC, sP, aA, xX, yY, pP, aD⟩, ls⟩ Kn Kr := ex_aug .cyc O (@iaddW w) hx h hk hd
theorem vasub_cyc (O : c.Ok w sc n) (hx : loc.lookup o = some (.val (.ref I.x))) (h : Ev w I rest sc c e ⟨loc, ⟨eX, cY, pC, sP, aA, xX, yY, pP, aD⟩, ls⟩ fun a σ1 => KA pT HSub.hSub .cyc cY Kn a σ1) (hk : (c.env sc).kindOf o = some .local := by rfl) (hd : (o == ("__debug__" : Str)) = false := by rfl) : Ex w I rest sc c (.AugAssign (.Attribute (.Name o op) "processorCycles" p') .Sub e pos) ⟨loc, ⟨eX, cY, pC, sP, aA, xX, yY, pP, aD⟩, ls⟩ Kn Kr := ex_aug .cyc O (@isubW w) hx h hk hd
theorem vaand_cyc (O : c.Ok w sc n) (hx : loc.lookup o = some (.val (.ref I.x))) (h : Ev w I rest sc c e ⟨loc, ⟨eX, cY, pC, sP, aA, xX, yY, pP, aD⟩, ls⟩ fun a σ1 => KA pT Builtin.bitAnd .cyc cY Kn a σ1) (hk : (c.env sc).kindOf o = some .local := by rfl) (hd : (o == ("__debug__" : Str)) = false := by rfl) : Ex w I rest sc c (.AugAssign (.Attribute (.Name o op) "processorCycles" p') .BitAnd e pos) ⟨loc, ⟨eX, cY, pC, sP, aA, xX, yY, pP, aD⟩, ls⟩ Kn Kr := ex_aug .cyc O (@iandW w) hx h hk hd
theorem vaor_cyc (O : c.Ok w sc n) (hx : loc.lookup o = some (.val (.ref I.x))) (h : Ev w I rest sc c e ⟨loc, ⟨eX, cY, pC, sP, aA, xX, yY, pP, aD⟩, ls⟩ fun a σ1 => KA pT Builtin.bitOr .cyc cY Kn a σ1) (hk : (c.env sc).kindOf o = some .local := by rfl) (hd : (o == ("__debug__" : Str)) = false := by rfl) : Ex w I rest sc c (.AugAssign (.Attribute (.Name o op) "processorCycles" p') .BitOr e pos) ⟨loc, ⟨eX, cY, pC, sP, aA, xX, yY, pP, aD⟩, ls⟩ Kn Kr := ex_aug .cyc O (@iorW w) hx h hk hd
theorem vaxor_cyc (O : c.Ok w sc n) (hx : loc.lookup o = some (.val (.ref I.x))) (h : Ev w I rest sc c e ⟨loc, ⟨eX, cY, pC, sP, aA, xX, yY, pP, aD⟩, ls⟩ fun a σ1 => KA pT Builtin.bitXor .cyc cY Kn a σ1) (hk : (c.env sc).kindOf o = some .local := by rfl) (hd : (o == ("__debug__" : Str)) = false := by rfl) : Ex w I rest sc c (.AugAssign (.Attribute (.Name o op) "processorCycles" p') .BitXor e pos) ⟨loc, ⟨eX, cY, pC, sP, aA, xX, yY, pP, aD⟩, ls⟩ Kn Kr := ex_aug .cyc O (@ixorW w) hx h hk hd
theorem ks_pc (h : loc.lookup o = some (.val (.ref I.x))) (k : Kn ⟨loc, ⟨eX, cY, i, sP, aA, xX, yY, pP, aD⟩, ls⟩) : KS o I (Fld.set .pc) Kn (.int i) ⟨loc, ⟨eX, cY, pC, sP, aA, xX, yY, pP, aD⟩, ls⟩ := ⟨h, k⟩
theorem ka_pc (k : Kn ⟨loc, ⟨eX, cY, (g old i), sP, aA, xX, yY, pP, aD⟩, ls⟩) : KA pT g .pc old Kn (.int i) ⟨loc, ⟨eX, cY, pC, sP, aA, xX, yY, pP, aD⟩, ls⟩ := ⟨trivial, k⟩
theorem vs_pc (O : c.Ok w sc n) (h : Ev w I rest sc c e ⟨loc, ⟨eX, cY, pC, sP, aA, xX, yY, pP, aD⟩, ls⟩ fun a σ1 => KS o I (Fld.set .pc) Kn a σ1) (hk : (c.env sc).kindOf o = some .local := by rfl) (hd : (o == ("__debug__" : Str)) = false := by rfl) (hs : swapsWith e (some (.Attribute (.Name o op) "pc" p')) pos.line (c.env sc) = pure false := by rfl) : Ex w I rest sc c (.Assign [.Attribute (.Name o op) "pc" p'] e pos) ⟨loc, ⟨eX, cY, pC, sP, aA, xX, yY, pP, aD⟩, ls⟩ Kn Kr := ex_setf .pc O h hk hd hs
theorem vaadd_pc (O : c.Ok w sc n) (hx : loc.lookup o = some (.val (.ref I.x))) (h : Ev w I rest sc c e ⟨loc, ⟨eX, cY, pC, sP, aA, xX, yY, pP, aD⟩, ls⟩ fun a σ1 => KA pT HAdd.hAdd .pc pC Kn a σ1) (hk : (c.env sc).kindOf o = some .local := by rfl) (hd : (o == ("__debug__" : Str)) = false := by rfl) : Ex w I rest sc c (.AugAssign (.Attribute (.Name o op) "pc" p') .Add e pos) ⟨loc, ⟨eX, cY, pC, sP, aA, xX, yY, pP, aD⟩, ls⟩ Kn Kr := ex_aug .pc O (@iaddW w) hx h hk hd
theorem vasub_pc (O : c.Ok w sc n) (hx : loc.lookup o = some (.val (.ref I.x))) (h : Ev w I rest sc c e ⟨loc, ⟨eX, cY, pC, sP, aA, xX, yY, pP, aD⟩, ls⟩ fun a σ1 => KA pT HSub.hSub .pc pC Kn a σ1) (hk : (c.env sc).kindOf o = some .local := by rfl) (hd : (o == ("__debug__" : Str)) = false := by rfl) : Ex w I rest sc c (.AugAssign (.Attribute (.Name o op) "pc" p') .Sub e pos) ⟨loc, ⟨eX, cY, pC, sP, aA, xX, yY, pP, aD⟩, ls⟩ Kn Kr := ex_aug .pc O (@isubW w) hx h hk hd
theorem vaand_pc (O : c.Ok w sc n) (hx : loc.lookup o = some (.val (.ref I.x))) (h : Ev w I rest sc c e ⟨loc, ⟨eX, cY, pC, sP, aA, xX, yY, pP, aD⟩, ls⟩ fun a σ1 => KA pT Builtin.bitAnd .pc pC Kn a σ1) (hk : (c.env sc).kindOf o = some .local := by rfl) (hd : (o == ("__debug__" : Str)) = false := by rfl) : Ex w I rest sc c (.AugAssign (.Attribute (.Name o op) "pc" p') .BitAnd e pos) ⟨loc, ⟨eX, cY, pC, sP, aA, xX, yY, pP, aD⟩, ls⟩ Kn Kr := ex_aug .pc O (@iandW w) hx h hk hd
theorem vaor_pc (O : c.Ok w sc n) (hx : loc.lookup o = some (.val (.ref I.x))) (h : Ev w I rest sc c e ⟨loc, ⟨eX, cY, pC, sP, aA, xX, yY, pP, aD⟩, ls⟩ fun a σ1 => KA pT Builtin.bitOr .pc pC Kn a σ1) (hk : (c.env sc).kindOf o = some .local := by rfl) (hd : (o == ("__debug__" : Str)) = false := by rfl) : Ex w I rest sc c (.AugAssign (.Attribute (.Name o op) "pc" p') .BitOr e pos) ⟨loc, ⟨eX, cY, pC, sP, aA, xX, yY, pP, aD⟩, ls⟩ Kn Kr := ex_aug .pc O (@iorW w) hx h hk hd
theorem vaxor_pc (O : c.Ok w sc n) (hx : loc.lookup o = some (.val (.ref I.x))) (h : Ev w I rest sc c e ⟨loc, ⟨eX, cY, pC, sP, aA, xX, yY, pP, aD⟩, ls⟩ fun a σ1 => KA pT Builtin.bitXor .pc pC Kn a σ1) (hk : (c.env sc).kindOf o = some .local := by rfl) (hd : (o == ("__debug__" : Str)) = false := by rfl) : Ex w I rest sc c (.AugAssign (.Attribute (.Name o op) "pc" p') .BitXor e pos) ⟨loc, ⟨eX, cY, pC, sP, aA, xX, yY, pP, aD⟩, ls⟩ Kn Kr := ex_aug .pc O (@ixorW w) hx h hk hd
theorem ks_sp (h : loc.lookup o = some (.val (.ref I.x))) (k : Kn ⟨loc, ⟨eX, cY, pC, i, aA, xX, yY, pP, aD⟩, ls⟩) : KS o I (Fld.set .sp) Kn (.int i) ⟨loc, ⟨eX, cY, pC, sP, aA, xX, yY, pP, aD⟩, ls⟩ := ⟨h, k⟩
theorem ka_sp (k : Kn ⟨loc, ⟨eX, cY, pC, (g old i), aA, xX, yY, pP, aD⟩, ls⟩) : KA pT g .sp old Kn (.int i) ⟨loc, ⟨eX, cY, pC, sP, aA, xX, yY, pP, aD⟩, ls⟩ := ⟨trivial, k⟩
theorem vs_sp (O : c.Ok w sc n) (h : Ev w I rest sc c e ⟨loc, ⟨eX, cY, pC, sP, aA, xX, yY, pP, aD⟩, ls⟩ fun a σ1 => KS o I (Fld.set .sp) Kn a σ1) (hk : (c.env sc).kindOf o = some .local := by rfl) (hd : (o == ("__debug__" : Str)) = false := by rfl) (hs : swapsWith e (some (.Attribute (.Name o op) "sp" p')) pos.line (c.env sc) = pure false := by rfl) : Ex w I rest sc c (.Assign [.Attribute (.Name o op) "sp" p'] e pos) ⟨loc, ⟨eX, cY, pC, sP, aA, xX, yY, pP, aD⟩, ls⟩ Kn Kr := ex_setf .sp O h hk hd hs
theorem vaadd_sp (O : c.Ok w sc n) (hx : loc.lookup o = some (.val (.ref I.x))) (h : Ev w I rest sc c e ⟨loc, ⟨eX, cY, pC, sP, aA, xX, yY, pP, aD⟩, ls⟩ fun a σ1 => KA pT HAdd.hAdd .sp sP Kn a σ1) (hk : (c.env sc).kindOf o = some .local := by rfl) (hd : (o == ("__debug__" : Str)) = false := by rfl) : Ex w I rest sc c (.AugAssign (.Attribute (.Name o op) "sp" p') .Add e pos) ⟨loc, ⟨eX, cY, pC, sP, aA, xX, yY, pP, aD⟩, ls⟩ Kn Kr := ex_aug .sp O (@iaddW w) hx h hk hd
theorem vasub_sp (O : c.Ok w sc n) (hx : loc.lookup o = some (.val (.ref I.x))) (h : Ev w I rest sc c e ⟨loc, ⟨eX, cY, pC, sP, aA, xX, yY, pP, aD⟩, ls⟩ fun a σ1 => KA pT HSub.hSub .sp sP Kn a σ1) (hk : (c.env sc).kindOf o = some .local := by rfl) (hd : (o == ("__debug__" : Str)) = false := by rfl) : Ex w I rest sc c (.AugAssign (.Attribute (.Name o op) "sp" p') .Sub e pos) ⟨loc, ⟨eX, cY, pC, sP, aA, xX, yY, pP, aD⟩, ls⟩ Kn Kr := ex_aug .sp O (@isubW w) hx h hk hd
theorem vaand_sp (O : c.Ok w sc n) (hx : loc.lookup o = some (.val (.ref I.x))) (h : Ev w I rest sc c e ⟨loc, ⟨eX, cY, pC, sP, aA, xX, yY, pP, aD⟩, ls⟩ fun a σ1 => KA pT Builtin.bitAnd .sp sP Kn a σ1) (hk : (c.env sc).kindOf o = some .local := by rfl) (hd : (o == ("__debug__" : Str)) = false := by rfl) : Ex w I rest sc c (.AugAssign (.Attribute (.Name o op) "sp" p') .BitAnd e pos) ⟨loc, ⟨eX, cY, pC, sP, aA, xX, yY, pP, aD⟩, ls⟩ Kn Kr := ex_aug .sp O (@iandW w) hx h hk hd
theorem vaor_sp (O : c.Ok w sc n) (hx : loc.lookup o = some (.val (.ref I.x))) (h : Ev w I rest sc c e ⟨loc, ⟨eX, cY, pC, sP, aA, xX, yY, pP, aD⟩, ls⟩ fun a σ1 => KA pT Builtin.bitOr .sp sP Kn a σ1) (hk : (c.env sc).kindOf o = some .local := by rfl) (hd : (o == ("__debug__" : Str)) = false := by rfl) : Ex w I rest sc c (.AugAssign (.Attribute (.Name o op) "sp" p') .BitOr e pos) ⟨loc, ⟨eX, cY, pC, sP, aA, xX, yY, pP, aD⟩, ls⟩ Kn Kr := ex_aug .sp O (@iorW w) hx h hk hd
theorem vaxor_sp (O : c.Ok w sc n) (hx : loc.lookup o = some (.val (.ref I.x))) (h : Ev w I rest sc c e ⟨loc, ⟨eX, cY, pC, sP, aA, xX, yY, pP, aD⟩, ls⟩ fun a σ1 => KA pT Builtin.bitXor .sp sP Kn a σ1) (hk : (c.env sc).kindOf o = some .local := by rfl) (hd : (o == ("__debug__" : Str)) = false := by rfl) : Ex w I rest sc c (.AugAssign (.Attribute (.Name o op) "sp" p') .BitXor e pos) ⟨loc, ⟨eX, cY, pC, sP, aA, xX, yY, pP, aD⟩, ls⟩ Kn Kr := ex_aug .sp O (@ixorW w) hx h hk hd
theorem ks_a (h : loc.lookup o = some (.val (.ref I.x))) (k : Kn ⟨loc, ⟨eX, cY, pC, sP, i, xX, yY, pP, aD⟩, ls⟩) : KS o I (Fld.set .a) Kn (.int i) ⟨loc, ⟨eX, cY, pC, sP, aA, xX, yY, pP, aD⟩, ls⟩ := ⟨h, k⟩
theorem ka_a (k : Kn ⟨loc, ⟨eX, cY, pC, sP, (g old i), xX, yY, pP, aD⟩, ls⟩) : KA pT g .a old Kn (.int i) ⟨loc, ⟨eX, cY, pC, sP, aA, xX, yY, pP, aD⟩, ls⟩ := ⟨trivial, k⟩
theorem vs_a (O : c.Ok w sc n) (h : Ev w I rest sc c e ⟨loc, ⟨eX, cY, pC, sP, aA, xX, yY, pP, aD⟩, ls⟩ fun a σ1 => KS o I (Fld.set .a) Kn a σ1) (hk : (c.env sc).kindOf o = some .local := by rfl) (hd : (o == ("__debug__" : Str)) = false := by rfl) (hs : swapsWith e (some (.Attribute (.Name o op) "a" p')) pos.line (c.env sc) = pure false := by rfl) : Ex w I rest sc c (.Assign [.Attribute (.Name o op) "a" p'] e pos) ⟨loc, ⟨eX, cY, pC, sP, aA, xX, yY, pP, aD⟩, ls⟩ Kn Kr := ex_setf .a O h hk hd hs
theorem vaadd_a (O : c.Ok w sc n) (hx : loc.lookup o = some (.val (.ref I.x))) (h : Ev w I rest sc c e ⟨loc, ⟨eX, cY, pC, sP, aA, xX, yY, pP, aD⟩, ls⟩ fun a σ1 => KA pT HAdd.hAdd .a aA Kn a σ1) (hk : (c.env sc).kindOf o = some .local := by rfl) (hd : (o == ("__debug__" : Str)) = false := by rfl) : Ex w I rest sc c (.AugAssign (.Attribute (.Name o op) "a" p') .Add e pos) ⟨loc, ⟨eX, cY, pC, sP, aA, xX, yY, pP, aD⟩, ls⟩ Kn Kr := ex_aug .a O (@iaddW w) hx h hk hd
theorem vasub_a (O : c.Ok w sc n) (hx : loc.lookup o = some (.val (.ref I.x))) (h : Ev w I rest sc c e ⟨loc, ⟨eX, cY, pC, sP, aA, xX, yY, pP, aD⟩, ls⟩ fun a σ1 => KA pT HSub.hSub .a aA Kn a σ1) (hk : (c.env sc).kindOf o = some .local := by rfl) (hd : (o == ("__debug__" : Str)) = false := by rfl) : Ex w I rest sc c (.AugAssign (.Attribute (.Name o op) "a" p') .Sub e pos) ⟨loc, ⟨eX, cY, pC, sP, aA, xX, yY, pP, aD⟩, ls⟩ Kn Kr := ex_aug .a O (@isubW w) hx h hk hd
theorem vaand_a (O : c.Ok w sc n) (hx : loc.lookup o = some (.val (.ref I.x))) (h : Ev w I rest sc c e ⟨loc, ⟨eX, cY, pC, sP, aA, xX, yY, pP, aD⟩, ls⟩ fun a σ1 => KA pT Builtin.bitAnd .a aA Kn a σ1) (hk : (c.env sc).kindOf o = some .local := by rfl) (hd : (o == ("__debug__" : Str)) = false := by rfl) : Ex w I rest sc c (.AugAssign (.Attribute (.Name o op) "a" p') .BitAnd e pos) ⟨loc, ⟨eX, cY, pC, sP, aA, xX, yY, pP, aD⟩, ls⟩ Kn Kr := ex_aug .a O (@iandW w) hx h hk hd
theorem vaor_a (O : c.Ok w sc n) (hx : loc.lookup o = some (.val (.ref I.x))) (h : Ev w I rest sc c e ⟨loc, ⟨eX, cY, pC, sP, aA, xX, yY, pP, aD⟩, ls⟩ fun a σ1 => KA pT Builtin.bitOr .a aA Kn a σ1) (hk : (c.env sc).kindOf o = some .local := by rfl) (hd : (o == ("__debug__" : Str)) = false := by rfl) : Ex w I rest sc c (.AugAssign (.Attribute (.Name o op) "a" p') .BitOr e pos) ⟨loc, ⟨eX, cY, pC, sP, aA, xX, yY, pP, aD⟩, ls⟩ Kn Kr := ex_aug .a O (@iorW w) hx h hk hd
theorem vaxor_a (O : c.Ok w sc n) (hx : loc.lookup o = some (.val (.ref I.x))) (h : Ev w I rest sc c e ⟨loc, ⟨eX, cY, pC, sP, aA, xX, yY, pP, aD⟩, ls⟩ fun a σ1 => KA pT Builtin.bitXor .a aA Kn a σ1) (hk : (c.env sc).kindOf o = some .local := by rfl) (hd : (o == ("__debug__" : Str)) = false := by rfl) : Ex w I rest sc c (.AugAssign (.Attribute (.Name o op) "a" p') .BitXor e pos) ⟨loc, ⟨eX, cY, pC, sP, aA, xX, yY, pP, aD⟩, ls⟩ Kn Kr := ex_aug .a O (@ixorW w) hx h hk hd
theorem ks_x (h : loc.lookup o = some (.val (.ref I.x))) (k : Kn ⟨loc, ⟨eX, cY, pC, sP, aA, i, yY, pP, aD⟩, ls⟩) : KS o I (Fld.set .x) Kn (.int i) ⟨loc, ⟨eX, cY, pC, sP, aA, xX, yY, pP, aD⟩, ls⟩ := ⟨h, k⟩
theorem ka_x (k : Kn ⟨loc, ⟨eX, cY, pC, sP, aA, (g old i), yY, pP, aD⟩, ls⟩) : KA pT g .x old Kn (.int i) ⟨loc, ⟨eX, cY, pC, sP, aA, xX, yY, pP, aD⟩, ls⟩ := ⟨trivial, k⟩
theorem vs_x (O : c.Ok w sc n) (h : Ev w I rest sc c e ⟨loc, ⟨eX, cY, pC, sP, aA, xX, yY, pP, aD⟩, ls⟩ fun a σ1 => KS o I (Fld.set .x) Kn a σ1) (hk : (c.env sc).kindOf o = some .local := by rfl) (hd : (o == ("__debug__" : Str)) = false := by rfl) (hs : swapsWith e (some (.Attribute (.Name o op) "x" p')) pos.line (c.env sc) = pure false := by rfl) : Ex w I rest sc c (.Assign [.Attribute (.Name o op) "x" p'] e pos) ⟨loc, ⟨eX, cY, pC, sP, aA, xX, yY, pP, aD⟩, ls⟩ Kn Kr := ex_setf .x O h hk hd hs
theorem vaadd_x (O : c.Ok w sc n) (hx : loc.lookup o = some (.val (.ref I.x))) (h : Ev w I rest sc c e ⟨loc, ⟨eX, cY, pC, sP, aA, xX, yY, pP, aD⟩, ls⟩ fun a σ1 => KA pT HAdd.hAdd .x xX Kn a σ1) (hk : (c.env sc).kindOf o = some .local := by rfl) (hd : (o == ("__debug__" : Str)) = false := by rfl) : Ex w I rest sc c (.AugAssign (.Attribute (.Name o op) "x" p') .Add e pos) ⟨loc, ⟨eX, cY, pC, sP, aA, xX, yY, pP, aD⟩, ls⟩ Kn Kr := ex_aug .x O (@iaddW w) hx h hk hd
theorem vasub_x (O : c.Ok w sc n) (hx : loc.lookup o = some (.val (.ref I.x))) (h : Ev w I rest sc c e ⟨loc, ⟨eX, cY, pC, sP, aA, xX, yY, pP, aD⟩, ls⟩ fun a σ1 => KA pT HSub.hSub .x xX Kn a σ1) (hk : (c.env sc).kindOf o = some .local := by rfl) (hd : (o == ("__debug__" : Str)) = false := by rfl) : Ex w I rest sc c (.AugAssign (.Attribute (.Name o op) "x" p') .Sub e pos) ⟨loc, ⟨eX, cY, pC, sP, aA, xX, yY, pP, aD⟩, ls⟩ Kn Kr := ex_aug .x O (@isubW w) hx h hk hd
theorem vaand_x (O : c.Ok w sc n) (hx : loc.lookup o = some (.val (.ref I.x))) (h : Ev w I rest sc c e ⟨loc, ⟨eX, cY, pC, sP, aA, xX, yY, pP, aD⟩, ls⟩ fun a σ1 => KA pT Builtin.bitAnd .x xX Kn a σ1) (hk : (c.env sc).kindOf o = some .local := by rfl) (hd : (o == ("__debug__" : Str)) = false := by rfl) : Ex w I rest sc c (.AugAssign (.Attribute (.Name o op) "x" p') .BitAnd e pos) ⟨loc, ⟨eX, cY, pC, sP, aA, xX, yY, pP, aD⟩, ls⟩ Kn Kr := ex_aug .x O (@iandW w) hx h hk hd
theorem vaor_x (O : c.Ok w sc n) (hx : loc.lookup o = some (.val (.ref I.x))) (h : Ev w I rest sc c e ⟨loc, ⟨eX, cY, pC, sP, aA, xX, yY, pP, aD⟩, ls⟩ fun a σ1 => KA pT Builtin.bitOr .x xX Kn a σ1) (hk : (c.env sc).kindOf o = some .local := by rfl) (hd : (o == ("__debug__" : Str)) = false := by rfl) : Ex w I rest sc c (.AugAssign (.Attribute (.Name o op) "x" p') .BitOr e pos) ⟨loc, ⟨eX, cY, pC, sP, aA, xX, yY, pP, aD⟩, ls⟩ Kn Kr := ex_aug .x O (@iorW w) hx h hk hd
theorem vaxor_x (O : c.Ok w sc n) (hx : loc.lookup o = some (.val (.ref I.x))) (h : Ev w I rest sc c e ⟨loc, ⟨eX, cY, pC, sP, aA, xX, yY, pP, aD⟩, ls⟩ fun a σ1 => KA pT Builtin.bitXor .x xX Kn a σ1) (hk : (c.env sc).kindOf o = some .local := by rfl) (hd : (o == ("__debug__" : Str)) = false := by rfl) : Ex w I rest sc c (.AugAssign (.Attribute (.Name o op) "x" p') .BitXor e pos) ⟨loc, ⟨eX, cY, pC, sP, aA, xX, yY, pP, aD⟩, ls⟩ Kn Kr := ex_aug .x O (@ixorW w) hx h hk hd
theorem ks_y (h : loc.lookup o = some (.val (.ref I.x))) (k : Kn ⟨loc, ⟨eX, cY, pC, sP, aA, xX, i, pP, aD⟩, ls⟩) : KS o I (Fld.set .y) Kn (.int i) ⟨loc, ⟨eX, cY, pC, sP, aA, xX, yY, pP, aD⟩, ls⟩ := ⟨h, k⟩
theorem ka_y (k : Kn ⟨loc, ⟨eX, cY, pC, sP, aA, xX, (g old i), pP, aD⟩, ls⟩) : KA pT g .y old Kn (.int i) ⟨loc, ⟨eX, cY, pC, sP, aA, xX, yY, pP, aD⟩, ls⟩ := ⟨trivial, k⟩
theorem vs_y (O : c.Ok w sc n) (h : Ev w I rest sc c e ⟨loc, ⟨eX, cY, pC, sP, aA, xX, yY, pP, aD⟩, ls⟩ fun a σ1 => KS o I (Fld.set .y) Kn a σ1) (hk : (c.env sc).kindOf o = some .local := by rfl) (hd : (o == ("__debug__" : Str)) = false := by rfl) (hs : swapsWith e (some (.Attribute (.Name o op) "y" p')) pos.line (c.env sc) = pure false := by rfl) : Ex w I rest sc c (.Assign [.Attribute (.Name o op) "y" p'] e pos) ⟨loc, ⟨eX, cY, pC, sP, aA, xX, yY, pP, aD⟩, ls⟩ Kn Kr := ex_setf .y O h hk hd hs
theorem vaadd_y (O : c.Ok w sc n) (hx : loc.lookup o = some (.val (.ref I.x))) (h : Ev w I rest sc c e ⟨loc, ⟨eX, cY, pC, sP, aA, xX, yY, pP, aD⟩, ls⟩ fun a σ1 => KA pT HAdd.hAdd .y yY Kn a σ1) (hk : (c.env sc).kindOf o = some .local := by rfl) (hd : (o == ("__debug__" : Str)) = false := by rfl) : Ex w I rest sc c (.AugAssign (.Attribute (.Name o op) "y" p') .Add e pos) ⟨loc, ⟨eX, cY, pC, sP, aA, xX, yY, pP, aD⟩, ls⟩ Kn Kr := ex_aug .y O (@iaddW w) hx h hk hd
theorem vasub_y (O : c.Ok w sc n) (hx : loc.lookup o = some (.val (.ref I.x))) (h : Ev w I rest sc c e ⟨loc, ⟨eX, cY, pC, sP, aA, xX, yY, pP, aD⟩, ls⟩ fun a σ1 => KA pT HSub.hSub .y yY Kn a σ1) (hk : (c.env sc).kindOf o = some .local := by rfl) (hd : (o == ("__debug__" : Str)) = false := by rfl) : Ex w I rest sc c (.AugAssign (.Attribute (.Name o op) "y" p') .Sub e pos) ⟨loc, ⟨eX, cY, pC, sP, aA, xX, yY, pP, aD⟩, ls⟩ Kn Kr := ex_aug .y O (@isubW w) hx h hk hd
theorem vaand_y (O : c.Ok w sc n) (hx : loc.lookup o = some (.val (.ref I.x))) (h : Ev w I rest sc c e ⟨loc, ⟨eX, cY, pC, sP, aA, xX, yY, pP, aD⟩, ls⟩ fun a σ1 => KA pT Builtin.bitAnd .y yY Kn a σ1) (hk : (c.env sc).kindOf o = some .local := by rfl) (hd : (o == ("__debug__" : Str)) = false := by rfl) : Ex w I rest sc c (.AugAssign (.Attribute (.Name o op) "y" p') .BitAnd e pos) ⟨loc, ⟨eX, cY, pC, sP, aA, xX, yY, pP, aD⟩, ls⟩ Kn Kr := ex_aug .y O (@iandW w) hx h hk hd
theorem vaor_y (O : c.Ok w sc n) (hx : loc.lookup o = some (.val (.ref I.x))) (h : Ev w I rest sc c e ⟨loc, ⟨eX, cY, pC, sP, aA, xX, yY, pP, aD⟩, ls⟩ fun a σ1 => KA pT Builtin.bitOr .y yY Kn a σ1) (hk : (c.env sc).kindOf o = some .local := by rfl) (hd : (o == ("__debug__" : Str)) = false := by rfl) : Ex w I rest sc c (.AugAssign (.Attribute (.Name o op) "y" p') .BitOr e pos) ⟨loc, ⟨eX, cY, pC, sP, aA, xX, yY, pP, aD⟩, ls⟩ Kn Kr := ex_aug .y O (@iorW w) hx h hk hd
theorem vaxor_y (O : c.Ok w sc n) (hx : loc.lookup o = some (.val (.ref I.x))) (h : Ev w I rest sc c e ⟨loc, ⟨eX, cY, pC, sP, aA, xX, yY, pP, aD⟩, ls⟩ fun a σ1 => KA pT Builtin.bitXor .y yY Kn a σ1) (hk : (c.env sc).kindOf o = some .local := by rfl) (hd : (o == ("__debug__" : Str)) = false := by rfl) : Ex w I rest sc c (.AugAssign (.Attribute (.Name o op) "y" p') .BitXor e pos) ⟨loc, ⟨eX, cY, pC, sP, aA, xX, yY, pP, aD⟩, ls⟩ Kn Kr := ex_aug .y O (@ixorW w) hx h hk hd
theorem ks_p (h : loc.lookup o = some (.val (.ref I.x))) (k : Kn ⟨loc, ⟨eX, cY, pC, sP, aA, xX, yY, i, aD⟩, ls⟩) : KS o I (Fld.set .p) Kn (.int i) ⟨loc, ⟨eX, cY, pC, sP, aA, xX, yY, pP, aD⟩, ls⟩ := ⟨h, k⟩
theorem ka_p (k : Kn ⟨loc, ⟨eX, cY, pC, sP, aA, xX, yY, (g old i), aD⟩, ls⟩) : KA pT g .p old Kn (.int i) ⟨loc, ⟨eX, cY, pC, sP, aA, xX, yY, pP, aD⟩, ls⟩ := ⟨trivial, k⟩
theorem vs_p (O : c.Ok w sc n) (h : Ev w I rest sc c e ⟨loc, ⟨eX, cY, pC, sP, aA, xX, yY, pP, aD⟩, ls⟩ fun a σ1 => KS o I (Fld.set .p) Kn a σ1) (hk : (c.env sc).kindOf o = some .local := by rfl) (hd : (o == ("__debug__" : Str)) = false := by rfl) (hs : swapsWith e (some (.Attribute (.Name o op) "p" p')) pos.line (c.env sc) = pure false := by rfl) : Ex w I rest sc c (.Assign [.Attribute (.Name o op) "p" p'] e pos) ⟨loc, ⟨eX, cY, pC, sP, aA, xX, yY, pP, aD⟩, ls⟩ Kn Kr := ex_setf .p O h hk hd hs
theorem vaadd_p (O : c.Ok w sc n) (hx : loc.lookup o = some (.val (.ref I.x))) (h : Ev w I rest sc c e ⟨loc, ⟨eX, cY, pC, sP, aA, xX, yY, pP, aD⟩, ls⟩ fun a σ1 => KA pT HAdd.hAdd .p pP Kn a σ1) (hk : (c.env sc).kindOf o = some .local := by rfl) (hd : (o == ("__debug__" : Str)) = false := by rfl) : Ex w I rest sc c (.AugAssign (.Attribute (.Name o op) "p" p') .Add e pos) ⟨loc, ⟨eX, cY, pC, sP, aA, xX, yY, pP, aD⟩, ls⟩ Kn Kr := ex_aug .p O (@iaddW w) hx h hk hd
theorem vasub_p (O : c.Ok w sc n) (hx : loc.lookup o = some (.val (.ref I.x))) (h : Ev w I rest sc c e ⟨loc, ⟨eX, cY, pC, sP, aA, xX, yY, pP, aD⟩, ls⟩ fun a σ1 => KA pT HSub.hSub .p pP Kn a σ1) (hk : (c.env sc).kindOf o = some .local := by rfl) (hd : (o == ("__debug__" : Str)) = false := by rfl) : Ex w I rest sc c (.AugAssign (.Attribute (.Name o op) "p" p') .Sub e pos) ⟨loc, ⟨eX, cY, pC, sP, aA, xX, yY, pP, aD⟩, ls⟩ Kn Kr := ex_aug .p O (@isubW w) hx h hk hd
theorem vaand_p (O : c.Ok w sc n) (hx : loc.lookup o = some (.val (.ref I.x))) (h : Ev w I rest sc c e ⟨loc, ⟨eX, cY, pC, sP, aA, xX, yY, pP, aD⟩, ls⟩ fun a σ1 => KA pT Builtin.bitAnd .p pP Kn a σ1) (hk : (c.env sc).kindOf o = some .local := by rfl) (hd : (o == ("__debug__" : Str)) = false := by rfl) : Ex w I rest sc c (.AugAssign (.Attribute (.Name o op) "p" p') .BitAnd e pos) ⟨loc, ⟨eX, cY, pC, sP, aA, xX, yY, pP, aD⟩, ls⟩ Kn Kr := ex_aug .p O (@iandW w) hx h hk hd
theorem vaor_p (O : c.Ok w sc n) (hx : loc.lookup o = some (.val (.ref I.x))) (h : Ev w I rest sc c e ⟨loc, ⟨eX, cY, pC, sP, aA, xX, yY, pP, aD⟩, ls⟩ fun a σ1 => KA pT Builtin.bitOr .p pP Kn a σ1) (hk : (c.env sc).kindOf o = some .local := by rfl) (hd : (o == ("__debug__" : Str)) = false := by rfl) : Ex w I rest sc c (.AugAssign (.Attribute (.Name o op) "p" p') .BitOr e pos) ⟨loc, ⟨eX, cY, pC, sP, aA, xX, yY, pP, aD⟩, ls⟩ Kn Kr := ex_aug .p O (@iorW w) hx h hk hd
theorem vaxor_p (O : c.Ok w sc n) (hx : loc.lookup o = some (.val (.ref I.x))) (h : Ev w I rest sc c e ⟨loc, ⟨eX, cY, pC, sP, aA, xX, yY, pP, aD⟩, ls⟩ fun a σ1 => KA pT Builtin.bitXor .p pP Kn a σ1) (hk : (c.env sc).kindOf o = some .local := by rfl) (hd : (o == ("__debug__" : Str)) = false := by rfl) : Ex w I rest sc c (.AugAssign (.Attribute (.Name o op) "p" p') .BitXor e pos) ⟨loc, ⟨eX, cY, pC, sP, aA, xX, yY, pP, aD⟩, ls⟩ Kn Kr := ex_aug .p O (@ixorW w) hx h hk hd
end
end
theorem m_ByteAt (w : World) (I : Im) : MF w I "ByteAt" (71) := ⟨F_M_ByteAt w, F_T_ByteAt w, F_K_ByteAt w, fun r ad t => by rfl⟩
theorem m_WordAt (w : World) (I : Im) : MF w I "WordAt" (78) := ⟨F_M_WordAt w, F_T_WordAt w, F_K_WordAt w, fun r ad t => by rfl⟩
theorem m_WrapAt (w : World) (I : Im) : MF w I "WrapAt" (85) := ⟨F_M_WrapAt w, F_T_WrapAt w, F_K_WrapAt w, fun r ad t => by rfl⟩
theorem m_FlagsNZ (w : World) (I : Im) : MF w I "FlagsNZ" (197) := ⟨F_M_FlagsNZ w, F_T_FlagsNZ w, F_K_FlagsNZ w, fun r ad t => by rfl⟩
theorem m_stPush (w : World) (I : Im) : MF w I "stPush" (169) := ⟨F_M_stPush w, F_T_stPush w, F_K_stPush w, fun r ad t => by rfl⟩
theorem m_opASL (w : World) (I : Im) : MF w I "opASL" (211) := ⟨F_M_opASL w, F_T_opASL w, F_K_opASL w, fun r ad t => by rfl⟩
theorem m_opBCL (w : World) (I : Im) : MF w I "opBCL" (225) := ⟨F_M_opBCL w, F_T_opBCL w, F_K_opBCL w, fun r ad t => by rfl⟩
theorem m_opBST (w : World) (I : Im) : MF w I "opBST" (232) := ⟨F_M_opBST w, F_T_opBST w, F_K_opBST w, fun r ad t => by rfl⟩
theorem m_opCLR (w : World) (I : Im) : MF w I "opCLR" (239) := ⟨F_M_opCLR w, F_T_opCLR w, F_K_opCLR w, fun r ad t => by rfl⟩
theorem m_opSET (w : World) (I : Im) : MF w I "opSET" (246) := ⟨F_M_opSET w, F_T_opSET w, F_K_opSET w, fun r ad t => by rfl⟩
theorem m_opAND (w : World) (I : Im) : MF w I "opAND" (253) := ⟨F_M_opAND w, F_T_opAND w, F_K_opAND w, fun r ad t => by rfl⟩
theorem m_opROL (w : World) (I : Im) : MF w I "opROL" (267) := ⟨F_M_opROL w, F_T_opROL w, F_K_opROL w, fun r ad t => by rfl⟩
theorem m_opEOR (w : World) (I : Im) : MF w I "opEOR" (274) := ⟨F_M_opEOR w, F_T_opEOR w, F_K_opEOR w, fun r ad t => by rfl⟩
theorem m_opADC (w : World) (I : Im) : MF w I "opADC" (281) := ⟨F_M_opADC w, F_T_opADC w, F_K_opADC w, fun r ad t => by rfl⟩
theorem m_opROR (w : World) (I : Im) : MF w I "opROR" (288) := ⟨F_M_opROR w, F_T_opROR w, F_K_opROR w, fun r ad t => by rfl⟩
theorem m_opSTA (w : World) (I : Im) : MF w I "opSTA" (295) := ⟨F_M_opSTA w, F_T_opSTA w, F_K_opSTA w, fun r ad t => by rfl⟩
theorem m_opSBC (w : World) (I : Im) : MF w I "opSBC" (323) := ⟨F_M_opSBC w, F_T_opSBC w, F_K_opSBC w, fun r ad t => by rfl⟩
theorem m_opDECR (w : World) (I : Im) : MF w I "opDECR" (330) := ⟨F_M_opDECR w, F_T_opDECR w, F_K_opDECR w, fun r ad t => by rfl⟩
theorem m_opLDA (w : World) (I : Im) : MF w I "opLDA" (344) := ⟨F_M_opLDA w, F_T_opLDA w, F_K_opLDA w, fun r ad t => by rfl⟩
theorem m_ProgramCounter (w : World) (I : Im) : MF w I "ProgramCounter" (92) := ⟨F_M_ProgramCounter w, F_T_ProgramCounter w, F_K_ProgramCounter w, fun r ad t => by rfl⟩
theorem m_ImmediateByte (w : World) (I : Im) : MF w I "ImmediateByte" (99) := ⟨F_M_ImmediateByte w, F_T_ImmediateByte w, F_K_ImmediateByte w, fun r ad t => by rfl⟩
theorem m_ZeroPageAddr (w : World) (I : Im) : MF w I "ZeroPageAddr" (106) := ⟨F_M_ZeroPageAddr w, F_T_ZeroPageAddr w, F_K_ZeroPageAddr w, fun r ad t => by rfl⟩
theorem m_ZeroPageXAddr (w : World) (I : Im) : MF w I "ZeroPageXAddr" (113) := ⟨F_M_ZeroPageXAddr w, F_T_ZeroPageXAddr w, F_K_ZeroPageXAddr w, fun r ad t => by rfl⟩
theorem m_AbsoluteAddr (w : World) (I : Im) : MF w I "AbsoluteAddr" (141) := ⟨F_M_AbsoluteAddr w, F_T_AbsoluteAddr w, F_K_AbsoluteAddr w, fun r ad t => by rfl⟩
theorem m_AbsoluteYAddr (w : World) (I : Im) : MF w I "AbsoluteYAddr" (155) := ⟨F_M_AbsoluteYAddr w, F_T_AbsoluteYAddr w, F_K_AbsoluteYAddr w, fun r ad t => by rfl⟩
theorem m_BranchRelAddr (w : World) (I : Im) : MF w I "BranchRelAddr" (162) := ⟨F_M_BranchRelAddr w, F_T_BranchRelAddr w, F_K_BranchRelAddr w, fun r ad t => by rfl⟩
theorem m_stPop (w : World) (I : Im) : MF w I "stPop" (176) := ⟨F_M_stPop w, F_T_stPop w, F_K_stPop w, fun r ad t => by rfl⟩
theorem m_opCMPR (w : World) (I : Im) : MF w I "opCMPR" (316) := ⟨F_M_opCMPR w, F_T_opCMPR w, F_K_opCMPR w, fun r ad t => by rfl⟩
theorem dif {c : Bool} {P Q : Prop} (hp : c = true → P) (hq : c = false → Q) : (c = true → P) ∧ (c = false → Q) := ⟨hp, hq⟩
theorem dif_t {c : Bool} {P Q : Prop} (h : c = true) (hp : P) : (c = true → P) ∧ (c = false → Q) := ⟨fun _ => hp, fun q => by rw [h] at q; cases q⟩
theorem dif_f {c : Bool} {P Q : Prop} (h : c = false) (hq : Q) : (c = true → P) ∧ (c = false → Q) := ⟨fun q => by rw [h] at q; (cases q), fun _ => hq⟩
noncomputable abbrev rw (g : Rg) (ex : Int) (ad : AV) : Raw := ⟨ex, g.cyc, g.pc, g.sp, g.a, g.x, g.y, fl g.C g.Z g.V g.N, ad⟩
/-- a call of a def of the machine's, in plain states -/
structure DV (w : World) (k : Nat) (fn : Addr) (as : List AV) (I : Im) (r : Raw) (ns : List Int) (ret : AV) (r' : Raw) (ns' : List Int) (hm : List (Addr × Obj) → Prop := fun _ => True) : Prop where
  go : ∀ {rest : List (Addr × Obj)} {sc : Scope} {c : Cx} {n : Nat} {loc : List (Str × AV)} {ls : List (Addr × List Int)} {K : AV → Sg → Prop}, c.Ok w sc n → k ≤ n → hm rest → K ret ⟨loc, r', (I.r, ns') :: ls⟩ → Cal w I rest c fn as ⟨loc, r, (I.r, ns) :: ls⟩ K
theorem Cx.Ok.low {c : Cx} {w : World} {sc : Scope} {n m : Nat} (O : c.Ok w sc n) (h : m ≤ n) : c.Ok w sc m := ⟨O.B, O.X, O.T, O.hA, O.hf, O.ht, O.hk, by have := O.room; omega⟩
end Mine
end
section
open PySem PySem.W PySem.Calls PyProof.Rows
set_option maxRecDepth 100000
set_option maxHeartbeats 4000000
namespace Mine
noncomputable abbrev sg (v : Int) : Int := if v > 127 then v - 256 else v
noncomputable def forBody : Stmt → List Stmt | .For _ _ b _ _ => b | _ => []
noncomputable def whTest : Stmt → Expr | .While t _ _ _ => t | _ => .Constant (.int 0) 0 ⟨0, 0, 0, 0⟩
noncomputable def whBody : Stmt → List Stmt | .While _ b _ _ => b | _ => []
noncomputable def lawBody : List Stmt := sBody (pTop 8)
noncomputable def turnBody : List Stmt := forBody (lawBody.getD 11 sPass)
noncomputable def theWhile : Stmt := turnBody.getD 1 sPass
noncomputable abbrev lawEnv (L fa : Addr) (cd : Value) : Env := envOf "law" (sOwn (pTop 8)) L fa cd
noncomputable abbrev lawA (L fa : Addr) (cd : Value) : Around := callerA.deeper (lawEnv L fa cd)
/-- what the walk of the law knows of its surroundings -/
structure Sur (w : World) (h₀ : Heap) (mg mb : Str → Option Value) (p : Program) (loose : List Str) (mean : ExcName → Option Value) : Prop where
  B : Below callerA h₀ [] h₀
  X : (KF w.params).In h₀
  T : Top p loose mean mg mb h₀
  hch : CodeHd h₀ 84 80
theorem lawA_frames (L fa : Addr) (cd : Value) : (lawA L fa cd).frames = some (lawEnv L fa cd :: []) := rfl
theorem lawA_room (L fa : Addr) (cd : Value) : (lawA L fa cd).depth + 20 < recursionLimit := Nat.le_of_ble_eq_true rfl
theorem lawA_units (L fa : Addr) (cd : Value) : (lawA L fa cd).units + 100 < cLine := Nat.le_of_ble_eq_true rfl
theorem fm_nil {α : Type} {p : α → Prop} : ∀ q ∈ ([] : List α), p q := fun _ h => nomatch h
theorem fm_cons {α : Type} {p : α → Prop} {a : α} {l : List α} (h : p a) (k : ∀ q ∈ l, p q) : ∀ q ∈ a :: l, p q := List.forall_mem_cons.mpr ⟨h, k⟩
theorem execs_app {env : Env} (b : List Stmt) : ∀ a : List Stmt, execs (a ++ b) env = (execs a env >>= fun f => match f with | .next => execs b env | f => pure f)
  | [] => by
    rw [List.nil_append]
    show execs b env = (pure Flow.next >>= fun f => match f with | .next => execs b env | f => pure f)
    rw [pure_bind]
  | st :: r => by
    rw [List.cons_append, execs_cons, execs_cons, bind_assoc]
    congr 1
    funext f
    cases f
    case next => exact execs_app b r
    all_goals (first | rfl | exact (pure_bind _ _).symm)
theorem wpAny_execs_app {M : Model} {A : Around} {env : Env} {E : Value → Shared → Prop} {s : Shared} {a b : List Stmt} {Q : Flow → Shared → Prop} (h : wpAny M A (execs a env) (fun f s' => match f with | .next => wpAny M A (execs b env) Q E s' | f => Q f s') E s) : wpAny M A (execs (a ++ b) env) Q E s := by
  rw [execs_app]
  refine wpAny_bind (wpAny_mono h (fun f s' h' => ?_) fun _ _ x => x)
  cases f
  case next => exact h'
  all_goals exact wpAny_pure h'
noncomputable def preStmts : List Stmt := (turnBody.drop 2).take 8
noncomputable def ifStmt : Stmt := turnBody.getD 10 sPass
/-- the law's own lists -/
structure Lw where
  pg : Addr
  fs : Addr
  cl : Addr
  ca : Addr
structure LwOff (I : Im) (J : Lw) : Prop where
  h1 : @LT.lt Nat _ J.pg I.r
  h2 : @LT.lt Nat _ I.r J.fs
  h3 : @LT.lt Nat _ J.fs J.cl
  h4 : @LT.lt Nat _ J.cl J.ca
  h5 : @LT.lt Nat _ J.ca I.d
  h6 : @LT.lt Nat _ I.d I.x
noncomputable abbrev lwl (J : Lw) (pvs fvs cvs avs : List Value) : List (Addr × Obj) := [(J.pg, listOf pvs.toArray 0), (J.fs, listOf fvs.toArray 0), (J.cl, listOf cvs.toArray 0), (J.ca, listOf avs.toArray 0)]
noncomputable abbrev lawCyc : List Int := [15, 19, 19, 13, 26, 5, 13, 9, 13, 18, 9, 18, 22, 23, 15, 15]
end Mine
end
section
open PySem PySem.W PySem.Calls PyProof.Rows
set_option maxRecDepth 100000
namespace Mine
theorem lw_80_pg {I : Im} {J : Lw} (O : LwOff I J) (h80 : @LT.lt Nat _ 80 J.pg) : @LT.lt Nat _ 80 J.pg := h80
theorem lw_80_r {I : Im} {J : Lw} (O : LwOff I J) (h80 : @LT.lt Nat _ 80 J.pg) : @LT.lt Nat _ 80 I.r := Nat.lt_trans (lw_80_pg O h80) O.h1
theorem lw_80_fs {I : Im} {J : Lw} (O : LwOff I J) (h80 : @LT.lt Nat _ 80 J.pg) : @LT.lt Nat _ 80 J.fs := Nat.lt_trans (lw_80_r O h80) O.h2
theorem lw_80_cl {I : Im} {J : Lw} (O : LwOff I J) (h80 : @LT.lt Nat _ 80 J.pg) : @LT.lt Nat _ 80 J.cl := Nat.lt_trans (lw_80_fs O h80) O.h3
theorem lw_80_ca {I : Im} {J : Lw} (O : LwOff I J) (h80 : @LT.lt Nat _ 80 J.pg) : @LT.lt Nat _ 80 J.ca := Nat.lt_trans (lw_80_cl O h80) O.h4
theorem lw_80_d {I : Im} {J : Lw} (O : LwOff I J) (h80 : @LT.lt Nat _ 80 J.pg) : @LT.lt Nat _ 80 I.d := Nat.lt_trans (lw_80_ca O h80) O.h5
theorem lw_80_x {I : Im} {J : Lw} (O : LwOff I J) (h80 : @LT.lt Nat _ 80 J.pg) : @LT.lt Nat _ 80 I.x := Nat.lt_trans (lw_80_d O h80) O.h6
theorem lw_pg_r {I : Im} {J : Lw} (O : LwOff I J) : @LT.lt Nat _ J.pg I.r := O.h1
theorem lw_pg_fs {I : Im} {J : Lw} (O : LwOff I J) : @LT.lt Nat _ J.pg J.fs := Nat.lt_trans (lw_pg_r O) O.h2
theorem lw_pg_cl {I : Im} {J : Lw} (O : LwOff I J) : @LT.lt Nat _ J.pg J.cl := Nat.lt_trans (lw_pg_fs O) O.h3
theorem lw_pg_ca {I : Im} {J : Lw} (O : LwOff I J) : @LT.lt Nat _ J.pg J.ca := Nat.lt_trans (lw_pg_cl O) O.h4
theorem lw_pg_d {I : Im} {J : Lw} (O : LwOff I J) : @LT.lt Nat _ J.pg I.d := Nat.lt_trans (lw_pg_ca O) O.h5
theorem lw_pg_x {I : Im} {J : Lw} (O : LwOff I J) : @LT.lt Nat _ J.pg I.x := Nat.lt_trans (lw_pg_d O) O.h6
theorem lw_r_fs {I : Im} {J : Lw} (O : LwOff I J) : @LT.lt Nat _ I.r J.fs := O.h2
theorem lw_r_cl {I : Im} {J : Lw} (O : LwOff I J) : @LT.lt Nat _ I.r J.cl := Nat.lt_trans (lw_r_fs O) O.h3
theorem lw_r_ca {I : Im} {J : Lw} (O : LwOff I J) : @LT.lt Nat _ I.r J.ca := Nat.lt_trans (lw_r_cl O) O.h4
theorem lw_r_d {I : Im} {J : Lw} (O : LwOff I J) : @LT.lt Nat _ I.r I.d := Nat.lt_trans (lw_r_ca O) O.h5
theorem lw_r_x {I : Im} {J : Lw} (O : LwOff I J) : @LT.lt Nat _ I.r I.x := Nat.lt_trans (lw_r_d O) O.h6
theorem lw_fs_cl {I : Im} {J : Lw} (O : LwOff I J) : @LT.lt Nat _ J.fs J.cl := O.h3
theorem lw_fs_ca {I : Im} {J : Lw} (O : LwOff I J) : @LT.lt Nat _ J.fs J.ca := Nat.lt_trans (lw_fs_cl O) O.h4
theorem lw_fs_d {I : Im} {J : Lw} (O : LwOff I J) : @LT.lt Nat _ J.fs I.d := Nat.lt_trans (lw_fs_ca O) O.h5
theorem lw_fs_x {I : Im} {J : Lw} (O : LwOff I J) : @LT.lt Nat _ J.fs I.x := Nat.lt_trans (lw_fs_d O) O.h6
theorem lw_cl_ca {I : Im} {J : Lw} (O : LwOff I J) : @LT.lt Nat _ J.cl J.ca := O.h4
theorem lw_cl_d {I : Im} {J : Lw} (O : LwOff I J) : @LT.lt Nat _ J.cl I.d := Nat.lt_trans (lw_cl_ca O) O.h5
theorem lw_cl_x {I : Im} {J : Lw} (O : LwOff I J) : @LT.lt Nat _ J.cl I.x := Nat.lt_trans (lw_cl_d O) O.h6
theorem lw_ca_d {I : Im} {J : Lw} (O : LwOff I J) : @LT.lt Nat _ J.ca I.d := O.h5
theorem lw_ca_x {I : Im} {J : Lw} (O : LwOff I J) : @LT.lt Nat _ J.ca I.x := Nat.lt_trans (lw_ca_d O) O.h6
theorem lw_d_x {I : Im} {J : Lw} (O : LwOff I J) : @LT.lt Nat _ I.d I.x := O.h6
theorem lw_nodup {I : Im} {J : Lw} (O : LwOff I J) : [I.x, I.d, J.fs, J.cl, J.ca, J.pg].Nodup := by
  (k_with "lw" => with_reducible first | exact Nat.ne_of_lt (lw_80_pg (by assumption) (by assumption)) | exact Nat.ne_of_gt (lw_80_pg (by assumption) (by assumption)) | exact Nat.ne_of_lt (lw_80_r (by assumption) (by assumption)) | exact Nat.ne_of_gt (lw_80_r (by assumption) (by assumption)) | exact Nat.ne_of_lt (lw_80_fs (by assumption) (by assumption)) | exact Nat.ne_of_gt (lw_80_fs (by assumption) (by assumption)) | exact Nat.ne_of_lt (lw_80_cl (by assumption) (by assumption)) | exact Nat.ne_of_gt (lw_80_cl (by assumption) (by assumption)) | exact Nat.ne_of_lt (lw_80_ca (by assumption) (by assumption)) | exact Nat.ne_of_gt (lw_80_ca (by assumption) (by assumption)) | exact Nat.ne_of_lt (lw_80_d (by assumption) (by assumption)) | exact Nat.ne_of_gt (lw_80_d (by assumption) (by assumption)) | exact Nat.ne_of_lt (lw_80_x (by assumption) (by assumption)) | exact Nat.ne_of_gt (lw_80_x (by assumption) (by assumption)) | exact Nat.ne_of_lt (lw_pg_r (by assumption)) | exact Nat.ne_of_gt (lw_pg_r (by assumption)) | exact Nat.ne_of_lt (lw_pg_fs (by assumption)) | exact Nat.ne_of_gt (lw_pg_fs (by assumption)) | exact Nat.ne_of_lt (lw_pg_cl (by assumption)) | exact Nat.ne_of_gt (lw_pg_cl (by assumption)) | exact Nat.ne_of_lt (lw_pg_ca (by assumption)) | exact Nat.ne_of_gt (lw_pg_ca (by assumption)) | exact Nat.ne_of_lt (lw_pg_d (by assumption)) | exact Nat.ne_of_gt (lw_pg_d (by assumption)) | exact Nat.ne_of_lt (lw_pg_x (by assumption)) | exact Nat.ne_of_gt (lw_pg_x (by assumption)) | exact Nat.ne_of_lt (lw_r_fs (by assumption)) | exact Nat.ne_of_gt (lw_r_fs (by assumption)) | exact Nat.ne_of_lt (lw_r_cl (by assumption)) | exact Nat.ne_of_gt (lw_r_cl (by assumption)) | exact Nat.ne_of_lt (lw_r_ca (by assumption)) | exact Nat.ne_of_gt (lw_r_ca (by assumption)) | exact Nat.ne_of_lt (lw_r_d (by assumption)) | exact Nat.ne_of_gt (lw_r_d (by assumption)) | exact Nat.ne_of_lt (lw_r_x (by assumption)) | exact Nat.ne_of_gt (lw_r_x (by assumption)) | exact Nat.ne_of_lt (lw_fs_cl (by assumption)) | exact Nat.ne_of_gt (lw_fs_cl (by assumption)) | exact Nat.ne_of_lt (lw_fs_ca (by assumption)) | exact Nat.ne_of_gt (lw_fs_ca (by assumption)) | exact Nat.ne_of_lt (lw_fs_d (by assumption)) | exact Nat.ne_of_gt (lw_fs_d (by assumption)) | exact Nat.ne_of_lt (lw_fs_x (by assumption)) | exact Nat.ne_of_gt (lw_fs_x (by assumption)) | exact Nat.ne_of_lt (lw_cl_ca (by assumption)) | exact Nat.ne_of_gt (lw_cl_ca (by assumption)) | exact Nat.ne_of_lt (lw_cl_d (by assumption)) | exact Nat.ne_of_gt (lw_cl_d (by assumption)) | exact Nat.ne_of_lt (lw_cl_x (by assumption)) | exact Nat.ne_of_gt (lw_cl_x (by assumption)) | exact Nat.ne_of_lt (lw_ca_d (by assumption)) | exact Nat.ne_of_gt (lw_ca_d (by assumption)) | exact Nat.ne_of_lt (lw_ca_x (by assumption)) | exact Nat.ne_of_gt (lw_ca_x (by assumption)) | exact Nat.ne_of_lt (lw_d_x (by assumption)) | exact Nat.ne_of_gt (lw_d_x (by assumption)))
  (k_with "ne" => first | exact fm_nil | (refine fm_cons ?_ ?_; (focus k_extra "lw"); k_extra "ne"))
  exact .cons (by k_extra "ne") (.cons (by k_extra "ne") (.cons (by k_extra "ne") (.cons (by k_extra "ne") (.cons (by k_extra "ne") (.cons fm_nil .nil)))))
theorem lw_r {I : Im} {J : Lw} (O : LwOff I J) : ∀ b ∈ [I.x, I.d, J.fs, J.cl, J.ca, J.pg], I.r ≠ b := by k_extra "ne"
theorem lw_80 {I : Im} {J : Lw} (O : LwOff I J) (h80 : @LT.lt Nat _ 80 J.pg) : ∀ b ∈ [I.x, I.d, I.r, J.pg, J.fs, J.cl, J.ca], (80 : Nat) ≠ b := by k_extra "ne"
theorem lw_own4 {I : Im} {J : Lw} (O : LwOff I J) (h80 : @LT.lt Nat _ 80 J.pg) {pvs fvs cvs avs : List Value} : OwnOff (lwl J pvs fvs cvs avs) [I.x, I.d, I.r, 80] := fm_cons (by k_extra "ne") (fm_cons (by k_extra "ne") (fm_cons (by k_extra "ne") (fm_cons (by k_extra "ne") fm_nil)))
theorem own_cons {p : Addr × Obj} {l : List (Addr × Obj)} {as : List Addr} (h : ∀ b ∈ as, p.1 ≠ b) (k : OwnOff l as) : OwnOff (p :: l) as := fm_cons h k
theorem own_app {k l : List (Addr × Obj)} {as : List Addr} (h : OwnOff k as) (h2 : OwnOff l as) : OwnOff (k ++ l) as := fun q hq => (List.mem_append.mp hq).elim (h q) (h2 q)
theorem own_sub {l : List (Addr × Obj)} {as bs : List Addr} (h : OwnOff l as) (s : ∀ b ∈ bs, b ∈ as) : OwnOff l bs := fun q hq b hb => h q hq b (s b hb)
section
variable {h₀ h : Heap} {L : Addr}
theorem news_perm {a b r p f c k : Addr × Obj} {l : List (Addr × Obj)} (N : News h₀ L h (a :: b :: r :: p :: f :: c :: k :: l)) : News h₀ L h (a :: b :: f :: c :: k :: p :: r :: l) := by
  obtain ⟨n1, n2, n3, n4, n5, n6, n7, n8⟩ : _ ∧ _ ∧ _ ∧ _ ∧ _ ∧ _ ∧ _ ∧ _ := by simpa only [News, List.forall_mem_cons] using N
  exact fm_cons n1 (fm_cons n2 (fm_cons n5 (fm_cons n6 (fm_cons n7 (fm_cons n4 (fm_cons n3 n8))))))
theorem news_back {a b r p f c k : Addr × Obj} {u l : List (Addr × Obj)} (N : News h₀ L h (a :: b :: ((u ++ [f, c, k, p]) ++ r :: l))) : News h₀ L h (a :: b :: r :: p :: f :: c :: k :: l) := by
  rw [List.append_assoc] at N
  have N2 : News h₀ L h (f :: c :: k :: p :: r :: l) := fun q hq => N q (.tail _ (.tail _ (List.mem_append_right _ hq)))
  obtain ⟨n5, n6, n7, n4, n3, n8⟩ : _ ∧ _ ∧ _ ∧ _ ∧ _ ∧ _ := by simpa only [News, List.forall_mem_cons] using N2
  exact fm_cons (N _ (.head _)) (fm_cons (N _ (.tail _ (.head _))) (fm_cons n3 (fm_cons n4 (fm_cons n5 (fm_cons n6 (fm_cons n7 n8))))))
theorem sub_rot3 {α : Type} {a b c : α} {l : List α} : ∀ q ∈ a :: b :: c :: l, q ∈ c :: a :: b :: l := fm_cons (.tail _ (.head _)) (fm_cons (.tail _ (.tail _ (.head _))) (fm_cons (.head _) fun q hq => .tail _ (.tail _ (.tail _ hq))))
theorem sub_rot3' {α : Type} {a b c : α} {l : List α} : ∀ q ∈ c :: a :: b :: l, q ∈ a :: b :: c :: l := fm_cons (.tail _ (.tail _ (.head _))) (fm_cons (.head _) (fm_cons (.tail _ (.head _)) fun q hq => .tail _ (.tail _ (.tail _ hq))))
theorem news_w {i e : Addr × Obj} {A B l : List (Addr × Obj)} (N : News h₀ L h (i :: (A ++ (B ++ e :: l)))) : News h₀ L h (A ++ e :: (B ++ i :: l)) := by
  refine fun q hq => N q ?_
  rcases List.mem_append.mp hq with hq | hq
  · exact .tail _ (List.mem_append_left _ hq)
  · refine List.mem_cons.mp hq |>.elim (fun e => e ▸ .tail _ (List.mem_append_right _ (List.mem_append_right _ (.head _)))) fun hq => ?_
    rcases List.mem_append.mp hq with hq | hq
    · exact .tail _ (List.mem_append_right _ (List.mem_append_left _ hq))
    · exact (List.mem_cons.mp hq).elim (fun e => e ▸ .head _) fun hq => .tail _ (List.mem_append_right _ (List.mem_append_right _ (.tail _ hq)))
theorem news_z {i e : Addr × Obj} {A B l : List (Addr × Obj)} {f : Addr × Obj → Bool} (N : News h₀ L h (A ++ (B ++ e :: l))) (hi : i ∈ l) : News h₀ L h (i :: (A ++ (B ++ e :: l.filter f))) := by
  refine fm_cons (N _ (List.mem_append_right _ (List.mem_append_right _ (.tail _ hi)))) fun q hq => N q ?_
  rcases List.mem_append.mp hq with hq | hq
  · exact List.mem_append_left _ hq
  · rcases List.mem_append.mp hq with hq | hq
    · exact List.mem_append_right _ (List.mem_append_left _ hq)
    · exact List.mem_append_right _ (List.mem_append_right _ ((List.mem_cons.mp hq).elim (fun e => e ▸ .head _) fun hq => .tail _ (List.mem_filter.mp hq).1))
end
end Mine
end
section
open PySem PySem.W PySem.Calls PyProof.Rows
set_option maxRecDepth 100000
set_option maxHeartbeats 4000000
namespace Mine
section
variable {w : World} {I : Im} {rest : List (Addr × Obj)} {sc : Scope} {c : Cx} {n : Nat} {σ : Sg}
theorem ev_mul {l r : Expr} {pos : Pos} {K : AV → Sg → Prop} (h : Ev w I rest sc c l σ fun a σ1 => Ev w I rest sc c r σ1 fun b σ2 => KI IntMulOk HMul.hMul K a b σ2) : Ev w I rest sc c (.BinOp l .Mult r pos) σ K := ev_bin (fun p h => mul_int h p) h
theorem ev_fdiv {l r : Expr} {pos : Pos} {K : AV → Sg → Prop} (h : Ev w I rest sc c l σ fun a σ1 => Ev w I rest sc c r σ1 fun b σ2 => KI (fun a b => b ≠ 0 ∧ Builtin.divisionGoesByPylong a b = false) Int.fdiv K a b σ2) : Ev w I rest sc c (.BinOp l .FloorDiv r pos) σ K := ev_bin (fun p h => floordiv_int p.1 h (.inl p.2)) h
theorem ev_ife {t e1 e2 : Expr} {pos : Pos} {K : AV → Sg → Prop} (h : Ts w I rest sc c t σ fun b σ1 => (b = true → Ev w I rest sc c e1 σ1 K) ∧ (b = false → Ev w I rest sc c e2 σ1 K)) : Ev w I rest sc c (.IfExp t e1 e2 pos) σ K := fun Q E s R k =>
  IfExp_ (h _ _ _ R fun b σ' s' h1 R1 => by
    cases b with
    | true => rw [if_pos rfl]; exact h1.1 rfl _ _ _ R1 k
    | false => rw [if_neg (by decide)]; exact h1.2 rfl _ _ _ R1 k)
theorem ts_link {l r1 r2 : Expr} {op1 op2 : CmpOp} {f1 f2 : Int → Int → Bool} {pos : Pos} {K : Bool → Sg → Prop}
    (hop1 : ∀ {A : Around} {E : Value → Shared → Prop} {s : Shared} {a b : Int} {t u : Tok} {Q : Value → Shared → Prop}, Q (.bool (f1 a b)) s → wpAny (MD w) A (compareOp op1 (.int a t) (.int b u)) Q E s)
    (hop2 : ∀ {A : Around} {E : Value → Shared → Prop} {s : Shared} {a b : Int} {t u : Tok} {Q : Value → Shared → Prop}, Q (.bool (f2 a b)) s → wpAny (MD w) A (compareOp op2 (.int a t) (.int b u)) Q E s)
    (h : Ev w I rest sc c l σ fun a σ1 => Ev w I rest sc c r1 σ1 fun b σ2 => KB f1 (fun x σ3 => (x = true → Ev w I rest sc c r2 σ3 fun d σ4 => KB f2 K b d σ4) ∧ (x = false → K false σ3)) a b σ2)
    (hb : lastMarks [op1, op2] [r1, r2] = false := by rfl) : Ts w I rest sc c (.Compare l [op1, op2] [r1, r2] pos) σ K := by
  intro Q E s R k
  refine isTrue_chain (ops := []) (rs := []) (h _ _ _ R fun v a σ1 s1 h1 hv R1 => ?_) hb
  refine test_link (h1 _ _ _ R1 fun v2 b σ2 s2 h2 hv2 R2 => ?_)
  cases a with
  | val _ => exact h2.elim
  | int i =>
    cases b with
    | val _ => exact h2.elim
    | int j =>
      obtain ⟨t, rfl⟩ := hv
      obtain ⟨u, rfl⟩ := hv2
      refine hop1 (wpAny_truthy_bool ?_)
      cases hc : f1 i j with
      | true =>
        rw [if_pos rfl]
        refine test_last (h2.1 hc _ _ _ R2 fun v3 d σ3 s3 h3 hv3 R3 => ?_)
        cases d with
        | val _ => exact h3.elim
        | int m =>
          obtain ⟨x, rfl⟩ := hv3
          exact hop2 (wpAny_truthy_bool (k _ _ _ h3 R3))
      | false =>
        rw [if_neg (by decide)]
        exact k _ _ _ (h2.2 hc) R2
theorem ts_lele {l r1 r2 : Expr} {pos : Pos} {K : Bool → Sg → Prop} (h : Ev w I rest sc c l σ fun a σ1 => Ev w I rest sc c r1 σ1 fun b σ2 => KB (fun a b => decide (a ≤ b)) (fun x σ3 => (x = true → Ev w I rest sc c r2 σ3 fun d σ4 => KB (fun a b => decide (a ≤ b)) K b d σ4) ∧ (x = false → K false σ3)) a b σ2)
    (hb : lastMarks [.LtE, .LtE] [r1, r2] = false := by rfl) : Ts w I rest sc c (.Compare l [.LtE, .LtE] [r1, r2] pos) σ K := ts_link (fun h => le_int h) (fun h => le_int h) h hb
/-! names of the text's top -/
theorem ev_glob {x : Str} {pos : Pos} {v : Value} {K : AV → Sg → Prop} (O : c.Ok w sc n) (hg : nsIn (KF w.params) mainGlobals x = some (some v)) (h : K (.val v) σ) (hk : (c.env sc).kindOf x = some .globalImplicit := by rfl) (hd : (x == ("__debug__" : Str)) = false := by rfl) : Ev w I rest sc c (.Name x pos) σ K := by
  intro Q E s R k
  obtain ⟨m, F, lo⟩ := R.fr
  exact nameX_K (cl := []) F O.X (topRead_of O.T) hg (k _ _ _ _ h rfl R) O.hk hk hd
theorem ev_g0 {x : Str} {op pos : Pos} {fn : Addr} {K : AV → Sg → Prop} (O : c.Ok w sc n) (hg : nsIn (KF w.params) mainGlobals x = some (some (.ref fn))) (hkp : keepIn (KF w.params) (.ref fn) = true) (h : Cal w I rest c fn [] σ K)
    (he : eval (.Call (.Name x op) [] [] pos) (c.env sc) = (do let f ← eval (.Name x op) (c.env sc); callWith pos f [] (backTo pos (starEach [] (c.env sc))) (backToKw pos (keywordEach [] (c.env sc)))) := by rfl) (hk : (c.env sc).kindOf x = some .globalImplicit := by rfl) (hd : (x == ("__debug__" : Str)) = false := by rfl) : Ev w I rest sc c (.Call (.Name x op) [] [] pos) σ K := by
  intro Q E s R k
  refine Call_ (ev_glob (K := fun a σ' => a = .val (.ref fn) ∧ σ' = σ) O hg ⟨rfl, rfl⟩ hk hd _ _ _ R fun v a σ' s' q1 hv R' => ?_) he
  obtain ⟨rfl, rfl⟩ := q1
  subst hv
  exact callWith_K0 (R'.K O) hkp (wpAny_call (h.use .nil R' fun v a σ2 s2 h2 hv2 R2 => k _ _ _ _ h2 hv2 R2))
theorem ev_g1 {x : Str} {op pos : Pos} {e : Expr} {fn : Addr} {K : AV → Sg → Prop} (O : c.Ok w sc n) (hg : nsIn (KF w.params) mainGlobals x = some (some (.ref fn))) (hkp : keepIn (KF w.params) (.ref fn) = true) (h : Ev w I rest sc c e σ fun a σ1 => Cal w I rest c fn [a] σ1 K)
    (he : eval (.Call (.Name x op) [e] [] pos) (c.env sc) = (do let f ← eval (.Name x op) (c.env sc); callWith pos f [] (backTo pos (starEach [e] (c.env sc))) (backToKw pos (keywordEach [] (c.env sc)))) := by rfl) (hs : starEach [e] (c.env sc) = (false, eval e (c.env sc)) :: starEach [] (c.env sc) := by rfl) (hk : (c.env sc).kindOf x = some .globalImplicit := by rfl) (hd : (x == ("__debug__" : Str)) = false := by rfl) : Ev w I rest sc c (.Call (.Name x op) [e] [] pos) σ K := by
  intro Q E s R k
  refine Call_ (ev_glob (K := fun a σ' => a = .val (.ref fn) ∧ σ' = σ) O hg ⟨rfl, rfl⟩ hk hd _ _ _ R fun v a σ' s' q1 hv R' => ?_) he
  obtain ⟨rfl, rfl⟩ := q1
  subst hv
  exact callWith_K O.X hkp (args_cons (h _ _ _ R' fun v a σ1 s1 h1 hv R1 => args_nil ⟨R1.K O, wpAny_call (h1.use (.cons hv .nil) R1 fun v a σ2 s2 h2 hv2 R2 => k _ _ _ _ h2 hv2 R2)⟩) hs) hs
section
variable {Kn : Sg → Prop} {Kr : AV → Sg → Prop} {pos : Pos}
noncomputable def KL2 (x y : Str) (Kn : Sg → Prop) (a : AV) (σ : Sg) : Prop := Kn { σ with loc := (y, a) :: (x, a) :: σ.loc }
noncomputable def KL3 (x y z : Str) (Kn : Sg → Prop) (a : AV) (σ : Sg) : Prop := Kn { σ with loc := (z, a) :: (y, a) :: (x, a) :: σ.loc }
theorem kl2 {x y : Str} {a : AV} {loc : List (Str × AV)} {r : Raw} {ls : List (Addr × List Int)} (h : Kn ⟨(y, a) :: (x, a) :: loc, r, ls⟩) : KL2 x y Kn a ⟨loc, r, ls⟩ := h
theorem kl3 {x y z : Str} {a : AV} {loc : List (Str × AV)} {r : Raw} {ls : List (Addr × List Int)} (h : Kn ⟨(z, a) :: (y, a) :: (x, a) :: loc, r, ls⟩) : KL3 x y z Kn a ⟨loc, r, ls⟩ := h
theorem ex_let2 {x y : Str} {p1 p2 : Pos} {e : Expr} (O : c.Ok w sc n) (h : Ev w I rest sc c e σ (KL2 x y Kn)) (hk : (c.env sc).kindOf x = some .local := by rfl) (hk2 : (c.env sc).kindOf y = some .local := by rfl)
    (hm : List.map (fun x => x.2) (assignEach [.Name x p1, .Name y p2] (c.env sc)) = [assign (.Name x p1) (c.env sc), assign (.Name y p2) (c.env sc)] := by rfl) (hs : swappedStores [.Name x p1, .Name y p2] e (c.env sc) = pure none := by rfl) : Ex w I rest sc c (.Assign [.Name x p1, .Name y p2] e pos) σ Kn Kr := fun Q E s R kn kr =>
  wpAny_Assign_two (h _ _ _ R fun v a σ' s' h1 hv R1 => assign_Name (store_name O hk hv R1 fun s2 R2 => assign_Name (store_name O hk2 hv R2 fun s3 R3 => kn _ _ h1 R3))) hm hs
theorem ex_let3 {x y z : Str} {p1 p2 p3 : Pos} {e : Expr} (O : c.Ok w sc n) (h : Ev w I rest sc c e σ (KL3 x y z Kn)) (hk : (c.env sc).kindOf x = some .local := by rfl) (hk2 : (c.env sc).kindOf y = some .local := by rfl) (hk3 : (c.env sc).kindOf z = some .local := by rfl)
    (hm : List.map (fun x => x.2) (assignEach [.Name x p1, .Name y p2, .Name z p3] (c.env sc)) = [assign (.Name x p1) (c.env sc), assign (.Name y p2) (c.env sc), assign (.Name z p3) (c.env sc)] := by rfl) (hs : swappedStores [.Name x p1, .Name y p2, .Name z p3] e (c.env sc) = pure none := by rfl) : Ex w I rest sc c (.Assign [.Name x p1, .Name y p2, .Name z p3] e pos) σ Kn Kr := fun Q E s R kn kr =>
  wpAny_Assign_three (h _ _ _ R fun v a σ' s' h1 hv R1 => assign_Name (store_name O hk hv R1 fun s2 R2 => assign_Name (store_name O hk2 hv R2 fun s3 R3 => assign_Name (store_name O hk3 hv R3 fun s4 R4 => kn _ _ h1 R4)))) hm hs
end
end
end Mine
end
section
open PySem PySem.W PySem.Calls PyProof.Rows
set_option maxRecDepth 100000
set_option maxHeartbeats 4000000
namespace Mine
theorem vwords1 : True := by
  (k_with "v" => with_reducible first
    | (show Exs _ _ _ _ _ _ _ _ _; first
      | refine exs_cons ?_
      | refine exs_nil ?_)
    | (show Ev _ _ _ _ _ (.Name _ _) _ _; first
      | refine ev_nameI (by assumption) (by with_unfolding_all rfl) ?_ (by with_unfolding_all rfl) (by with_unfolding_all rfl)
      | refine ev_name (by assumption) (by with_unfolding_all rfl) ?_ (by with_unfolding_all rfl) (by with_unfolding_all rfl))
    | (show Ev _ _ _ _ _ (.Constant _ _ _) _ _; first
      | refine ev_int ?_
      | refine ev_none ?_)
    | (show Ev _ _ _ _ _ (.Attribute _ _ _) _ _; first
      | refine vg_ex (by assumption) (by with_unfolding_all rfl) ?_ (by with_unfolding_all rfl) (by with_unfolding_all rfl)
      | refine vg_cyc (by assumption) (by with_unfolding_all rfl) ?_ (by with_unfolding_all rfl) (by with_unfolding_all rfl)
      | refine vg_pc (by assumption) (by with_unfolding_all rfl) ?_ (by with_unfolding_all rfl) (by with_unfolding_all rfl)
      | refine vg_sp (by assumption) (by with_unfolding_all rfl) ?_ (by with_unfolding_all rfl) (by with_unfolding_all rfl)
      | refine vg_a (by assumption) (by with_unfolding_all rfl) ?_ (by with_unfolding_all rfl) (by with_unfolding_all rfl)
      | refine vg_x (by assumption) (by with_unfolding_all rfl) ?_ (by with_unfolding_all rfl) (by with_unfolding_all rfl)
      | refine vg_y (by assumption) (by with_unfolding_all rfl) ?_ (by with_unfolding_all rfl) (by with_unfolding_all rfl)
      | refine vg_p (by assumption) (by with_unfolding_all rfl) ?_ (by with_unfolding_all rfl) (by with_unfolding_all rfl)
      | refine vg_ad (by assumption) (by with_unfolding_all rfl) ?_ (by with_unfolding_all rfl) (by with_unfolding_all rfl)
      | refine ev_bm (by assumption) (by with_unfolding_all rfl) ?_ (by with_unfolding_all rfl) (by with_unfolding_all rfl)
      | refine ev_am (by assumption) (by with_unfolding_all rfl) ?_ (by with_unfolding_all rfl) (by with_unfolding_all rfl)
      | refine ev_ah (by assumption) (by with_unfolding_all rfl) ?_ (by with_unfolding_all rfl) (by with_unfolding_all rfl)
      | refine ev_sb (by assumption) (by with_unfolding_all rfl) ?_ (by with_unfolding_all rfl) (by with_unfolding_all rfl)
      | refine ev_mem (by assumption) (by with_unfolding_all rfl) ?_ (by with_unfolding_all rfl) (by with_unfolding_all rfl)
      | refine ev_NEGATIVE (by assumption) (by with_unfolding_all rfl) ?_ (by with_unfolding_all rfl) (by with_unfolding_all rfl)
      | refine ev_ZERO (by assumption) (by with_unfolding_all rfl) ?_ (by with_unfolding_all rfl) (by with_unfolding_all rfl)
      | refine ev_CARRY (by assumption) (by with_unfolding_all rfl) ?_ (by with_unfolding_all rfl) (by with_unfolding_all rfl)
      | refine ev_OVERFLOW (by assumption) (by with_unfolding_all rfl) ?_ (by with_unfolding_all rfl) (by with_unfolding_all rfl)
      | refine ev_DECIMAL (by assumption) (by with_unfolding_all rfl) ?_ (by with_unfolding_all rfl) (by with_unfolding_all rfl)
      | refine ev_BYTE_WIDTH (by assumption) (by with_unfolding_all rfl) ?_ (by with_unfolding_all rfl) (by with_unfolding_all rfl)
      | refine ev_UNUSED (by assumption) (by with_unfolding_all rfl) ?_ (by with_unfolding_all rfl) (by with_unfolding_all rfl)
      | refine ev_BREAK (by assumption) (by with_unfolding_all rfl) ?_ (by with_unfolding_all rfl) (by with_unfolding_all rfl)
      | refine ev_ADDR_WIDTH (by assumption) (by with_unfolding_all rfl) ?_ (by with_unfolding_all rfl) (by with_unfolding_all rfl))
    | (show Ev _ _ _ _ _ (.BinOp _ _ _ _) _ _; first
      | refine ev_and ?_
      | refine ev_or ?_
      | refine ev_add ?_
      | refine ev_sub ?_
      | refine ev_xor ?_
      | refine ev_shl ?_
      | refine ev_shr ?_)
    | (show Ev _ _ _ _ _ (.UnaryOp _ _ _) _ _; first
      | refine ev_inv ?_
      | refine ev_neg ?_)
    | (show Ev _ _ _ _ _ (.Subscript _ _ _) _ _; first
      | refine ev_item ?_ (by intro _ _ _; with_unfolding_all rfl))
    | (show Ex _ _ _ _ _ (.AugAssign _ _ _ _) _ _ _; first
      | refine vaadd_ex (by assumption) (by with_unfolding_all rfl) ?_ (by with_unfolding_all rfl) (by with_unfolding_all rfl)
      | refine vaadd_cyc (by assumption) (by with_unfolding_all rfl) ?_ (by with_unfolding_all rfl) (by with_unfolding_all rfl)
      | refine vaadd_pc (by assumption) (by with_unfolding_all rfl) ?_ (by with_unfolding_all rfl) (by with_unfolding_all rfl)
      | refine vaadd_sp (by assumption) (by with_unfolding_all rfl) ?_ (by with_unfolding_all rfl) (by with_unfolding_all rfl)
      | refine vaadd_a (by assumption) (by with_unfolding_all rfl) ?_ (by with_unfolding_all rfl) (by with_unfolding_all rfl)
      | refine vaadd_x (by assumption) (by with_unfolding_all rfl) ?_ (by with_unfolding_all rfl) (by with_unfolding_all rfl)
      | refine vaadd_y (by assumption) (by with_unfolding_all rfl) ?_ (by with_unfolding_all rfl) (by with_unfolding_all rfl)
      | refine vaadd_p (by assumption) (by with_unfolding_all rfl) ?_ (by with_unfolding_all rfl) (by with_unfolding_all rfl)
      | refine vasub_ex (by assumption) (by with_unfolding_all rfl) ?_ (by with_unfolding_all rfl) (by with_unfolding_all rfl)
      | refine vasub_cyc (by assumption) (by with_unfolding_all rfl) ?_ (by with_unfolding_all rfl) (by with_unfolding_all rfl)
      | refine vasub_pc (by assumption) (by with_unfolding_all rfl) ?_ (by with_unfolding_all rfl) (by with_unfolding_all rfl)
      | refine vasub_sp (by assumption) (by with_unfolding_all rfl) ?_ (by with_unfolding_all rfl) (by with_unfolding_all rfl)
      | refine vasub_a (by assumption) (by with_unfolding_all rfl) ?_ (by with_unfolding_all rfl) (by with_unfolding_all rfl)
      | refine vasub_x (by assumption) (by with_unfolding_all rfl) ?_ (by with_unfolding_all rfl) (by with_unfolding_all rfl)
      | refine vasub_y (by assumption) (by with_unfolding_all rfl) ?_ (by with_unfolding_all rfl) (by with_unfolding_all rfl)
      | refine vasub_p (by assumption) (by with_unfolding_all rfl) ?_ (by with_unfolding_all rfl) (by with_unfolding_all rfl)
      | refine vaand_ex (by assumption) (by with_unfolding_all rfl) ?_ (by with_unfolding_all rfl) (by with_unfolding_all rfl)
      | refine vaand_cyc (by assumption) (by with_unfolding_all rfl) ?_ (by with_unfolding_all rfl) (by with_unfolding_all rfl)
      | refine vaand_pc (by assumption) (by with_unfolding_all rfl) ?_ (by with_unfolding_all rfl) (by with_unfolding_all rfl)
      | refine vaand_sp (by assumption) (by with_unfolding_all rfl) ?_ (by with_unfolding_all rfl) (by with_unfolding_all rfl)
      | refine vaand_a (by assumption) (by with_unfolding_all rfl) ?_ (by with_unfolding_all rfl) (by with_unfolding_all rfl)
      | refine vaand_x (by assumption) (by with_unfolding_all rfl) ?_ (by with_unfolding_all rfl) (by with_unfolding_all rfl)
      | refine vaand_y (by assumption) (by with_unfolding_all rfl) ?_ (by with_unfolding_all rfl) (by with_unfolding_all rfl)
      | refine vaand_p (by assumption) (by with_unfolding_all rfl) ?_ (by with_unfolding_all rfl) (by with_unfolding_all rfl)
      | refine vaor_ex (by assumption) (by with_unfolding_all rfl) ?_ (by with_unfolding_all rfl) (by with_unfolding_all rfl)
      | refine vaor_cyc (by assumption) (by with_unfolding_all rfl) ?_ (by with_unfolding_all rfl) (by with_unfolding_all rfl)
      | refine vaor_pc (by assumption) (by with_unfolding_all rfl) ?_ (by with_unfolding_all rfl) (by with_unfolding_all rfl)
      | refine vaor_sp (by assumption) (by with_unfolding_all rfl) ?_ (by with_unfolding_all rfl) (by with_unfolding_all rfl)
      | refine vaor_a (by assumption) (by with_unfolding_all rfl) ?_ (by with_unfolding_all rfl) (by with_unfolding_all rfl)
      | refine vaor_x (by assumption) (by with_unfolding_all rfl) ?_ (by with_unfolding_all rfl) (by with_unfolding_all rfl)
      | refine vaor_y (by assumption) (by with_unfolding_all rfl) ?_ (by with_unfolding_all rfl) (by with_unfolding_all rfl)
      | refine vaor_p (by assumption) (by with_unfolding_all rfl) ?_ (by with_unfolding_all rfl) (by with_unfolding_all rfl)
      | refine vaxor_ex (by assumption) (by with_unfolding_all rfl) ?_ (by with_unfolding_all rfl) (by with_unfolding_all rfl)
      | refine vaxor_cyc (by assumption) (by with_unfolding_all rfl) ?_ (by with_unfolding_all rfl) (by with_unfolding_all rfl)
      | refine vaxor_pc (by assumption) (by with_unfolding_all rfl) ?_ (by with_unfolding_all rfl) (by with_unfolding_all rfl)
      | refine vaxor_sp (by assumption) (by with_unfolding_all rfl) ?_ (by with_unfolding_all rfl) (by with_unfolding_all rfl)
      | refine vaxor_a (by assumption) (by with_unfolding_all rfl) ?_ (by with_unfolding_all rfl) (by with_unfolding_all rfl)
      | refine vaxor_x (by assumption) (by with_unfolding_all rfl) ?_ (by with_unfolding_all rfl) (by with_unfolding_all rfl)
      | refine vaxor_y (by assumption) (by with_unfolding_all rfl) ?_ (by with_unfolding_all rfl) (by with_unfolding_all rfl)
      | refine vaxor_p (by assumption) (by with_unfolding_all rfl) ?_ (by with_unfolding_all rfl) (by with_unfolding_all rfl)
      | refine exn_and (by assumption) (by with_unfolding_all rfl) ?_ (by with_unfolding_all rfl)
      | refine exn_add (by assumption) (by with_unfolding_all rfl) ?_ (by with_unfolding_all rfl)
      | refine exn_addI (by assumption) (by with_unfolding_all rfl) ?_ (by with_unfolding_all rfl))
    | (show Ex _ _ _ _ _ (.Assign _ _ _) _ _ _; first
      | refine vs_ex (by assumption) ?_ (by with_unfolding_all rfl) (by with_unfolding_all rfl) (by with_unfolding_all rfl)
      | refine vs_cyc (by assumption) ?_ (by with_unfolding_all rfl) (by with_unfolding_all rfl) (by with_unfolding_all rfl)
      | refine vs_pc (by assumption) ?_ (by with_unfolding_all rfl) (by with_unfolding_all rfl) (by with_unfolding_all rfl)
      | refine vs_sp (by assumption) ?_ (by with_unfolding_all rfl) (by with_unfolding_all rfl) (by with_unfolding_all rfl)
      | refine vs_a (by assumption) ?_ (by with_unfolding_all rfl) (by with_unfolding_all rfl) (by with_unfolding_all rfl)
      | refine vs_x (by assumption) ?_ (by with_unfolding_all rfl) (by with_unfolding_all rfl) (by with_unfolding_all rfl)
      | refine vs_y (by assumption) ?_ (by with_unfolding_all rfl) (by with_unfolding_all rfl) (by with_unfolding_all rfl)
      | refine vs_p (by assumption) ?_ (by with_unfolding_all rfl) (by with_unfolding_all rfl) (by with_unfolding_all rfl)
      | refine ex_let (by assumption) ?_ (by with_unfolding_all rfl) (by with_unfolding_all rfl)
      | refine ex_setitem ?_ (by with_unfolding_all rfl))
    | (show Ex _ _ _ _ _ _ _ _ _; first
      | refine ex_if ?_
      | refine ex_ret ?_
      | refine ex_expr ?_ (by with_unfolding_all rfl) (by with_unfolding_all rfl)
      | refine ex_pass ?_)
    | (show Ts _ _ _ _ _ _ _ _; first
      | refine ts_isn ?_ (by with_unfolding_all rfl)
      | refine ts_eq ?_ (by with_unfolding_all rfl)
      | refine ts_ne ?_ (by with_unfolding_all rfl)
      | refine ts_gt ?_ (by with_unfolding_all rfl)
      | refine ts_lt ?_ (by with_unfolding_all rfl)
      | refine ts_ge ?_ (by with_unfolding_all rfl)
      | refine ts_le ?_ (by with_unfolding_all rfl)
      | refine ts_plain ?_ (by with_unfolding_all rfl))
    | (show KS _ _ _ _ _ _; first
      | refine ks_ex (by with_unfolding_all rfl) ?_
      | refine ks_cyc (by with_unfolding_all rfl) ?_
      | refine ks_pc (by with_unfolding_all rfl) ?_
      | refine ks_sp (by with_unfolding_all rfl) ?_
      | refine ks_a (by with_unfolding_all rfl) ?_
      | refine ks_x (by with_unfolding_all rfl) ?_
      | refine ks_y (by with_unfolding_all rfl) ?_
      | refine ks_p (by with_unfolding_all rfl) ?_)
    | (show KA _ _ _ _ _ _ _; first
      | refine ka_ex ?_
      | refine ka_cyc ?_
      | refine ka_pc ?_
      | refine ka_sp ?_
      | refine ka_a ?_
      | refine ka_x ?_
      | refine ka_y ?_
      | refine ka_p ?_)
    | refine ki' ?_
    | refine ku ?_
    | refine kt ?_
    | refine kb ?_
    | refine kna ?_
    | refine kl ?_
    | refine kno_t ?_
    | refine kno_f ?_
    | refine dif_t rfl ?_
    | refine dif_f rfl ?_)
  (k_with "vc" => with_reducible (show Ev _ _ _ _ _ (.Call _ _ _ _) _ _; first
    | refine ev_m1 (by assumption) (m_ByteAt _ _) (by with_unfolding_all rfl) ?_ (by with_unfolding_all rfl) (by with_unfolding_all rfl) (by with_unfolding_all rfl) (by with_unfolding_all rfl)
    | refine ev_m1 (by assumption) (m_WordAt _ _) (by with_unfolding_all rfl) ?_ (by with_unfolding_all rfl) (by with_unfolding_all rfl) (by with_unfolding_all rfl) (by with_unfolding_all rfl)
    | refine ev_m1 (by assumption) (m_WrapAt _ _) (by with_unfolding_all rfl) ?_ (by with_unfolding_all rfl) (by with_unfolding_all rfl) (by with_unfolding_all rfl) (by with_unfolding_all rfl)
    | refine ev_m1 (by assumption) (m_FlagsNZ _ _) (by with_unfolding_all rfl) ?_ (by with_unfolding_all rfl) (by with_unfolding_all rfl) (by with_unfolding_all rfl) (by with_unfolding_all rfl)
    | refine ev_m1 (by assumption) (m_stPush _ _) (by with_unfolding_all rfl) ?_ (by with_unfolding_all rfl) (by with_unfolding_all rfl) (by with_unfolding_all rfl) (by with_unfolding_all rfl)
    | refine ev_m1 (by assumption) (m_opASL _ _) (by with_unfolding_all rfl) ?_ (by with_unfolding_all rfl) (by with_unfolding_all rfl) (by with_unfolding_all rfl) (by with_unfolding_all rfl)
    | refine ev_m1 (by assumption) (m_opBCL _ _) (by with_unfolding_all rfl) ?_ (by with_unfolding_all rfl) (by with_unfolding_all rfl) (by with_unfolding_all rfl) (by with_unfolding_all rfl)
    | refine ev_m1 (by assumption) (m_opBST _ _) (by with_unfolding_all rfl) ?_ (by with_unfolding_all rfl) (by with_unfolding_all rfl) (by with_unfolding_all rfl) (by with_unfolding_all rfl)
    | refine ev_m1 (by assumption) (m_opCLR _ _) (by with_unfolding_all rfl) ?_ (by with_unfolding_all rfl) (by with_unfolding_all rfl) (by with_unfolding_all rfl) (by with_unfolding_all rfl)
    | refine ev_m1 (by assumption) (m_opSET _ _) (by with_unfolding_all rfl) ?_ (by with_unfolding_all rfl) (by with_unfolding_all rfl) (by with_unfolding_all rfl) (by with_unfolding_all rfl)
    | refine ev_m1 (by assumption) (m_opAND _ _) (by with_unfolding_all rfl) ?_ (by with_unfolding_all rfl) (by with_unfolding_all rfl) (by with_unfolding_all rfl) (by with_unfolding_all rfl)
    | refine ev_m1 (by assumption) (m_opROL _ _) (by with_unfolding_all rfl) ?_ (by with_unfolding_all rfl) (by with_unfolding_all rfl) (by with_unfolding_all rfl) (by with_unfolding_all rfl)
    | refine ev_m1 (by assumption) (m_opEOR _ _) (by with_unfolding_all rfl) ?_ (by with_unfolding_all rfl) (by with_unfolding_all rfl) (by with_unfolding_all rfl) (by with_unfolding_all rfl)
    | refine ev_m1 (by assumption) (m_opADC _ _) (by with_unfolding_all rfl) ?_ (by with_unfolding_all rfl) (by with_unfolding_all rfl) (by with_unfolding_all rfl) (by with_unfolding_all rfl)
    | refine ev_m1 (by assumption) (m_opROR _ _) (by with_unfolding_all rfl) ?_ (by with_unfolding_all rfl) (by with_unfolding_all rfl) (by with_unfolding_all rfl) (by with_unfolding_all rfl)
    | refine ev_m1 (by assumption) (m_opSTA _ _) (by with_unfolding_all rfl) ?_ (by with_unfolding_all rfl) (by with_unfolding_all rfl) (by with_unfolding_all rfl) (by with_unfolding_all rfl)
    | refine ev_m1 (by assumption) (m_opSBC _ _) (by with_unfolding_all rfl) ?_ (by with_unfolding_all rfl) (by with_unfolding_all rfl) (by with_unfolding_all rfl) (by with_unfolding_all rfl)
    | refine ev_m1 (by assumption) (m_opDECR _ _) (by with_unfolding_all rfl) ?_ (by with_unfolding_all rfl) (by with_unfolding_all rfl) (by with_unfolding_all rfl) (by with_unfolding_all rfl)
    | refine ev_m1 (by assumption) (m_opLDA _ _) (by with_unfolding_all rfl) ?_ (by with_unfolding_all rfl) (by with_unfolding_all rfl) (by with_unfolding_all rfl) (by with_unfolding_all rfl)
    | refine ev_m0 (by assumption) (m_ProgramCounter _ _) (by with_unfolding_all rfl) ?_ (by with_unfolding_all rfl) (by with_unfolding_all rfl) (by with_unfolding_all rfl)
    | refine ev_m0 (by assumption) (m_ImmediateByte _ _) (by with_unfolding_all rfl) ?_ (by with_unfolding_all rfl) (by with_unfolding_all rfl) (by with_unfolding_all rfl)
    | refine ev_m0 (by assumption) (m_ZeroPageAddr _ _) (by with_unfolding_all rfl) ?_ (by with_unfolding_all rfl) (by with_unfolding_all rfl) (by with_unfolding_all rfl)
    | refine ev_m0 (by assumption) (m_ZeroPageXAddr _ _) (by with_unfolding_all rfl) ?_ (by with_unfolding_all rfl) (by with_unfolding_all rfl) (by with_unfolding_all rfl)
    | refine ev_m0 (by assumption) (m_AbsoluteAddr _ _) (by with_unfolding_all rfl) ?_ (by with_unfolding_all rfl) (by with_unfolding_all rfl) (by with_unfolding_all rfl)
    | refine ev_m0 (by assumption) (m_AbsoluteYAddr _ _) (by with_unfolding_all rfl) ?_ (by with_unfolding_all rfl) (by with_unfolding_all rfl) (by with_unfolding_all rfl)
    | refine ev_m0 (by assumption) (m_BranchRelAddr _ _) (by with_unfolding_all rfl) ?_ (by with_unfolding_all rfl) (by with_unfolding_all rfl) (by with_unfolding_all rfl)
    | refine ev_m0 (by assumption) (m_stPop _ _) (by with_unfolding_all rfl) ?_ (by with_unfolding_all rfl) (by with_unfolding_all rfl) (by with_unfolding_all rfl)))
  trivial
theorem vwords2 : True := by
  (k_with "v1" => first | k_extra "v" | k_extra "vc")
  (k_with "ve" => first
    | (refine cal_def1 (body := _ :: _) (sc' := ⟨_, _, _, _, _⟩) (by assumption) (by exact rfl) (by exact rfl) (fun _ => by exact rfl) (by exact rfl) rfl rfl rfl (by decide) ?_; intro c' O'; dsimp only)
    | (refine cal_def2 (body := _ :: _) (sc' := ⟨_, _, _, _, _⟩) (by assumption) (by exact rfl) (by exact rfl) (fun _ _ => by exact rfl) (by exact rfl) rfl rfl rfl (by decide) ?_; intro c' O'; dsimp only)
    | (refine cal_def3 (body := _ :: _) (sc' := ⟨_, _, _, _, _⟩) (by assumption) (by exact rfl) (by exact rfl) (fun _ _ _ => by exact rfl) (by exact rfl) rfl rfl rfl (by decide) ?_; intro c' O'; dsimp only))
  trivial
theorem bytes {ns : List Int} (hb : ∀ b ∈ ns, 0 ≤ b ∧ b < 256) (i : Int) : 0 ≤ rd ns i ∧ rd ns i < 256 := by
  unfold rd
  rw [List.getD_eq_getElem?_getD]
  cases h : ns[i.toNat]? with
  | none => simp
  | some b => exact hb b (List.mem_of_getElem? h)
theorem fl_nz0 (C Z V N : Bool) {v : Int} (h : v = 0) : Builtin.bitOr (Builtin.bitAnd (fl C Z V N) (Builtin.bitNot (Builtin.bitOr 2 128))) 2 = fl C (decide (v = 0)) V (decide (128 ≤ v)) := by
  subst h
  cases C <;> cases Z <;> cases V <;> cases N <;> decide +kernel
theorem byte_n : ∀ v : Nat, v < 256 → Builtin.bitAnd (v : Int) 128 = if 128 ≤ v then 128 else 0 := by decide +kernel
theorem fl_nz1 (C Z V N : Bool) {v : Int} (h0 : 0 ≤ v) (h1 : v < 256) (hz : v ≠ 0) : Builtin.bitOr (Builtin.bitAnd (fl C Z V N) (Builtin.bitNot (Builtin.bitOr 2 128))) (Builtin.bitAnd v 128) = fl C (decide (v = 0)) V (decide (128 ≤ v)) := by
  rw [decide_eq_false hz]
  have e := byte_n v.toNat (by omega)
  rw [Int.toNat_of_nonneg h0] at e
  rw [e]
  by_cases h : 128 ≤ v
  · rw [if_pos (by omega), decide_eq_true h]
    cases C <;> cases Z <;> cases V <;> cases N <;> decide +kernel
  · rw [if_neg (by omega), decide_eq_false h]
    cases C <;> cases Z <;> cases V <;> cases N <;> decide +kernel
theorem kitM {I : Im} {K : AV → Sg → Prop} {loc : List (Str × AV)} {r : Raw} {ns : List Int} {ls : List (Addr × List Int)} {k : Int} (hl : ns.length = 1024) (h0 : 0 ≤ k) (h1 : k < 1024) (h : K (.int (rd ns k)) ⟨loc, r, (I.r, ns) :: ls⟩) : KIt K (.val (.ref I.r)) (.int k) ⟨loc, r, (I.r, ns) :: ls⟩ := kit 0 rfl h0 (by omega) (by omega) h
theorem kmM {I : Im} {Kn : Sg → Prop} {loc : List (Str × AV)} {r : Raw} {ns : List Int} {ls : List (Addr × List Int)} {k x : Int} (hl : ns.length = 1024) (h0 : 0 ≤ k) (h1 : k < 1024) (h : Kn ⟨loc, r, (I.r, ns.set k.toNat x) :: ls⟩) : KM Kn (.int x) (.val (.ref I.r)) (.int k) ⟨loc, r, (I.r, ns) :: ls⟩ := km 0 rfl h0 (by omega) (by omega) h
theorem bits16 {v : Int} (h0 : 0 ≤ v) (h1 : v < 65536) {n : Int} (hn : n ≤ 16) : (Builtin.Int.intBits v : Int) + n ≤ 2 ^ 27 := by
  have : Builtin.Int.intBits v ≤ 16 := intBits_le_iff.mpr (by omega)
  omega
section
variable {K : AV → Sg → Prop} {v : AV} {loc : List (Str × AV)} {ls : List (Addr × List Int)} {eX cY pC sP aA xX yY pP i : Int} {aD : AV}
theorem fin_v {u : AV} {σ : Sg} (h : K u σ) (e : v = u) : K v σ := e ▸ h
theorem fin_p {p' : Int} (h : K v ⟨loc, ⟨eX, cY, pC, sP, aA, xX, yY, p', aD⟩, ls⟩) (hp : pP = p') : K v ⟨loc, ⟨eX, cY, pC, sP, aA, xX, yY, pP, aD⟩, ls⟩ := hp ▸ h
theorem fin_ap {a' p' : Int} (h : K v ⟨loc, ⟨eX, cY, pC, sP, a', xX, yY, p', aD⟩, ls⟩) (ha : aA = a') (hp : pP = p') : K v ⟨loc, ⟨eX, cY, pC, sP, aA, xX, yY, pP, aD⟩, ls⟩ := by subst ha hp; exact h
theorem fin_sp {s' : Int} (h : K v ⟨loc, ⟨eX, cY, pC, s', aA, xX, yY, pP, aD⟩, ls⟩) (e : sP = s') : K v ⟨loc, ⟨eX, cY, pC, sP, aA, xX, yY, pP, aD⟩, ls⟩ := e ▸ h
theorem fin_pc {s' : Int} (h : K v ⟨loc, ⟨eX, cY, s', sP, aA, xX, yY, pP, aD⟩, ls⟩) (e : pC = s') : K v ⟨loc, ⟨eX, cY, pC, sP, aA, xX, yY, pP, aD⟩, ls⟩ := e ▸ h
theorem fin_m {I : Im} {r : Raw} {ns ns' : List Int} (h : K v ⟨loc, r, (I.r, ns') :: ls⟩) (e : ns = ns') : K v ⟨loc, r, (I.r, ns) :: ls⟩ := e ▸ h
end
theorem shl8 {a : Int} : a * 2 ^ (8 : Int).toNat = a * 256 := rfl
theorem ki_shl8 {K : AV → Sg → Prop} {σ : Sg} {i : Int} (h0 : 0 ≤ i) (h1 : i < 65536) (h : K (.int (i * 256)) σ) : KI (fun a n => 0 ≤ n ∧ (Builtin.Int.intBits a : Int) + n ≤ 2 ^ 27) (fun a n => a * 2 ^ n.toNat) K (.int i) (.int 8) σ := ki ⟨by decide, bits16 h0 h1 (by decide)⟩ h
theorem ki_shl1 {K : AV → Sg → Prop} {σ : Sg} {i : Int} (h0 : 0 ≤ i) (h1 : i < 65536) (h : K (.int (i * 2)) σ) : KI (fun a n => 0 ≤ n ∧ (Builtin.Int.intBits a : Int) + n ≤ 2 ^ 27) (fun a n => a * 2 ^ n.toNat) K (.int i) (.int 1) σ := ki ⟨by decide, bits16 h0 h1 (by decide)⟩ h
theorem ki_shr1 {K : AV → Sg → Prop} {σ : Sg} {i : Int} (h : K (.int (i / 2)) σ) : KI (fun _ n => 0 ≤ n) (fun a n => a.fdiv (2 ^ n.toNat)) K (.int i) (.int 1) σ := ki (by decide) (by rw [Int.fdiv_eq_ediv_of_nonneg _ (by decide)]; exact h)
theorem byteN {v : Int} (h0 : 0 ≤ v) (h1 : v < 256) : Builtin.bitAnd v 128 = if 128 ≤ v then 128 else 0 := by
  have e := byte_n v.toNat (by omega)
  rw [Int.toNat_of_nonneg h0] at e
  rw [e]
  by_cases h : 128 ≤ v
  · rw [if_pos (by omega), if_pos h]
  · rw [if_neg (by omega), if_neg h]
theorem fl_dec (C Z V N : Bool) : Builtin.bitAnd (fl C Z V N) 8 = 0 := by cases C <;> cases Z <;> cases V <;> cases N <;> decide +kernel
theorem fl_C (C Z V N : Bool) : Builtin.bitAnd (fl C Z V N) 1 = if C then 1 else 0 := by cases C <;> cases Z <;> cases V <;> cases N <;> decide +kernel
theorem fl_Z (C Z V N : Bool) : Builtin.bitAnd (fl C Z V N) 2 = if Z then 2 else 0 := by cases C <;> cases Z <;> cases V <;> cases N <;> decide +kernel
theorem fl_clrC (C Z V N : Bool) : Builtin.bitAnd (fl C Z V N) (Builtin.bitNot 1) = fl false Z V N := by cases C <;> cases Z <;> cases V <;> cases N <;> decide +kernel
theorem fl_setC (C Z V N : Bool) : Builtin.bitOr (fl C Z V N) 1 = fl true Z V N := by cases C <;> cases Z <;> cases V <;> cases N <;> decide +kernel
theorem fl_c4a (C Z V N : Bool) : Builtin.bitAnd (fl C Z V N) (Builtin.bitNot (Builtin.bitOr (Builtin.bitOr (Builtin.bitOr 1 64) 128) 2)) = fl false false false false := by cases C <;> cases Z <;> cases V <;> cases N <;> decide +kernel
theorem fl_c4b (C Z V N : Bool) : Builtin.bitAnd (fl C Z V N) (Builtin.bitNot (Builtin.bitOr (Builtin.bitOr (Builtin.bitOr 1 2) 64) 128)) = fl false false false false := by cases C <;> cases Z <;> cases V <;> cases N <;> decide +kernel
theorem fl_c3 (C Z V N : Bool) : Builtin.bitAnd (fl C Z V N) (Builtin.bitNot (Builtin.bitOr (Builtin.bitOr 1 2) 128)) = fl false false V false := by cases C <;> cases Z <;> cases V <;> cases N <;> decide +kernel
theorem fl_c3b (C Z V N : Bool) : Builtin.bitAnd (fl C Z V N) (Builtin.bitNot (Builtin.bitOr (Builtin.bitOr 1 128) 2)) = fl false false V false := by cases C <;> cases Z <;> cases V <;> cases N <;> decide +kernel
theorem fl_c2 (C Z V N : Bool) : Builtin.bitAnd (fl C Z V N) (Builtin.bitNot (Builtin.bitOr 2 128)) = fl C false V false := by cases C <;> cases Z <;> cases V <;> cases N <;> decide +kernel
theorem fl_orC (C Z V N : Bool) : Builtin.bitOr (fl C Z V N) 1 = fl true Z V N := fl_setC C Z V N
theorem fl_orZ (C Z V N : Bool) : Builtin.bitOr (fl C Z V N) 2 = fl C true V N := by cases C <;> cases Z <;> cases V <;> cases N <;> decide +kernel
theorem fl_orV (C Z V N : Bool) : Builtin.bitOr (fl C Z V N) 64 = fl C Z true N := by cases C <;> cases Z <;> cases V <;> cases N <;> decide +kernel
theorem fl_orCZ (C Z V N : Bool) : Builtin.bitOr (fl C Z V N) (Builtin.bitOr 1 2) = fl true true V N := by cases C <;> cases Z <;> cases V <;> cases N <;> decide +kernel
theorem nand128 (x : Nat) : x &&& 128 = if x.testBit 7 then 128 else 0 := by
  apply Nat.eq_of_testBit_eq
  intro j
  have e : (128 : Nat) = 2 ^ 7 := rfl
  have k : Nat.testBit 128 j = decide (7 = j) := by rw [e, Nat.testBit_two_pow]
  rw [Nat.testBit_and, k]
  by_cases h : 7 = j
  · subst h
    cases hx : x.testBit 7
    · rfl
    · rw [if_pos rfl]; decide
  · rw [decide_eq_false h, Bool.and_false]
    split
    · rw [k, decide_eq_false h]
    · exact (Nat.zero_testBit j).symm
theorem and128 (x : Int) : Builtin.bitAnd x 128 = 0 ∨ Builtin.bitAnd x 128 = 128 := by
  by_cases hx : 0 ≤ x
  · rw [bitAnd_pp hx (by decide)]
    have e : x.toNat &&& (128 : Int).toNat = _ := nand128 x.toNat
    rw [e]
    split <;> simp
  · rw [bitAnd_np hx (by decide)]
    have e : (128 : Int).toNat &&& (Builtin.bitNot x).toNat = _ := (Nat.and_comm _ _).trans (nand128 (Builtin.bitNot x).toNat)
    rw [e]
    split <;> simp
theorem fl_orN (C Z V N : Bool) (x : Int) : Builtin.bitOr (fl C Z V N) (Builtin.bitAnd x 128) = fl C Z V (N || decide (Builtin.bitAnd x 128 ≠ 0)) := by
  rcases and128 x with e | e <;> rw [e] <;> cases C <;> cases Z <;> cases V <;> cases N <;> decide +kernel
theorem byteB {v : Int} (h0 : 0 ≤ v) (h1 : v < 256) : decide (Builtin.bitAnd v 128 ≠ 0) = decide (128 ≤ v) := by
  rw [byteN h0 h1]
  by_cases h : 128 ≤ v
  · rw [if_pos h, decide_eq_true h]; decide
  · rw [if_neg h, decide_eq_false h]; decide
theorem fl_congr {C Z V N C' Z' V' N' : Bool} (h1 : C = C') (h2 : Z = Z') (h3 : V = V') (h4 : N = N') : fl C Z V N = fl C' Z' V' N' := by rw [h1, h2, h3, h4]
theorem xor_range {a b : Int} (ha : 0 ≤ a) (ha' : a < 256) (hb : 0 ≤ b) (hb' : b < 256) : 0 ≤ Builtin.bitXor a b ∧ Builtin.bitXor a b < 256 := by
  have e := nat_or_add_and a.toNat b.toNat
  have h : a.toNat ||| b.toNat < 2 ^ 8 := Nat.or_lt_two_pow (by omega) (by omega)
  have l1 : a.toNat &&& b.toNat ≤ a.toNat := Nat.and_le_left
  have l2 : a.toNat &&& b.toNat ≤ b.toNat := Nat.and_le_right
  rw [bitXor_and, bitAnd_pp ha hb]
  omega
theorem xor255 {b : Int} (h0 : 0 ≤ b) (h1 : b < 256) : Builtin.bitXor b 255 = 255 - b := by
  rw [bitXor_and, bitAnd_m8]; omega
theorem nand_all : ∀ k : Nat, k < 256 → (512 + k) &&& 65280 = 512 := by decide +kernel
theorem nand_hi (z : Nat) (h0 : 512 ≤ z) (h1 : z < 768) : z &&& 65280 = 512 := by
  have h := nand_all (z - 512) (by omega)
  rwa [show 512 + (z - 512) = z by omega] at h
theorem nand_all3 : ∀ k : Nat, k < 256 → (768 + k) &&& 65280 = 768 := by decide +kernel
theorem page3 (z : Int) (h0 : 768 ≤ z) (h1 : z < 1024) : Builtin.bitAnd z 65280 = 768 := by
  rw [bitAnd_pp (by omega) (by decide)]
  have h := nand_all3 (z.toNat - 768) (by omega)
  rw [show 768 + (z.toNat - 768) = z.toNat by omega] at h
  have e : z.toNat &&& (65280 : Int).toNat = 768 := h
  rw [e]; rfl
theorem page2 (z : Int) (h0 : 512 ≤ z) (h1 : z < 768) : Builtin.bitAnd z 65280 = 512 := by
  rw [bitAnd_pp (by omega) (by decide)]
  have := nand_hi z.toNat (by omega) (by omega)
  have e : z.toNat &&& (65280 : Int).toNat = 512 := this
  rw [e]; rfl
theorem t_ByteAt {w : World} {I : Im} {ns : List Int} {r : Raw} {i : Int} (hl : ns.length = 1024) (h0 : 0 ≤ i) (h1 : i < 1024) : DV w 1 71 [.val (.ref I.x), .int i] I r ns (.int (rd ns i)) r (ns) := by
  refine ⟨?_⟩
  intro rest sc c n loc ls K O hn hr hK
  replace O := O.low hn
  k_extra "ve"
  repeat' k_extra "v1"
  refine kitM hl h0 h1 ?_
  exact hK
theorem t_FlagsNZ {w : World} {I : Im} {ns : List Int} {v : Int} {eX cY pC sP aA xX yY : Int} {C Z V N : Bool} {aD : AV} (h0 : 0 ≤ v) (h1 : v < 256) : DV w 1 197 [.val (.ref I.x), .int v] I ⟨eX, cY, pC, sP, aA, xX, yY, fl C Z V N, aD⟩ ns (.val .none) ⟨eX, cY, pC, sP, aA, xX, yY, fl C (decide (v = 0)) V (decide (128 ≤ v)), aD⟩ (ns) := by
  refine ⟨?_⟩
  intro rest sc c n loc ls K O hn hr hK
  replace O := O.low hn
  k_extra "ve"
  repeat' k_extra "v1"
  refine dif (fun q => ?_) fun q => ?_
  · repeat' k_extra "v1"
    exact fin_p hK (fl_nz0 _ _ _ _ (of_decide_eq_true q))
  · repeat' k_extra "v1"
    exact fin_p hK (fl_nz1 _ _ _ _ h0 h1 (of_decide_eq_false q))
theorem t_WordAt {w : World} {I : Im} {ns : List Int} {r : Raw} {i : Int} (hl : ns.length = 1024) (hb : ∀ b ∈ ns, 0 ≤ b ∧ b < 256) (h0 : 0 ≤ i) (h1 : i < 1023) : DV w 2 78 [.val (.ref I.x), .int i] I r ns (.int (rd ns i + rd ns (i + 1) * 256)) r (ns) := by
  refine ⟨?_⟩
  intro rest sc c n loc ls K O hn hr hK
  replace O := O.low hn
  have b1 := bytes hb (i + 1)
  k_extra "ve"
  repeat' k_extra "v1"
  refine (t_ByteAt hl h0 (by omega)).go (by assumption) (by decide) trivial ?_
  repeat' k_extra "v1"
  refine (t_ByteAt hl (by omega) (by omega)).go (by assumption) (by decide) trivial ?_
  repeat' k_extra "v1"
  refine ki_shl8 b1.1 (by omega) ?_
  repeat' k_extra "v1"
  exact hK
theorem t_ProgramCounter {w : World} {I : Im} {ns : List Int} {eX cY pC sP aA xX yY pP : Int} {aD : AV}  : DV w 1 92 [.val (.ref I.x)] I ⟨eX, cY, pC, sP, aA, xX, yY, pP, aD⟩ ns (.int pC) ⟨eX, cY, pC, sP, aA, xX, yY, pP, aD⟩ (ns) := by
  refine ⟨?_⟩
  intro rest sc c n loc ls K O hn hr hK
  replace O := O.low hn
  k_extra "ve"
  repeat' k_extra "v1"
  exact hK
theorem t_ImmediateByte {w : World} {I : Im} {ns : List Int} {eX cY pC sP aA xX yY pP : Int} {aD : AV} (hl : ns.length = 1024) (h0 : 0 ≤ pC) (h1 : pC < 1024)  : DV w 2 99 [.val (.ref I.x)] I ⟨eX, cY, pC, sP, aA, xX, yY, pP, aD⟩ ns (.int (rd ns pC)) ⟨eX, cY, pC, sP, aA, xX, yY, pP, aD⟩ (ns) := by
  refine ⟨?_⟩
  intro rest sc c n loc ls K O hn hr hK
  replace O := O.low hn
  k_extra "ve"
  repeat' k_extra "v1"
  refine (t_ByteAt hl h0 h1).go (by assumption) (by decide) trivial ?_
  repeat' k_extra "v1"
  exact hK
theorem t_ZeroPageAddr {w : World} {I : Im} {ns : List Int} {eX cY pC sP aA xX yY pP : Int} {aD : AV} (hl : ns.length = 1024) (h0 : 0 ≤ pC) (h1 : pC < 1024)  : DV w 2 106 [.val (.ref I.x)] I ⟨eX, cY, pC, sP, aA, xX, yY, pP, aD⟩ ns (.int (rd ns pC)) ⟨eX, cY, pC, sP, aA, xX, yY, pP, aD⟩ (ns) := by
  refine ⟨?_⟩
  intro rest sc c n loc ls K O hn hr hK
  replace O := O.low hn
  k_extra "ve"
  repeat' k_extra "v1"
  refine (t_ByteAt hl h0 h1).go (by assumption) (by decide) trivial ?_
  repeat' k_extra "v1"
  exact hK
theorem t_ZeroPageXAddr {w : World} {I : Im} {ns : List Int} {eX cY pC sP aA xX yY pP : Int} {aD : AV} (hl : ns.length = 1024) (h0 : 0 ≤ pC) (h1 : pC < 1024)  : DV w 2 113 [.val (.ref I.x)] I ⟨eX, cY, pC, sP, aA, xX, yY, pP, aD⟩ ns (.int ((xX + rd ns pC) % 256)) ⟨eX, cY, pC, sP, aA, xX, yY, pP, aD⟩ (ns) := by
  refine ⟨?_⟩
  intro rest sc c n loc ls K O hn hr hK
  replace O := O.low hn
  k_extra "ve"
  repeat' k_extra "v1"
  refine (t_ByteAt hl h0 h1).go (by assumption) (by decide) trivial ?_
  repeat' k_extra "v1"
  exact fin_v hK (congrArg AV.int (bitAnd_m8' _))
theorem t_AbsoluteAddr {w : World} {I : Im} {ns : List Int} {eX cY pC sP aA xX yY pP : Int} {aD : AV} (hl : ns.length = 1024) (hb : ∀ b ∈ ns, 0 ≤ b ∧ b < 256) (h0 : 0 ≤ pC) (h1 : pC < 1023) : DV w 3 141 [.val (.ref I.x)] I ⟨eX, cY, pC, sP, aA, xX, yY, pP, aD⟩ ns (.int (rd ns pC + rd ns (pC + 1) * 256)) ⟨eX, cY, pC, sP, aA, xX, yY, pP, aD⟩ (ns) := by
  refine ⟨?_⟩
  intro rest sc c n loc ls K O hn hr hK
  replace O := O.low hn
  k_extra "ve"
  repeat' k_extra "v1"
  refine (t_WordAt hl hb h0 h1).go (by assumption) (by decide) trivial ?_
  repeat' k_extra "v1"
  exact hK
theorem t_stPush {w : World} {I : Im} {ns : List Int} {z : Int} {eX cY pC sP aA xX yY pP : Int} {aD : AV} (hl : ns.length = 1024) (h0 : 0 ≤ sP) (h1 : sP < 256) : DV w 1 169 [.val (.ref I.x), .int z] I ⟨eX, cY, pC, sP, aA, xX, yY, pP, aD⟩ ns (.val .none) ⟨eX, cY, pC, (sP - 1) % 256, aA, xX, yY, pP, aD⟩ (ns.set (sP + 256).toNat (z % 256)) := by
  refine ⟨?_⟩
  intro rest sc c n loc ls K O hn hr hK
  replace O := O.low hn
  k_extra "ve"
  repeat' k_extra "v1"
  refine kmM hl (by omega) (by omega) ?_
  repeat' k_extra "v1"
  exact fin_m (fin_sp hK (bitAnd_m8 _)) (by rw [bitAnd_m8])
theorem t_stPop {w : World} {I : Im} {ns : List Int} {eX cY pC sP aA xX yY pP : Int} {aD : AV} (hl : ns.length = 1024) (h0 : 0 ≤ sP) (h1 : sP < 256) : DV w 2 176 [.val (.ref I.x)] I ⟨eX, cY, pC, sP, aA, xX, yY, pP, aD⟩ ns (.int (rd ns ((sP + 1) % 256 + 256))) ⟨eX, cY, pC, (sP + 1) % 256, aA, xX, yY, pP, aD⟩ (ns) := by
  refine ⟨?_⟩
  intro rest sc c n loc ls K O hn hr hK
  replace O := O.low hn
  have e8 := bitAnd_m8 (sP + 1)
  k_extra "ve"
  repeat' k_extra "v1"
  refine (t_ByteAt hl (by omega) (by omega)).go (by assumption) (by decide) trivial ?_
  repeat' k_extra "v1"
  exact fin_v (fin_sp hK e8) (by rw [e8])
theorem t_opCLR {w : World} {I : Im} {ns : List Int} {eX cY pC sP aA xX yY : Int} {C Z V N : Bool} {aD : AV}  : DV w 1 239 [.val (.ref I.x), .int 1] I ⟨eX, cY, pC, sP, aA, xX, yY, fl C Z V N, aD⟩ ns (.val .none) ⟨eX, cY, pC, sP, aA, xX, yY, fl false Z V N, aD⟩ (ns) := by
  refine ⟨?_⟩
  intro rest sc c n loc ls K O hn hr hK
  replace O := O.low hn
  k_extra "ve"
  repeat' k_extra "v1"
  exact fin_p hK (fl_clrC _ _ _ _)
theorem t_opSET {w : World} {I : Im} {ns : List Int} {eX cY pC sP aA xX yY : Int} {C Z V N : Bool} {aD : AV}  : DV w 1 246 [.val (.ref I.x), .int 1] I ⟨eX, cY, pC, sP, aA, xX, yY, fl C Z V N, aD⟩ ns (.val .none) ⟨eX, cY, pC, sP, aA, xX, yY, fl true Z V N, aD⟩ (ns) := by
  refine ⟨?_⟩
  intro rest sc c n loc ls K O hn hr hK
  replace O := O.low hn
  k_extra "ve"
  repeat' k_extra "v1"
  exact fin_p hK (fl_setC _ _ _ _)
theorem t_opLDA {w : World} {I : Im} {ns : List Int} {q fA : Addr} {i : Int} {eX cY pC sP aA xX yY : Int} {C Z V N : Bool} {aD : AV} (hl : ns.length = 1024)(hb : ∀ b ∈ ns, 0 ≤ b ∧ b < 256)(hfn : fnIn (KF w.params) fA = true) (hx : DV w 4 fA [.val (.ref I.x)] I ⟨eX, cY, pC, sP, aA, xX, yY, fl C Z V N, aD⟩ ns (.int i) ⟨eX, cY, pC, sP, aA, xX, yY, fl C Z V N, aD⟩ ns) (h0 : 0 ≤ i) (h1 : i < 1024)  : DV w 6 344 [.val (.ref I.x), .val (.ref q)] I ⟨eX, cY, pC, sP, aA, xX, yY, fl C Z V N, aD⟩ ns (.val .none) ⟨eX, cY, pC, sP, rd ns i, xX, yY, fl C (decide (rd ns i = 0)) V (decide (128 ≤ rd ns i)), aD⟩ (ns) (fun rest => (q, methodObj (.ref fA) (.ref I.x)) ∈ rest) := by
  refine ⟨?_⟩
  intro rest sc c n loc ls K O hn hr hK
  replace O := O.low hn
  have hbi := bytes hb i
  k_extra "ve"
  repeat' k_extra "v1"
  refine ev_b0 (by assumption) (by with_unfolding_all rfl) hr hfn (hx.go (by assumption) (by decide) trivial ?_) (by with_unfolding_all rfl) (by with_unfolding_all rfl) (by with_unfolding_all rfl)
  repeat' k_extra "v1"
  refine (t_ByteAt hl h0 h1).go (by assumption) (by decide) trivial ?_
  repeat' k_extra "v1"
  refine (t_FlagsNZ (by omega) (by omega)).go (by assumption) (by decide) trivial ?_
  repeat' k_extra "v1"
  exact hK
theorem t_opAND {w : World} {I : Im} {ns : List Int} {q fA : Addr} {i : Int} {eX cY pC sP aA xX yY : Int} {C Z V N : Bool} {aD : AV} (hl : ns.length = 1024)(hb : ∀ b ∈ ns, 0 ≤ b ∧ b < 256)(hfn : fnIn (KF w.params) fA = true) (hx : DV w 4 fA [.val (.ref I.x)] I ⟨eX, cY, pC, sP, aA, xX, yY, fl C Z V N, aD⟩ ns (.int i) ⟨eX, cY, pC, sP, aA, xX, yY, fl C Z V N, aD⟩ ns) (h0 : 0 ≤ i) (h1 : i < 1024)  : DV w 6 253 [.val (.ref I.x), .val (.ref q)] I ⟨eX, cY, pC, sP, aA, xX, yY, fl C Z V N, aD⟩ ns (.val .none) ⟨eX, cY, pC, sP, Builtin.bitAnd aA (rd ns i), xX, yY, fl C (decide (Builtin.bitAnd aA (rd ns i) = 0)) V (decide (128 ≤ Builtin.bitAnd aA (rd ns i))), aD⟩ (ns) (fun rest => (q, methodObj (.ref fA) (.ref I.x)) ∈ rest) := by
  refine ⟨?_⟩
  intro rest sc c n loc ls K O hn hr hK
  replace O := O.low hn
  have hbi := bytes hb i
  have hg := bitAnd_range aA hbi.1
  k_extra "ve"
  repeat' k_extra "v1"
  refine ev_b0 (by assumption) (by with_unfolding_all rfl) hr hfn (hx.go (by assumption) (by decide) trivial ?_) (by with_unfolding_all rfl) (by with_unfolding_all rfl) (by with_unfolding_all rfl)
  repeat' k_extra "v1"
  refine (t_ByteAt hl h0 h1).go (by assumption) (by decide) trivial ?_
  repeat' k_extra "v1"
  refine (t_FlagsNZ (by omega) (by omega)).go (by assumption) (by decide) trivial ?_
  repeat' k_extra "v1"
  exact hK
theorem t_opEOR {w : World} {I : Im} {ns : List Int} {q fA : Addr} {i : Int} {eX cY pC sP aA xX yY : Int} {C Z V N : Bool} {aD : AV} (hl : ns.length = 1024)(hb : ∀ b ∈ ns, 0 ≤ b ∧ b < 256)(hfn : fnIn (KF w.params) fA = true) (hx : DV w 4 fA [.val (.ref I.x)] I ⟨eX, cY, pC, sP, aA, xX, yY, fl C Z V N, aD⟩ ns (.int i) ⟨eX, cY, pC, sP, aA, xX, yY, fl C Z V N, aD⟩ ns) (h0 : 0 ≤ i) (h1 : i < 1024) (a0 : 0 ≤ aA) (a1 : aA < 256)  : DV w 6 274 [.val (.ref I.x), .val (.ref q)] I ⟨eX, cY, pC, sP, aA, xX, yY, fl C Z V N, aD⟩ ns (.val .none) ⟨eX, cY, pC, sP, Builtin.bitXor aA (rd ns i), xX, yY, fl C (decide (Builtin.bitXor aA (rd ns i) = 0)) V (decide (128 ≤ Builtin.bitXor aA (rd ns i))), aD⟩ (ns) (fun rest => (q, methodObj (.ref fA) (.ref I.x)) ∈ rest) := by
  refine ⟨?_⟩
  intro rest sc c n loc ls K O hn hr hK
  replace O := O.low hn
  have hbi := bytes hb i
  have hg := xor_range a0 a1 hbi.1 hbi.2
  k_extra "ve"
  repeat' k_extra "v1"
  refine ev_b0 (by assumption) (by with_unfolding_all rfl) hr hfn (hx.go (by assumption) (by decide) trivial ?_) (by with_unfolding_all rfl) (by with_unfolding_all rfl) (by with_unfolding_all rfl)
  repeat' k_extra "v1"
  refine (t_ByteAt hl h0 h1).go (by assumption) (by decide) trivial ?_
  repeat' k_extra "v1"
  refine (t_FlagsNZ (by omega) (by omega)).go (by assumption) (by decide) trivial ?_
  repeat' k_extra "v1"
  exact hK
theorem t_opSTA {w : World} {I : Im} {ns : List Int} {q fA : Addr} {i : Int} {eX cY pC sP aA xX yY : Int} {C Z V N : Bool} {aD : AV} (hl : ns.length = 1024)(hb : ∀ b ∈ ns, 0 ≤ b ∧ b < 256)(hfn : fnIn (KF w.params) fA = true) (hx : DV w 4 fA [.val (.ref I.x)] I ⟨eX, cY, pC, sP, aA, xX, yY, fl C Z V N, aD⟩ ns (.int i) ⟨eX, cY, pC, sP, aA, xX, yY, fl C Z V N, aD⟩ ns) (h0 : 0 ≤ i) (h1 : i < 1024)  : DV w 6 295 [.val (.ref I.x), .val (.ref q)] I ⟨eX, cY, pC, sP, aA, xX, yY, fl C Z V N, aD⟩ ns (.val .none) ⟨eX, cY, pC, sP, aA, xX, yY, fl C Z V N, aD⟩ (ns.set i.toNat aA) (fun rest => (q, methodObj (.ref fA) (.ref I.x)) ∈ rest) := by
  refine ⟨?_⟩
  intro rest sc c n loc ls K O hn hr hK
  replace O := O.low hn
  k_extra "ve"
  repeat' k_extra "v1"
  refine ev_b0 (by assumption) (by with_unfolding_all rfl) hr hfn (hx.go (by assumption) (by decide) trivial ?_) (by with_unfolding_all rfl) (by with_unfolding_all rfl) (by with_unfolding_all rfl)
  repeat' k_extra "v1"
  refine kmM hl h0 h1 ?_
  repeat' k_extra "v1"
  exact hK
theorem t_opCMPR {w : World} {I : Im} {ns : List Int} {v : Int} {q fA : Addr} {i : Int} {eX cY pC sP aA xX yY : Int} {C Z V N : Bool} {aD : AV} (hl : ns.length = 1024)(hb : ∀ b ∈ ns, 0 ≤ b ∧ b < 256)(hfn : fnIn (KF w.params) fA = true) (hx : DV w 4 fA [.val (.ref I.x)] I ⟨eX, cY, pC, sP, aA, xX, yY, fl C Z V N, aD⟩ ns (.int i) ⟨eX, cY, pC, sP, aA, xX, yY, fl C Z V N, aD⟩ ns) (h0 : 0 ≤ i) (h1 : i < 1024) (v0 : 0 ≤ v) (v1 : v < 256)  : DV w 6 316 [.val (.ref I.x), .val (.ref q), .int v] I ⟨eX, cY, pC, sP, aA, xX, yY, fl C Z V N, aD⟩ ns (.val .none) ⟨eX, cY, pC, sP, aA, xX, yY, fl (decide (rd ns i ≤ v)) (decide (v = rd ns i)) V (decide (Builtin.bitAnd (v - rd ns i) 128 ≠ 0)), aD⟩ (ns) (fun rest => (q, methodObj (.ref fA) (.ref I.x)) ∈ rest) := by
  refine ⟨?_⟩
  intro rest sc c n loc ls K O hn hr hK
  replace O := O.low hn
  have hbi := bytes hb i
  k_extra "ve"
  repeat' k_extra "v1"
  refine ev_b0 (by assumption) (by with_unfolding_all rfl) hr hfn (hx.go (by assumption) (by decide) trivial ?_) (by with_unfolding_all rfl) (by with_unfolding_all rfl) (by with_unfolding_all rfl)
  repeat' k_extra "v1"
  refine (t_ByteAt hl h0 h1).go (by assumption) (by decide) trivial ?_
  repeat' k_extra "v1"
  refine dif (fun q => ?_) fun q => ?_
  · replace q := of_decide_eq_true q
    repeat' k_extra "v1"
    exact fin_p hK (by simp only [fl_clrC, fl_c4a, fl_c4b, fl_c3, fl_c3b, fl_c2, fl_orC, fl_orZ, fl_orV, fl_orCZ, fl_orN]; exact fl_congr (by first | rfl | exact (decide_eq_true (by omega)).symm | exact (decide_eq_false (by omega)).symm | (simp only [Bool.false_or]; done) | (rw [Bool.false_or]; exact byteB (by omega) (by omega)) | (rw [Bool.false_or, byteB (by omega) (by omega)]; exact decide_eq_decide.mpr (by omega))) (by first | rfl | exact (decide_eq_true (by omega)).symm | exact (decide_eq_false (by omega)).symm | (simp only [Bool.false_or]; done) | (rw [Bool.false_or]; exact byteB (by omega) (by omega)) | (rw [Bool.false_or, byteB (by omega) (by omega)]; exact decide_eq_decide.mpr (by omega))) (by first | rfl | exact (decide_eq_true (by omega)).symm | exact (decide_eq_false (by omega)).symm | (simp only [Bool.false_or]; done) | (rw [Bool.false_or]; exact byteB (by omega) (by omega)) | (rw [Bool.false_or, byteB (by omega) (by omega)]; exact decide_eq_decide.mpr (by omega))) (by first | rfl | exact (decide_eq_true (by omega)).symm | exact (decide_eq_false (by omega)).symm | (simp only [Bool.false_or]; done) | (rw [Bool.false_or]; exact byteB (by omega) (by omega)) | (rw [Bool.false_or, byteB (by omega) (by omega)]; exact decide_eq_decide.mpr (by omega))))
  · replace q := of_decide_eq_false q
    repeat' k_extra "v1"
    refine dif (fun q2 => ?_) fun q2 => ?_
    · replace q2 := of_decide_eq_true q2
      repeat' k_extra "v1"
      exact fin_p hK (by simp only [fl_clrC, fl_c4a, fl_c4b, fl_c3, fl_c3b, fl_c2, fl_orC, fl_orZ, fl_orV, fl_orCZ, fl_orN]; exact fl_congr (by first | rfl | exact (decide_eq_true (by omega)).symm | exact (decide_eq_false (by omega)).symm | (simp only [Bool.false_or]; done) | (rw [Bool.false_or]; exact byteB (by omega) (by omega)) | (rw [Bool.false_or, byteB (by omega) (by omega)]; exact decide_eq_decide.mpr (by omega))) (by first | rfl | exact (decide_eq_true (by omega)).symm | exact (decide_eq_false (by omega)).symm | (simp only [Bool.false_or]; done) | (rw [Bool.false_or]; exact byteB (by omega) (by omega)) | (rw [Bool.false_or, byteB (by omega) (by omega)]; exact decide_eq_decide.mpr (by omega))) (by first | rfl | exact (decide_eq_true (by omega)).symm | exact (decide_eq_false (by omega)).symm | (simp only [Bool.false_or]; done) | (rw [Bool.false_or]; exact byteB (by omega) (by omega)) | (rw [Bool.false_or, byteB (by omega) (by omega)]; exact decide_eq_decide.mpr (by omega))) (by first | rfl | exact (decide_eq_true (by omega)).symm | exact (decide_eq_false (by omega)).symm | (simp only [Bool.false_or]; done) | (rw [Bool.false_or]; exact byteB (by omega) (by omega)) | (rw [Bool.false_or, byteB (by omega) (by omega)]; exact decide_eq_decide.mpr (by omega))))
    · replace q2 := of_decide_eq_false q2
      repeat' k_extra "v1"
      exact fin_p hK (by simp only [fl_clrC, fl_c4a, fl_c4b, fl_c3, fl_c3b, fl_c2, fl_orC, fl_orZ, fl_orV, fl_orCZ, fl_orN]; exact fl_congr (by first | rfl | exact (decide_eq_true (by omega)).symm | exact (decide_eq_false (by omega)).symm | (simp only [Bool.false_or]; done) | (rw [Bool.false_or]; exact byteB (by omega) (by omega)) | (rw [Bool.false_or, byteB (by omega) (by omega)]; exact decide_eq_decide.mpr (by omega))) (by first | rfl | exact (decide_eq_true (by omega)).symm | exact (decide_eq_false (by omega)).symm | (simp only [Bool.false_or]; done) | (rw [Bool.false_or]; exact byteB (by omega) (by omega)) | (rw [Bool.false_or, byteB (by omega) (by omega)]; exact decide_eq_decide.mpr (by omega))) (by first | rfl | exact (decide_eq_true (by omega)).symm | exact (decide_eq_false (by omega)).symm | (simp only [Bool.false_or]; done) | (rw [Bool.false_or]; exact byteB (by omega) (by omega)) | (rw [Bool.false_or, byteB (by omega) (by omega)]; exact decide_eq_decide.mpr (by omega))) (by first | rfl | exact (decide_eq_true (by omega)).symm | exact (decide_eq_false (by omega)).symm | (simp only [Bool.false_or]; done) | (rw [Bool.false_or]; exact byteB (by omega) (by omega)) | (rw [Bool.false_or, byteB (by omega) (by omega)]; exact decide_eq_decide.mpr (by omega))))
theorem t_opDECR {w : World} {I : Im} {ns : List Int} {q fA : Addr} {i : Int} {eX cY pC sP aA xX yY : Int} {C Z V N : Bool} {aD : AV} (hl : ns.length = 1024)(hb : ∀ b ∈ ns, 0 ≤ b ∧ b < 256)(hfn : fnIn (KF w.params) fA = true) (hx : DV w 4 fA [.val (.ref I.x)] I ⟨eX, cY, pC, sP, aA, xX, yY, fl C Z V N, aD⟩ ns (.int i) ⟨eX, cY, pC, sP, aA, xX, yY, fl C Z V N, aD⟩ ns) (h0 : 0 ≤ i) (h1 : i < 1024)  : DV w 6 330 [.val (.ref I.x), .val (.ref q)] I ⟨eX, cY, pC, sP, aA, xX, yY, fl C Z V N, aD⟩ ns (.val .none) ⟨eX, cY, pC, sP, aA, xX, yY, fl C (decide ((rd ns i - 1) % 256 = 0)) V (decide (128 ≤ (rd ns i - 1) % 256)), aD⟩ (ns.set i.toNat ((rd ns i - 1) % 256)) (fun rest => (q, methodObj (.ref fA) (.ref I.x)) ∈ rest) := by
  refine ⟨?_⟩
  intro rest sc c n loc ls K O hn hr hK
  replace O := O.low hn
  have hbi := bytes hb i
  have e8 := bitAnd_m8 (rd ns i - 1)
  k_extra "ve"
  repeat' k_extra "v1"
  refine ev_b0 (by assumption) (by with_unfolding_all rfl) hr hfn (hx.go (by assumption) (by decide) trivial ?_) (by with_unfolding_all rfl) (by with_unfolding_all rfl) (by with_unfolding_all rfl)
  repeat' k_extra "v1"
  refine (t_ByteAt hl h0 h1).go (by assumption) (by decide) trivial ?_
  repeat' k_extra "v1"
  rw [e8]
  refine dif (fun q => ?_) fun q => ?_
  · replace q : (rd ns i - 1) % 256 ≠ 0 := bne_iff_ne.mp q
    repeat' k_extra "v1"
    refine kmM hl h0 h1 ?_
    repeat' k_extra "v1"
    exact fin_p hK (by simp only [fl_clrC, fl_c4a, fl_c4b, fl_c3, fl_c3b, fl_c2, fl_orC, fl_orZ, fl_orV, fl_orCZ, fl_orN]; exact fl_congr (by first | rfl | exact (decide_eq_true (by omega)).symm | exact (decide_eq_false (by omega)).symm | (simp only [Bool.false_or]; done) | (rw [Bool.false_or]; exact byteB (by omega) (by omega)) | (rw [Bool.false_or, byteB (by omega) (by omega)]; exact decide_eq_decide.mpr (by omega))) (by first | rfl | exact (decide_eq_true (by omega)).symm | exact (decide_eq_false (by omega)).symm | (simp only [Bool.false_or]; done) | (rw [Bool.false_or]; exact byteB (by omega) (by omega)) | (rw [Bool.false_or, byteB (by omega) (by omega)]; exact decide_eq_decide.mpr (by omega))) (by first | rfl | exact (decide_eq_true (by omega)).symm | exact (decide_eq_false (by omega)).symm | (simp only [Bool.false_or]; done) | (rw [Bool.false_or]; exact byteB (by omega) (by omega)) | (rw [Bool.false_or, byteB (by omega) (by omega)]; exact decide_eq_decide.mpr (by omega))) (by first | rfl | exact (decide_eq_true (by omega)).symm | exact (decide_eq_false (by omega)).symm | (simp only [Bool.false_or]; done) | (rw [Bool.false_or]; exact byteB (by omega) (by omega)) | (rw [Bool.false_or, byteB (by omega) (by omega)]; exact decide_eq_decide.mpr (by omega))))
  · replace q : (rd ns i - 1) % 256 = 0 := by simpa using q
    repeat' k_extra "v1"
    refine kmM hl h0 h1 ?_
    repeat' k_extra "v1"
    exact fin_p hK (by simp only [fl_clrC, fl_c4a, fl_c4b, fl_c3, fl_c3b, fl_c2, fl_orC, fl_orZ, fl_orV, fl_orCZ, fl_orN]; exact fl_congr (by first | rfl | exact (decide_eq_true (by omega)).symm | exact (decide_eq_false (by omega)).symm | (simp only [Bool.false_or]; done) | (rw [Bool.false_or]; exact byteB (by omega) (by omega)) | (rw [Bool.false_or, byteB (by omega) (by omega)]; exact decide_eq_decide.mpr (by omega))) (by first | rfl | exact (decide_eq_true (by omega)).symm | exact (decide_eq_false (by omega)).symm | (simp only [Bool.false_or]; done) | (rw [Bool.false_or]; exact byteB (by omega) (by omega)) | (rw [Bool.false_or, byteB (by omega) (by omega)]; exact decide_eq_decide.mpr (by omega))) (by first | rfl | exact (decide_eq_true (by omega)).symm | exact (decide_eq_false (by omega)).symm | (simp only [Bool.false_or]; done) | (rw [Bool.false_or]; exact byteB (by omega) (by omega)) | (rw [Bool.false_or, byteB (by omega) (by omega)]; exact decide_eq_decide.mpr (by omega))) (by first | rfl | exact (decide_eq_true (by omega)).symm | exact (decide_eq_false (by omega)).symm | (simp only [Bool.false_or]; done) | (rw [Bool.false_or]; exact byteB (by omega) (by omega)) | (rw [Bool.false_or, byteB (by omega) (by omega)]; exact decide_eq_decide.mpr (by omega))))
end Mine
end
section
open PySem PySem.W PySem.Calls PyProof.Rows
set_option maxRecDepth 100000
set_option maxHeartbeats 4000000
namespace Mine
theorem t_opADC {w : World} {I : Im} {ns : List Int} {q fA : Addr} {i : Int} {eX cY pC sP aA xX yY : Int} {Z V N : Bool} {aD : AV} (hl : ns.length = 1024)(hb : ∀ b ∈ ns, 0 ≤ b ∧ b < 256)(hfn : fnIn (KF w.params) fA = true) (hx : DV w 4 fA [.val (.ref I.x)] I ⟨eX, cY, pC, sP, aA, xX, yY, fl false Z V N, aD⟩ ns (.int i) ⟨eX, cY, pC, sP, aA, xX, yY, fl false Z V N, aD⟩ ns) (h0 : 0 ≤ i) (h1 : i < 1024) (a0 : 0 ≤ aA) (a1 : aA < 256)  : DV w 6 281 [.val (.ref I.x), .val (.ref q)] I ⟨eX, cY, pC, sP, aA, xX, yY, fl false Z V N, aD⟩ ns (.val .none) ⟨eX, cY, pC, sP, (rd ns i + aA) % 256, xX, yY, fl (decide (255 < rd ns i + aA)) (decide ((rd ns i + aA) % 256 = 0)) (decide (Builtin.bitAnd (Builtin.bitAnd (Builtin.bitNot (Builtin.bitXor aA (rd ns i))) (Builtin.bitXor aA (rd ns i + aA + 0))) 128 ≠ 0)) (decide (128 ≤ (rd ns i + aA) % 256)), aD⟩ (ns) (fun rest => (q, methodObj (.ref fA) (.ref I.x)) ∈ rest) := by
  refine ⟨?_⟩
  intro rest sc c n loc ls K O hn hr hK
  replace O := O.low hn
  have hbi := bytes hb i
  have hD : (Builtin.bitAnd (fl false Z V N) 8 != 0) = false := by rw [fl_dec]; rfl
  have hc1 : (Builtin.bitAnd (fl false Z V N) 1 != 0) = false := by rw [fl_C]; rfl
  have e8 := bitAnd_m8 (rd ns i + aA + 0)
  k_extra "ve"
  repeat' k_extra "v1"
  refine ev_b0 (by assumption) (by with_unfolding_all rfl) hr hfn (hx.go (by assumption) (by decide) trivial ?_) (by with_unfolding_all rfl) (by with_unfolding_all rfl) (by with_unfolding_all rfl)
  repeat' k_extra "v1"
  refine (t_ByteAt hl h0 h1).go (by assumption) (by decide) trivial ?_
  repeat' k_extra "v1"
  refine dif_f hD ?_
  repeat' k_extra "v1"
  refine dif_f hc1 ?_
  repeat' k_extra "v1"
  have go : ∀ b : Bool, b = decide (Builtin.bitAnd (Builtin.bitAnd (Builtin.bitNot (Builtin.bitXor aA (rd ns i))) (Builtin.bitXor aA (rd ns i + aA + 0))) 128 ≠ 0) → True := fun _ _ => trivial
  refine dif (fun qv => ?_) fun qv => ?_
  all_goals (
    repeat' k_extra "v1"
    refine dif (fun q => ?_) fun q => ?_)
  all_goals (
    repeat' k_extra "v1"
    (try rw [e8])
    refine dif (fun q2 => ?_) fun q2 => ?_)
  all_goals (
    repeat' k_extra "v1"
    refine fin_ap hK ?_ ?_
    · first | rfl | (simp only [decide_eq_true_eq, decide_eq_false_iff_not] at q; omega)
    · simp only [decide_eq_true_eq, decide_eq_false_iff_not, beq_iff_eq, beq_eq_false_iff_ne, bne_iff_ne, bne_eq_false_iff_eq, ne_eq] at q q2 qv
      simp only [fl_clrC, fl_c4a, fl_c4b, fl_c3, fl_c3b, fl_c2, fl_orC, fl_orZ, fl_orV, fl_orCZ, fl_orN]; exact fl_congr (by first | rfl | exact (decide_eq_true (by omega)).symm | exact (decide_eq_false (by omega)).symm | (simp only [Bool.false_or]; done) | (rw [Bool.false_or]; exact byteB (by omega) (by omega)) | (rw [Bool.false_or, byteB (by omega) (by omega)]; exact decide_eq_decide.mpr (by omega))) (by first | rfl | exact (decide_eq_true (by omega)).symm | exact (decide_eq_false (by omega)).symm | (simp only [Bool.false_or]; done) | (rw [Bool.false_or]; exact byteB (by omega) (by omega)) | (rw [Bool.false_or, byteB (by omega) (by omega)]; exact decide_eq_decide.mpr (by omega))) (by first | rfl | exact (decide_eq_true (by omega)).symm | exact (decide_eq_false (by omega)).symm | (simp only [Bool.false_or]; done) | (rw [Bool.false_or]; exact byteB (by omega) (by omega)) | (rw [Bool.false_or, byteB (by omega) (by omega)]; exact decide_eq_decide.mpr (by omega))) (by first | rfl | exact (decide_eq_true (by omega)).symm | exact (decide_eq_false (by omega)).symm | (simp only [Bool.false_or]; done) | (rw [Bool.false_or]; exact byteB (by omega) (by omega)) | (rw [Bool.false_or, byteB (by omega) (by omega)]; exact decide_eq_decide.mpr (by omega))))
end Mine
end
section
open PySem PySem.W PySem.Calls PyProof.Rows
set_option maxRecDepth 100000
set_option maxHeartbeats 4000000
namespace Mine
theorem t_opSBC {w : World} {I : Im} {ns : List Int} {q fA : Addr} {i : Int} {eX cY pC sP aA xX yY : Int} {Z V N : Bool} {aD : AV} (hl : ns.length = 1024)(hb : ∀ b ∈ ns, 0 ≤ b ∧ b < 256)(hfn : fnIn (KF w.params) fA = true) (hx : DV w 4 fA [.val (.ref I.x)] I ⟨eX, cY, pC, sP, aA, xX, yY, fl true Z V N, aD⟩ ns (.int i) ⟨eX, cY, pC, sP, aA, xX, yY, fl true Z V N, aD⟩ ns) (h0 : 0 ≤ i) (h1 : i < 1024) (a0 : 0 ≤ aA) (a1 : aA < 256)  : DV w 6 323 [.val (.ref I.x), .val (.ref q)] I ⟨eX, cY, pC, sP, aA, xX, yY, fl true Z V N, aD⟩ ns (.val .none) ⟨eX, cY, pC, sP, (aA - rd ns i) % 256, xX, yY, fl (decide (rd ns i ≤ aA)) (decide ((aA - rd ns i) % 256 = 0)) (decide (Builtin.bitAnd (Builtin.bitAnd (Builtin.bitXor aA (rd ns i)) (Builtin.bitXor aA (aA + (255 - rd ns i) + 1))) 128 ≠ 0)) (decide (128 ≤ (aA - rd ns i) % 256)), aD⟩ (ns) (fun rest => (q, methodObj (.ref fA) (.ref I.x)) ∈ rest) := by
  refine ⟨?_⟩
  intro rest sc c n loc ls K O hn hr hK
  replace O := O.low hn
  have hbi := bytes hb i
  have hD : (Builtin.bitAnd (fl true Z V N) 8 != 0) = false := by rw [fl_dec]; rfl
  have q1 : Builtin.bitAnd (Builtin.bitNot (rd ns i)) 255 = 255 - rd ns i := by rw [bitAnd_m8]; unfold Builtin.bitNot; omega
  have q2 : Builtin.bitAnd (fl true Z V N) 1 = 1 := by rw [fl_C]; rfl
  have e8 := bitAnd_m8 (aA + (255 - rd ns i) + 1)
  k_extra "ve"
  repeat' k_extra "v1"
  refine ev_b0 (by assumption) (by with_unfolding_all rfl) hr hfn (hx.go (by assumption) (by decide) trivial ?_) (by with_unfolding_all rfl) (by with_unfolding_all rfl) (by with_unfolding_all rfl)
  repeat' k_extra "v1"
  refine (t_ByteAt hl h0 h1).go (by assumption) (by decide) trivial ?_
  repeat' k_extra "v1"
  refine dif_f hD ?_
  repeat' k_extra "v1"
  rw [q1, q2]
  refine dif (fun qv => ?_) fun qv => ?_
  all_goals (
    repeat' k_extra "v1"
    rw [e8]
    refine dif (fun q => ?_) fun q => ?_)
  all_goals (
    repeat' k_extra "v1"
    refine dif (fun q2 => ?_) fun q2 => ?_)
  all_goals (
    repeat' k_extra "v1"
    simp only [decide_eq_true_eq, decide_eq_false_iff_not, beq_iff_eq, beq_eq_false_iff_ne, bne_iff_ne, bne_eq_false_iff_eq, ne_eq] at q q2 qv
    refine fin_ap hK ?_ ?_
    · omega
    · simp only [fl_clrC, fl_c4a, fl_c4b, fl_c3, fl_c3b, fl_c2, fl_orC, fl_orZ, fl_orV, fl_orCZ, fl_orN]; exact fl_congr (by first | rfl | exact (decide_eq_true (by omega)).symm | exact (decide_eq_false (by omega)).symm | (simp only [Bool.false_or]; done) | (rw [Bool.false_or]; exact byteB (by omega) (by omega)) | (rw [Bool.false_or, byteB (by omega) (by omega)]; exact decide_eq_decide.mpr (by omega))) (by first | rfl | exact (decide_eq_true (by omega)).symm | exact (decide_eq_false (by omega)).symm | (simp only [Bool.false_or]; done) | (rw [Bool.false_or]; exact byteB (by omega) (by omega)) | (rw [Bool.false_or, byteB (by omega) (by omega)]; exact decide_eq_decide.mpr (by omega))) (by first | rfl | exact (decide_eq_true (by omega)).symm | exact (decide_eq_false (by omega)).symm | (simp only [Bool.false_or]; done) | (rw [Bool.false_or]; exact byteB (by omega) (by omega)) | (rw [Bool.false_or, byteB (by omega) (by omega)]; exact decide_eq_decide.mpr (by omega))) (by first | rfl | exact (decide_eq_true (by omega)).symm | exact (decide_eq_false (by omega)).symm | (simp only [Bool.false_or]; done) | (rw [Bool.false_or]; exact byteB (by omega) (by omega)) | (rw [Bool.false_or, byteB (by omega) (by omega)]; exact decide_eq_decide.mpr (by omega))))
theorem t_opASL {w : World} {I : Im} {ns : List Int} {eX cY pC sP aA xX yY : Int} {C Z V N : Bool} {aD : AV} (a0 : 0 ≤ aA) (a1 : aA < 256)  : DV w 6 211 [.val (.ref I.x), .val .none] I ⟨eX, cY, pC, sP, aA, xX, yY, fl C Z V N, aD⟩ ns (.val .none) ⟨eX, cY, pC, sP, aA * 2 % 256, xX, yY, fl (decide (128 ≤ aA)) (decide (aA * 2 % 256 = 0)) V (decide (128 ≤ aA * 2 % 256)), aD⟩ (ns) := by
  refine ⟨?_⟩
  intro rest sc c n loc ls K O hn hr hK
  replace O := O.low hn
  have e8 : Builtin.bitAnd (aA * 2) 255 = aA * 2 % 256 := by rw [bitAnd_m8]
  have h7 : (Builtin.bitAnd aA 128 ≠ 0) ↔ 128 ≤ aA := by rw [byteN a0 a1]; by_cases q : 128 ≤ aA <;> simp [q]
  k_extra "ve"
  repeat' k_extra "v1"
  refine dif (fun q => ?_) fun q => ?_
  all_goals (
    repeat' k_extra "v1"
    refine ki_shl1 a0 (by omega) ?_
    repeat' k_extra "v1"
    rw [e8]
    refine dif (fun q2 => ?_) fun q2 => ?_)
  all_goals (
    repeat' k_extra "v1"
    simp only [bne_iff_ne, bne_eq_false_iff_eq] at q q2
    try rw [h7] at q
    try rw [← Decidable.not_iff_not, h7] at q
    have q' : 128 ≤ aA ∨ ¬ 128 ≤ aA := Decidable.em _
    have q3 : (Builtin.bitAnd aA 128 = 0) ↔ ¬ 128 ≤ aA := by rw [← h7]; exact Decidable.not_not.symm
    try rw [q3] at q
    refine fin_p hK ?_
    simp only [fl_clrC, fl_c4a, fl_c4b, fl_c3, fl_c3b, fl_c2, fl_orC, fl_orZ, fl_orV, fl_orCZ, fl_orN]; exact fl_congr (by first | rfl | exact (decide_eq_true (by omega)).symm | exact (decide_eq_false (by omega)).symm | (simp only [Bool.false_or]; done) | (rw [Bool.false_or]; exact byteB (by omega) (by omega)) | (rw [Bool.false_or, byteB (by omega) (by omega)]; exact decide_eq_decide.mpr (by omega))) (by first | rfl | exact (decide_eq_true (by omega)).symm | exact (decide_eq_false (by omega)).symm | (simp only [Bool.false_or]; done) | (rw [Bool.false_or]; exact byteB (by omega) (by omega)) | (rw [Bool.false_or, byteB (by omega) (by omega)]; exact decide_eq_decide.mpr (by omega))) (by first | rfl | exact (decide_eq_true (by omega)).symm | exact (decide_eq_false (by omega)).symm | (simp only [Bool.false_or]; done) | (rw [Bool.false_or]; exact byteB (by omega) (by omega)) | (rw [Bool.false_or, byteB (by omega) (by omega)]; exact decide_eq_decide.mpr (by omega))) (by first | rfl | exact (decide_eq_true (by omega)).symm | exact (decide_eq_false (by omega)).symm | (simp only [Bool.false_or]; done) | (rw [Bool.false_or]; exact byteB (by omega) (by omega)) | (rw [Bool.false_or, byteB (by omega) (by omega)]; exact decide_eq_decide.mpr (by omega))))
theorem t_opROL {w : World} {I : Im} {ns : List Int} {eX cY pC sP xX yY : Int} {C Z V N : Bool} {aD : AV}  : DV w 6 267 [.val (.ref I.x), .val .none] I ⟨eX, cY, pC, sP, 0, xX, yY, fl C Z V N, aD⟩ ns (.val .none) ⟨eX, cY, pC, sP, (if C = true then 1 else 0), xX, yY, fl false (decide ((if C = true then (1 : Int) else 0) = 0)) V (decide (128 ≤ (if C = true then (1 : Int) else 0))), aD⟩ (ns) := by
  refine ⟨?_⟩
  intro rest sc c n loc ls K O hn hr hK
  replace O := O.low hn
  cases C
  · have hc1 : (Builtin.bitAnd (fl false Z V N) 1 != 0) = false := by rw [fl_C]; rfl
    k_extra "ve"
    repeat' k_extra "v1"
    refine dif_f hc1 ?_
    repeat' k_extra "v1"
    refine ki_shl1 (by decide) (by decide) ?_
    repeat' k_extra "v1"
    refine (t_FlagsNZ (by decide) (by decide)).go (by assumption) (by decide) trivial ?_
    repeat' k_extra "v1"
    exact hK
  · have hc1 : (Builtin.bitAnd (fl true Z V N) 1 != 0) = true := by rw [fl_C]; rfl
    k_extra "ve"
    repeat' k_extra "v1"
    refine dif_t hc1 ?_
    repeat' k_extra "v1"
    rw [fl_clrC]
    refine ki_shl1 (by decide) (by decide) ?_
    repeat' k_extra "v1"
    refine (t_FlagsNZ (by decide) (by decide)).go (by assumption) (by decide) trivial ?_
    repeat' k_extra "v1"
    exact hK
theorem t_opROR {w : World} {I : Im} {ns : List Int} {q fA : Addr} {i : Int} {eX cY pC sP aA xX yY : Int} {C Z V N : Bool} {aD : AV} (hl : ns.length = 1024)(hb : ∀ b ∈ ns, 0 ≤ b ∧ b < 256)(hfn : fnIn (KF w.params) fA = true) (hx : DV w 4 fA [.val (.ref I.x)] I ⟨eX, cY, pC, sP, aA, xX, yY, fl C Z V N, aD⟩ ns (.int i) ⟨eX, cY, pC, sP, aA, xX, yY, fl C Z V N, aD⟩ ns) (h0 : 0 ≤ i) (h1 : i < 1024)  : DV w 6 288 [.val (.ref I.x), .val (.ref q)] I ⟨eX, cY, pC, sP, aA, xX, yY, fl C Z V N, aD⟩ ns (.val .none) ⟨eX, cY, pC, sP, aA, xX, yY, fl (decide (rd ns i % 2 = 1)) (decide ((rd ns i / 2 + if C = true then 128 else 0) = 0)) V (decide (128 ≤ (rd ns i / 2 + if C = true then 128 else 0))), aD⟩ (ns.set i.toNat (rd ns i / 2 + if C = true then 128 else 0)) (fun rest => (q, methodObj (.ref fA) (.ref I.x)) ∈ rest) := by
  refine ⟨?_⟩
  intro rest sc c n loc ls K O hn hr hK
  replace O := O.low hn
  have hbi := bytes hb i
  have m1 := bitAnd_m1 (rd ns i)
  have d2 : Builtin.bitOr (rd ns i / 2) 128 = rd ns i / 2 + 128 := by rw [bitOr_and, byteN (by omega) (by omega), if_neg (by omega)]; omega
  cases C
  · have hc1 : (Builtin.bitAnd (fl false Z V N) 1 != 0) = false := by rw [fl_C]; rfl
    rw [if_neg (by decide), Int.add_zero] at hK
    k_extra "ve"
    repeat' k_extra "v1"
    refine ev_b0 (by assumption) (by with_unfolding_all rfl) hr hfn (hx.go (by assumption) (by decide) trivial ?_) (by with_unfolding_all rfl) (by with_unfolding_all rfl) (by with_unfolding_all rfl)
    repeat' k_extra "v1"
    refine (t_ByteAt hl h0 h1).go (by assumption) (by decide) trivial ?_
    repeat' k_extra "v1"
    refine dif_f hc1 ?_
    repeat' k_extra "v1"
    rw [m1]
    refine dif (fun q => ?_) fun q => ?_
    all_goals (
      repeat' k_extra "v1"
      refine ki_shr1 ?_
      repeat' k_extra "v1"
      simp only [bne_iff_ne, bne_eq_false_iff_eq] at q
      try rw [fl_setC]
      refine (t_FlagsNZ (by omega) (by omega)).go (by assumption) (by decide) trivial ?_
      repeat' k_extra "v1"
      refine kmM hl h0 h1 ?_
      repeat' k_extra "v1"
      refine fin_p hK ?_
      exact fl_congr (by first | exact (decide_eq_true (by omega)).symm | exact (decide_eq_false (by omega)).symm) rfl rfl rfl)
  · have hc1 : (Builtin.bitAnd (fl true Z V N) 1 != 0) = true := by rw [fl_C]; rfl
    rw [if_pos rfl] at hK
    k_extra "ve"
    repeat' k_extra "v1"
    refine ev_b0 (by assumption) (by with_unfolding_all rfl) hr hfn (hx.go (by assumption) (by decide) trivial ?_) (by with_unfolding_all rfl) (by with_unfolding_all rfl) (by with_unfolding_all rfl)
    repeat' k_extra "v1"
    refine (t_ByteAt hl h0 h1).go (by assumption) (by decide) trivial ?_
    repeat' k_extra "v1"
    refine dif_t hc1 ?_
    repeat' k_extra "v1"
    rw [m1]
    refine dif (fun q => ?_) fun q => ?_
    all_goals (
      repeat' k_extra "v1"
      refine ki_shr1 ?_
      repeat' k_extra "v1"
      rw [d2]
      simp only [bne_iff_ne, bne_eq_false_iff_eq] at q
      try rw [fl_clrC]
      refine (t_FlagsNZ (by omega) (by omega)).go (by assumption) (by decide) trivial ?_
      repeat' k_extra "v1"
      refine kmM hl h0 h1 ?_
      repeat' k_extra "v1"
      refine fin_p hK ?_
      exact fl_congr (by first | exact (decide_eq_true (by omega)).symm | exact (decide_eq_false (by omega)).symm) rfl rfl rfl)
theorem t_BranchRelAddr {w : World} {I : Im} {ns : List Int} {eX cY pC sP aA xX yY pP : Int} {aD : AV} (hl : ns.length = 1024)(hb : ∀ b ∈ ns, 0 ≤ b ∧ b < 256)(hb7 : 128 ≤ rd ns pC) (p0 : 512 ≤ pC + 1) (p1 : pC + 1 < 768) (t0 : 512 ≤ pC + rd ns pC - 255) (t1 : pC + rd ns pC - 255 < 768) : DV w 3 162 [.val (.ref I.x)] I ⟨eX, cY, pC, sP, aA, xX, yY, pP, aD⟩ ns (.val .none) ⟨eX + 1, cY, pC + rd ns pC - 255, sP, aA, xX, yY, pP, aD⟩ (ns) := by
  refine ⟨?_⟩
  intro rest sc c n loc ls K O hn hr hK
  replace O := O.low hn
  have hbi := bytes hb pC
  have c1 : (Builtin.bitAnd (rd ns pC) 128 != 0) = true := by rw [byteN hbi.1 hbi.2, if_pos hb7]; rfl
  have x1 := xor255 hbi.1 hbi.2
  have pgs : (Builtin.bitAnd (pC + 1) 65280 != Builtin.bitAnd (pC + 1 - Builtin.bitXor (rd ns pC) 255 - 1) 65280) = false := by rw [page2 _ (by omega) (by omega), page2 _ (by omega) (by omega)]; rfl
  have ep : Builtin.bitAnd (pC + 1 - Builtin.bitXor (rd ns pC) 255 - 1) 65535 = pC + rd ns pC - 255 := by rw [bitAnd_m16]; omega
  k_extra "ve"
  repeat' k_extra "v1"
  refine (t_ImmediateByte hl (by omega) (by omega)).go (by assumption) (by decide) trivial ?_
  repeat' k_extra "v1"
  refine dif_t c1 ?_
  repeat' k_extra "v1"
  refine dif_f pgs ?_
  repeat' k_extra "v1"
  exact fin_pc hK ep
theorem t_AbsoluteYAddr {w : World} {I : Im} {ns : List Int} {eX cY pC sP aA xX yY pP : Int} {ta : Tok} (hl : ns.length = 1024)(hb : ∀ b ∈ ns, 0 ≤ b ∧ b < 256)(h0 : 0 ≤ pC) (h1 : pC < 1023) (w0 : rd ns pC = 0) (w1 : rd ns (pC + 1) = 3) (y0 : 0 ≤ yY) (y1 : yY < 256) : DV w 4 155 [.val (.ref I.x)] I ⟨eX, cY, pC, sP, aA, xX, yY, pP, .val (.int 1 ta)⟩ ns (.int (768 + yY)) ⟨eX, cY, pC, sP, aA, xX, yY, pP, .val (.int 1 ta)⟩ (ns) := by
  refine ⟨?_⟩
  intro rest sc c n loc ls K O hn hr hK
  replace O := O.low hn
  have ey : Builtin.bitAnd (rd ns pC + rd ns (pC + 1) * 256 + yY) 65535 = 768 + yY := by rw [bitAnd_m16, w0, w1]; omega
  have pgs : (Builtin.bitAnd (rd ns pC + rd ns (pC + 1) * 256) 65280 != Builtin.bitAnd (Builtin.bitAnd (rd ns pC + rd ns (pC + 1) * 256 + yY) 65535) 65280) = false := by rw [ey, w0, w1, page3 _ (by omega) (by omega), page3 _ (by omega) (by omega)]; rfl
  k_extra "ve"
  repeat' k_extra "v1"
  refine (t_WordAt hl hb h0 h1).go (by assumption) (by decide) trivial ?_
  repeat' k_extra "v1"
  refine dif_f pgs ?_
  repeat' k_extra "v1"
  exact fin_v hK (congrArg AV.int ey)
theorem t_opBCL_go {w : World} {I : Im} {ns : List Int} {eX cY pC sP aA xX yY : Int} {C V N : Bool} {aD : AV} (hl : ns.length = 1024)(hb : ∀ b ∈ ns, 0 ≤ b ∧ b < 256)(hb7 : 128 ≤ rd ns pC) (p0 : 512 ≤ pC + 1) (p1 : pC + 1 < 768) (t0 : 512 ≤ pC + rd ns pC - 255) (t1 : pC + rd ns pC - 255 < 768) : DV w 5 225 [.val (.ref I.x), .int 2] I ⟨eX, cY, pC, sP, aA, xX, yY, fl C false V N, aD⟩ ns (.val .none) ⟨eX + 1, cY, pC + rd ns pC - 255, sP, aA, xX, yY, fl C false V N, aD⟩ (ns) := by
  refine ⟨?_⟩
  intro rest sc c n loc ls K O hn hr hK
  replace O := O.low hn
  have hz : (Builtin.bitAnd (fl C false V N) 2 != 0) = false := by rw [fl_Z]; rfl
  k_extra "ve"
  repeat' k_extra "v1"
  refine dif_f hz ?_
  repeat' k_extra "v1"
  refine (t_BranchRelAddr hl hb hb7 p0 p1 t0 t1).go (by assumption) (by decide) trivial ?_
  repeat' k_extra "v1"
  exact hK
theorem t_opBCL_no {w : World} {I : Im} {ns : List Int} {eX cY pC sP aA xX yY : Int} {C V N : Bool} {aD : AV}  : DV w 5 225 [.val (.ref I.x), .int 2] I ⟨eX, cY, pC, sP, aA, xX, yY, fl C true V N, aD⟩ ns (.val .none) ⟨eX, cY, pC + 1, sP, aA, xX, yY, fl C true V N, aD⟩ (ns) := by
  refine ⟨?_⟩
  intro rest sc c n loc ls K O hn hr hK
  replace O := O.low hn
  have hz : (Builtin.bitAnd (fl C true V N) 2 != 0) = true := by rw [fl_Z]; rfl
  k_extra "ve"
  repeat' k_extra "v1"
  refine dif_t hz ?_
  repeat' k_extra "v1"
  exact hK
theorem t_opBST_go {w : World} {I : Im} {ns : List Int} {eX cY pC sP aA xX yY : Int} {C V N : Bool} {aD : AV} (hl : ns.length = 1024)(hb : ∀ b ∈ ns, 0 ≤ b ∧ b < 256)(hb7 : 128 ≤ rd ns pC) (p0 : 512 ≤ pC + 1) (p1 : pC + 1 < 768) (t0 : 512 ≤ pC + rd ns pC - 255) (t1 : pC + rd ns pC - 255 < 768) : DV w 5 232 [.val (.ref I.x), .int 2] I ⟨eX, cY, pC, sP, aA, xX, yY, fl C true V N, aD⟩ ns (.val .none) ⟨eX + 1, cY, pC + rd ns pC - 255, sP, aA, xX, yY, fl C true V N, aD⟩ (ns) := by
  refine ⟨?_⟩
  intro rest sc c n loc ls K O hn hr hK
  replace O := O.low hn
  have hz : (Builtin.bitAnd (fl C true V N) 2 != 0) = true := by rw [fl_Z]; rfl
  k_extra "ve"
  repeat' k_extra "v1"
  refine dif_t hz ?_
  repeat' k_extra "v1"
  refine (t_BranchRelAddr hl hb hb7 p0 p1 t0 t1).go (by assumption) (by decide) trivial ?_
  repeat' k_extra "v1"
  exact hK
theorem t_opBST_no {w : World} {I : Im} {ns : List Int} {eX cY pC sP aA xX yY : Int} {C V N : Bool} {aD : AV}  : DV w 5 232 [.val (.ref I.x), .int 2] I ⟨eX, cY, pC, sP, aA, xX, yY, fl C false V N, aD⟩ ns (.val .none) ⟨eX, cY, pC + 1, sP, aA, xX, yY, fl C false V N, aD⟩ (ns) := by
  refine ⟨?_⟩
  intro rest sc c n loc ls K O hn hr hK
  replace O := O.low hn
  have hz : (Builtin.bitAnd (fl C false V N) 2 != 0) = false := by rw [fl_Z]; rfl
  k_extra "ve"
  repeat' k_extra "v1"
  refine dif_f hz ?_
  repeat' k_extra "v1"
  exact hK
end Mine
end
section
open PySem PySem.W PySem.Calls PyProof.Rows
set_option maxRecDepth 100000
set_option maxHeartbeats 4000000
namespace Mine
theorem ma_AbsoluteYAddr (w : World) (I : Im) : MA w I "AbsoluteYAddr" 155 := ⟨m_AbsoluteYAddr w I, by kernel_rfl, by kernel_rfl, by kernel_rfl⟩
theorem ma_ZeroPageXAddr (w : World) (I : Im) : MA w I "ZeroPageXAddr" 113 := ⟨m_ZeroPageXAddr w I, by kernel_rfl, by kernel_rfl, by kernel_rfl⟩
theorem ma_ZeroPageAddr (w : World) (I : Im) : MA w I "ZeroPageAddr" 106 := ⟨m_ZeroPageAddr w I, by kernel_rfl, by kernel_rfl, by kernel_rfl⟩
theorem ma_ProgramCounter (w : World) (I : Im) : MA w I "ProgramCounter" 92 := ⟨m_ProgramCounter w I, by kernel_rfl, by kernel_rfl, by kernel_rfl⟩
theorem ma_AbsoluteAddr (w : World) (I : Im) : MA w I "AbsoluteAddr" 141 := ⟨m_AbsoluteAddr w I, by kernel_rfl, by kernel_rfl, by kernel_rfl⟩
theorem DV.up {w : World} {k k' : Nat} {fn : Addr} {as : List AV} {I : Im} {r r' : Raw} {ns ns' : List Int} {ret : AV} {hm : List (Addr × Obj) → Prop} (h : k ≤ k') (D : DV w k fn as I r ns ret r' ns' hm) : DV w k' fn as I r ns ret r' ns' hm := ⟨fun O hn hr hK => D.go O (Nat.le_trans h hn) hr hK⟩
theorem d_b9 {w : World} {I : Im} {ns : List Int} {eX cY pC sP aA xX yY : Int} {C Z V N : Bool} {ta : Tok} (hl : ns.length = 1024)(hb : ∀ b ∈ ns, 0 ≤ b ∧ b < 256)(h0 : 0 ≤ pC) (h1 : pC < 1023) (w0 : rd ns pC = 0) (w1 : rd ns (pC + 1) = 3) (y0 : 0 ≤ yY) (y1 : yY < 256)  : DV w 8 1128 [.val (.ref I.x)] I ⟨eX, cY, pC, sP, aA, xX, yY, fl C Z V N, .val (.int 1 ta)⟩ ns (.val .none) ⟨eX, cY, pC + 2, sP, rd ns (768 + yY), xX, yY, fl C (decide (rd ns (768 + yY) = 0)) V (decide (128 ≤ rd ns (768 + yY))), .val (.int 1 ta)⟩ (ns) := by
  refine ⟨?_⟩
  intro rest sc c n loc ls K O hn hr hK
  replace O := O.low hn
  have b0 := bytes hb pC
  have b1 := bytes hb (pC + 1)
  k_extra "ve"
  repeat' k_extra "v"
  refine ev_mb (o2 := ⟨#[]⟩) (by assumption) (m_opLDA _ _) (ma_AbsoluteYAddr _ _) (by with_unfolding_all rfl) (fun q => ?_) (by with_unfolding_all rfl) (by with_unfolding_all rfl) (by with_unfolding_all rfl) (by with_unfolding_all rfl)
  refine (t_opLDA hl hb (F_N_AbsoluteYAddr w) (DV.up (by decide) (t_AbsoluteYAddr hl hb h0 h1 w0 w1 y0 y1)) (by omega) (by omega) ).go (by assumption) (by decide) (.head _) ?_
  repeat' k_extra "v1"
  exact hK
theorem d_b5 {w : World} {I : Im} {ns : List Int} {eX cY pC sP aA xX yY : Int} {C Z V N : Bool} {aD : AV} (hl : ns.length = 1024)(hb : ∀ b ∈ ns, 0 ≤ b ∧ b < 256)(h0 : 0 ≤ pC) (h1 : pC < 1023)  : DV w 8 1107 [.val (.ref I.x)] I ⟨eX, cY, pC, sP, aA, xX, yY, fl C Z V N, aD⟩ ns (.val .none) ⟨eX, cY, pC + 1, sP, rd ns ((xX + rd ns pC) % 256), xX, yY, fl C (decide (rd ns ((xX + rd ns pC) % 256) = 0)) V (decide (128 ≤ rd ns ((xX + rd ns pC) % 256))), aD⟩ (ns) := by
  refine ⟨?_⟩
  intro rest sc c n loc ls K O hn hr hK
  replace O := O.low hn
  have b0 := bytes hb pC
  have b1 := bytes hb (pC + 1)
  k_extra "ve"
  repeat' k_extra "v"
  refine ev_mb (o2 := ⟨#[]⟩) (by assumption) (m_opLDA _ _) (ma_ZeroPageXAddr _ _) (by with_unfolding_all rfl) (fun q => ?_) (by with_unfolding_all rfl) (by with_unfolding_all rfl) (by with_unfolding_all rfl) (by with_unfolding_all rfl)
  refine (t_opLDA hl hb (F_N_ZeroPageXAddr w) (DV.up (by decide) (t_ZeroPageXAddr hl h0 (by omega))) (by omega) (by omega) ).go (by assumption) (by decide) (.head _) ?_
  repeat' k_extra "v1"
  exact hK
theorem d_a5 {w : World} {I : Im} {ns : List Int} {eX cY pC sP aA xX yY : Int} {C Z V N : Bool} {aD : AV} (hl : ns.length = 1024)(hb : ∀ b ∈ ns, 0 ≤ b ∧ b < 256)(h0 : 0 ≤ pC) (h1 : pC < 1023)  : DV w 8 1030 [.val (.ref I.x)] I ⟨eX, cY, pC, sP, aA, xX, yY, fl C Z V N, aD⟩ ns (.val .none) ⟨eX, cY, pC + 1, sP, rd ns (rd ns pC), xX, yY, fl C (decide (rd ns (rd ns pC) = 0)) V (decide (128 ≤ rd ns (rd ns pC))), aD⟩ (ns) := by
  refine ⟨?_⟩
  intro rest sc c n loc ls K O hn hr hK
  replace O := O.low hn
  have b0 := bytes hb pC
  have b1 := bytes hb (pC + 1)
  k_extra "ve"
  repeat' k_extra "v"
  refine ev_mb (o2 := ⟨#[]⟩) (by assumption) (m_opLDA _ _) (ma_ZeroPageAddr _ _) (by with_unfolding_all rfl) (fun q => ?_) (by with_unfolding_all rfl) (by with_unfolding_all rfl) (by with_unfolding_all rfl) (by with_unfolding_all rfl)
  refine (t_opLDA hl hb (F_N_ZeroPageAddr w) (DV.up (by decide) (t_ZeroPageAddr hl h0 (by omega))) (by omega) (by omega) ).go (by assumption) (by decide) (.head _) ?_
  repeat' k_extra "v1"
  exact hK
theorem d_a9 {w : World} {I : Im} {ns : List Int} {eX cY pC sP aA xX yY : Int} {C Z V N : Bool} {aD : AV} (hl : ns.length = 1024)(hb : ∀ b ∈ ns, 0 ≤ b ∧ b < 256)(h0 : 0 ≤ pC) (h1 : pC < 1023)  : DV w 8 1051 [.val (.ref I.x)] I ⟨eX, cY, pC, sP, aA, xX, yY, fl C Z V N, aD⟩ ns (.val .none) ⟨eX, cY, pC + 1, sP, rd ns pC, xX, yY, fl C (decide (rd ns pC = 0)) V (decide (128 ≤ rd ns pC)), aD⟩ (ns) := by
  refine ⟨?_⟩
  intro rest sc c n loc ls K O hn hr hK
  replace O := O.low hn
  have b0 := bytes hb pC
  have b1 := bytes hb (pC + 1)
  k_extra "ve"
  repeat' k_extra "v"
  refine ev_mb (o2 := ⟨#[]⟩) (by assumption) (m_opLDA _ _) (ma_ProgramCounter _ _) (by with_unfolding_all rfl) (fun q => ?_) (by with_unfolding_all rfl) (by with_unfolding_all rfl) (by with_unfolding_all rfl) (by with_unfolding_all rfl)
  refine (t_opLDA hl hb (F_N_ProgramCounter w) (DV.up (by decide) t_ProgramCounter) (by omega) (by omega) ).go (by assumption) (by decide) (.head _) ?_
  repeat' k_extra "v1"
  exact hK
theorem d_29 {w : World} {I : Im} {ns : List Int} {eX cY pC sP aA xX yY : Int} {C Z V N : Bool} {aD : AV} (hl : ns.length = 1024)(hb : ∀ b ∈ ns, 0 ≤ b ∧ b < 256)(h0 : 0 ≤ pC) (h1 : pC < 1023)  : DV w 8 533 [.val (.ref I.x)] I ⟨eX, cY, pC, sP, aA, xX, yY, fl C Z V N, aD⟩ ns (.val .none) ⟨eX, cY, pC + 1, sP, Builtin.bitAnd aA (rd ns pC), xX, yY, fl C (decide (Builtin.bitAnd aA (rd ns pC) = 0)) V (decide (128 ≤ Builtin.bitAnd aA (rd ns pC))), aD⟩ (ns) := by
  refine ⟨?_⟩
  intro rest sc c n loc ls K O hn hr hK
  replace O := O.low hn
  have b0 := bytes hb pC
  have b1 := bytes hb (pC + 1)
  k_extra "ve"
  repeat' k_extra "v"
  refine ev_mb (o2 := ⟨#[]⟩) (by assumption) (m_opAND _ _) (ma_ProgramCounter _ _) (by with_unfolding_all rfl) (fun q => ?_) (by with_unfolding_all rfl) (by with_unfolding_all rfl) (by with_unfolding_all rfl) (by with_unfolding_all rfl)
  refine (t_opAND hl hb (F_N_ProgramCounter w) (DV.up (by decide) t_ProgramCounter) (by omega) (by omega) ).go (by assumption) (by decide) (.head _) ?_
  repeat' k_extra "v1"
  exact hK
theorem d_49 {w : World} {I : Im} {ns : List Int} {eX cY pC sP aA xX yY : Int} {C Z V N : Bool} {aD : AV} (hl : ns.length = 1024)(hb : ∀ b ∈ ns, 0 ≤ b ∧ b < 256)(h0 : 0 ≤ pC) (h1 : pC < 1023) (a0 : 0 ≤ aA) (a1 : aA < 256)  : DV w 8 659 [.val (.ref I.x)] I ⟨eX, cY, pC, sP, aA, xX, yY, fl C Z V N, aD⟩ ns (.val .none) ⟨eX, cY, pC + 1, sP, Builtin.bitXor aA (rd ns pC), xX, yY, fl C (decide (Builtin.bitXor aA (rd ns pC) = 0)) V (decide (128 ≤ Builtin.bitXor aA (rd ns pC))), aD⟩ (ns) := by
  refine ⟨?_⟩
  intro rest sc c n loc ls K O hn hr hK
  replace O := O.low hn
  have b0 := bytes hb pC
  have b1 := bytes hb (pC + 1)
  k_extra "ve"
  repeat' k_extra "v"
  refine ev_mb (o2 := ⟨#[]⟩) (by assumption) (m_opEOR _ _) (ma_ProgramCounter _ _) (by with_unfolding_all rfl) (fun q => ?_) (by with_unfolding_all rfl) (by with_unfolding_all rfl) (by with_unfolding_all rfl) (by with_unfolding_all rfl)
  refine (t_opEOR hl hb (F_N_ProgramCounter w) (DV.up (by decide) t_ProgramCounter) (by omega) (by omega) a0 a1 ).go (by assumption) (by decide) (.head _) ?_
  repeat' k_extra "v1"
  exact hK
theorem d_75 {w : World} {I : Im} {ns : List Int} {eX cY pC sP aA xX yY : Int} {Z V N : Bool} {aD : AV} (hl : ns.length = 1024)(hb : ∀ b ∈ ns, 0 ≤ b ∧ b < 256)(h0 : 0 ≤ pC) (h1 : pC < 1023) (a0 : 0 ≤ aA) (a1 : aA < 256)  : DV w 8 834 [.val (.ref I.x)] I ⟨eX, cY, pC, sP, aA, xX, yY, fl false Z V N, aD⟩ ns (.val .none) ⟨eX, cY, pC + 1, sP, (rd ns ((xX + rd ns pC) % 256) + aA) % 256, xX, yY, fl (decide (255 < rd ns ((xX + rd ns pC) % 256) + aA)) (decide ((rd ns ((xX + rd ns pC) % 256) + aA) % 256 = 0)) (decide (Builtin.bitAnd (Builtin.bitAnd (Builtin.bitNot (Builtin.bitXor aA (rd ns ((xX + rd ns pC) % 256)))) (Builtin.bitXor aA (rd ns ((xX + rd ns pC) % 256) + aA + 0))) 128 ≠ 0)) (decide (128 ≤ (rd ns ((xX + rd ns pC) % 256) + aA) % 256)), aD⟩ (ns) := by
  refine ⟨?_⟩
  intro rest sc c n loc ls K O hn hr hK
  replace O := O.low hn
  have b0 := bytes hb pC
  have b1 := bytes hb (pC + 1)
  k_extra "ve"
  repeat' k_extra "v"
  refine ev_mb (o2 := ⟨#[]⟩) (by assumption) (m_opADC _ _) (ma_ZeroPageXAddr _ _) (by with_unfolding_all rfl) (fun q => ?_) (by with_unfolding_all rfl) (by with_unfolding_all rfl) (by with_unfolding_all rfl) (by with_unfolding_all rfl)
  refine (t_opADC hl hb (F_N_ZeroPageXAddr w) (DV.up (by decide) (t_ZeroPageXAddr hl h0 (by omega))) (by omega) (by omega) a0 a1 ).go (by assumption) (by decide) (.head _) ?_
  repeat' k_extra "v1"
  exact hK
theorem d_f5 {w : World} {I : Im} {ns : List Int} {eX cY pC sP aA xX yY : Int} {Z V N : Bool} {aD : AV} (hl : ns.length = 1024)(hb : ∀ b ∈ ns, 0 ≤ b ∧ b < 256)(h0 : 0 ≤ pC) (h1 : pC < 1023) (a0 : 0 ≤ aA) (a1 : aA < 256)  : DV w 8 1387 [.val (.ref I.x)] I ⟨eX, cY, pC, sP, aA, xX, yY, fl true Z V N, aD⟩ ns (.val .none) ⟨eX, cY, pC + 1, sP, (aA - rd ns ((xX + rd ns pC) % 256)) % 256, xX, yY, fl (decide (rd ns ((xX + rd ns pC) % 256) ≤ aA)) (decide ((aA - rd ns ((xX + rd ns pC) % 256)) % 256 = 0)) (decide (Builtin.bitAnd (Builtin.bitAnd (Builtin.bitXor aA (rd ns ((xX + rd ns pC) % 256))) (Builtin.bitXor aA (aA + (255 - rd ns ((xX + rd ns pC) % 256)) + 1))) 128 ≠ 0)) (decide (128 ≤ (aA - rd ns ((xX + rd ns pC) % 256)) % 256)), aD⟩ (ns) := by
  refine ⟨?_⟩
  intro rest sc c n loc ls K O hn hr hK
  replace O := O.low hn
  have b0 := bytes hb pC
  have b1 := bytes hb (pC + 1)
  k_extra "ve"
  repeat' k_extra "v"
  refine ev_mb (o2 := ⟨#[]⟩) (by assumption) (m_opSBC _ _) (ma_ZeroPageXAddr _ _) (by with_unfolding_all rfl) (fun q => ?_) (by with_unfolding_all rfl) (by with_unfolding_all rfl) (by with_unfolding_all rfl) (by with_unfolding_all rfl)
  refine (t_opSBC hl hb (F_N_ZeroPageXAddr w) (DV.up (by decide) (t_ZeroPageXAddr hl h0 (by omega))) (by omega) (by omega) a0 a1 ).go (by assumption) (by decide) (.head _) ?_
  repeat' k_extra "v1"
  exact hK
theorem d_8d {w : World} {I : Im} {ns : List Int} {eX cY pC sP aA xX yY : Int} {C Z V N : Bool} {aD : AV} (hl : ns.length = 1024)(hb : ∀ b ∈ ns, 0 ≤ b ∧ b < 256)(h0 : 0 ≤ pC) (h1 : pC < 1023) (hw : rd ns pC + rd ns (pC + 1) * 256 < 1024)  : DV w 8 925 [.val (.ref I.x)] I ⟨eX, cY, pC, sP, aA, xX, yY, fl C Z V N, aD⟩ ns (.val .none) ⟨eX, cY, pC + 2, sP, aA, xX, yY, fl C Z V N, aD⟩ (ns.set (rd ns pC + rd ns (pC + 1) * 256).toNat aA) := by
  refine ⟨?_⟩
  intro rest sc c n loc ls K O hn hr hK
  replace O := O.low hn
  have b0 := bytes hb pC
  have b1 := bytes hb (pC + 1)
  k_extra "ve"
  repeat' k_extra "v"
  refine ev_mb (o2 := ⟨#[]⟩) (by assumption) (m_opSTA _ _) (ma_AbsoluteAddr _ _) (by with_unfolding_all rfl) (fun q => ?_) (by with_unfolding_all rfl) (by with_unfolding_all rfl) (by with_unfolding_all rfl) (by with_unfolding_all rfl)
  refine (t_opSTA hl hb (F_N_AbsoluteAddr w) (DV.up (by decide) (t_AbsoluteAddr hl hb h0 h1)) (by omega) (by omega) ).go (by assumption) (by decide) (.head _) ?_
  repeat' k_extra "v1"
  exact hK
theorem d_95 {w : World} {I : Im} {ns : List Int} {eX cY pC sP aA xX yY : Int} {C Z V N : Bool} {aD : AV} (hl : ns.length = 1024)(hb : ∀ b ∈ ns, 0 ≤ b ∧ b < 256)(h0 : 0 ≤ pC) (h1 : pC < 1023)  : DV w 8 960 [.val (.ref I.x)] I ⟨eX, cY, pC, sP, aA, xX, yY, fl C Z V N, aD⟩ ns (.val .none) ⟨eX, cY, pC + 1, sP, aA, xX, yY, fl C Z V N, aD⟩ (ns.set ((xX + rd ns pC) % 256).toNat aA) := by
  refine ⟨?_⟩
  intro rest sc c n loc ls K O hn hr hK
  replace O := O.low hn
  have b0 := bytes hb pC
  have b1 := bytes hb (pC + 1)
  k_extra "ve"
  repeat' k_extra "v"
  refine ev_mb (o2 := ⟨#[]⟩) (by assumption) (m_opSTA _ _) (ma_ZeroPageXAddr _ _) (by with_unfolding_all rfl) (fun q => ?_) (by with_unfolding_all rfl) (by with_unfolding_all rfl) (by with_unfolding_all rfl) (by with_unfolding_all rfl)
  refine (t_opSTA hl hb (F_N_ZeroPageXAddr w) (DV.up (by decide) (t_ZeroPageXAddr hl h0 (by omega))) (by omega) (by omega) ).go (by assumption) (by decide) (.head _) ?_
  repeat' k_extra "v1"
  exact hK
theorem d_85 {w : World} {I : Im} {ns : List Int} {eX cY pC sP aA xX yY : Int} {C Z V N : Bool} {aD : AV} (hl : ns.length = 1024)(hb : ∀ b ∈ ns, 0 ≤ b ∧ b < 256)(h0 : 0 ≤ pC) (h1 : pC < 1023)  : DV w 8 890 [.val (.ref I.x)] I ⟨eX, cY, pC, sP, aA, xX, yY, fl C Z V N, aD⟩ ns (.val .none) ⟨eX, cY, pC + 1, sP, aA, xX, yY, fl C Z V N, aD⟩ (ns.set (rd ns pC).toNat aA) := by
  refine ⟨?_⟩
  intro rest sc c n loc ls K O hn hr hK
  replace O := O.low hn
  have b0 := bytes hb pC
  have b1 := bytes hb (pC + 1)
  k_extra "ve"
  repeat' k_extra "v"
  refine ev_mb (o2 := ⟨#[]⟩) (by assumption) (m_opSTA _ _) (ma_ZeroPageAddr _ _) (by with_unfolding_all rfl) (fun q => ?_) (by with_unfolding_all rfl) (by with_unfolding_all rfl) (by with_unfolding_all rfl) (by with_unfolding_all rfl)
  refine (t_opSTA hl hb (F_N_ZeroPageAddr w) (DV.up (by decide) (t_ZeroPageAddr hl h0 (by omega))) (by omega) (by omega) ).go (by assumption) (by decide) (.head _) ?_
  repeat' k_extra "v1"
  exact hK
theorem d_76 {w : World} {I : Im} {ns : List Int} {eX cY pC sP aA xX yY : Int} {C Z V N : Bool} {aD : AV} (hl : ns.length = 1024)(hb : ∀ b ∈ ns, 0 ≤ b ∧ b < 256)(h0 : 0 ≤ pC) (h1 : pC < 1023)  : DV w 8 841 [.val (.ref I.x)] I ⟨eX, cY, pC, sP, aA, xX, yY, fl C Z V N, aD⟩ ns (.val .none) ⟨eX, cY, pC + 1, sP, aA, xX, yY, fl (decide (rd ns ((xX + rd ns pC) % 256) % 2 = 1)) (decide ((rd ns ((xX + rd ns pC) % 256) / 2 + if C = true then 128 else 0) = 0)) V (decide (128 ≤ (rd ns ((xX + rd ns pC) % 256) / 2 + if C = true then 128 else 0))), aD⟩ (ns.set ((xX + rd ns pC) % 256).toNat (rd ns ((xX + rd ns pC) % 256) / 2 + if C = true then 128 else 0)) := by
  refine ⟨?_⟩
  intro rest sc c n loc ls K O hn hr hK
  replace O := O.low hn
  have b0 := bytes hb pC
  have b1 := bytes hb (pC + 1)
  k_extra "ve"
  repeat' k_extra "v"
  refine ev_mb (o2 := ⟨#[]⟩) (by assumption) (m_opROR _ _) (ma_ZeroPageXAddr _ _) (by with_unfolding_all rfl) (fun q => ?_) (by with_unfolding_all rfl) (by with_unfolding_all rfl) (by with_unfolding_all rfl) (by with_unfolding_all rfl)
  refine (t_opROR hl hb (F_N_ZeroPageXAddr w) (DV.up (by decide) (t_ZeroPageXAddr hl h0 (by omega))) (by omega) (by omega) ).go (by assumption) (by decide) (.head _) ?_
  repeat' k_extra "v1"
  exact hK
theorem d_d6 {w : World} {I : Im} {ns : List Int} {eX cY pC sP aA xX yY : Int} {C Z V N : Bool} {aD : AV} (hl : ns.length = 1024)(hb : ∀ b ∈ ns, 0 ≤ b ∧ b < 256)(h0 : 0 ≤ pC) (h1 : pC < 1023)  : DV w 8 1261 [.val (.ref I.x)] I ⟨eX, cY, pC, sP, aA, xX, yY, fl C Z V N, aD⟩ ns (.val .none) ⟨eX, cY, pC + 1, sP, aA, xX, yY, fl C (decide ((rd ns ((xX + rd ns pC) % 256) - 1) % 256 = 0)) V (decide (128 ≤ (rd ns ((xX + rd ns pC) % 256) - 1) % 256)), aD⟩ (ns.set ((xX + rd ns pC) % 256).toNat ((rd ns ((xX + rd ns pC) % 256) - 1) % 256)) := by
  refine ⟨?_⟩
  intro rest sc c n loc ls K O hn hr hK
  replace O := O.low hn
  have b0 := bytes hb pC
  have b1 := bytes hb (pC + 1)
  k_extra "ve"
  repeat' k_extra "v"
  refine ev_mb (o2 := ⟨#[]⟩) (by assumption) (m_opDECR _ _) (ma_ZeroPageXAddr _ _) (by with_unfolding_all rfl) (fun q => ?_) (by with_unfolding_all rfl) (by with_unfolding_all rfl) (by with_unfolding_all rfl) (by with_unfolding_all rfl)
  refine (t_opDECR hl hb (F_N_ZeroPageXAddr w) (DV.up (by decide) (t_ZeroPageXAddr hl h0 (by omega))) (by omega) (by omega) ).go (by assumption) (by decide) (.head _) ?_
  repeat' k_extra "v1"
  exact hK
theorem d_d5 {w : World} {I : Im} {ns : List Int} {eX cY pC sP aA xX yY : Int} {C Z V N : Bool} {aD : AV} (hl : ns.length = 1024)(hb : ∀ b ∈ ns, 0 ≤ b ∧ b < 256)(h0 : 0 ≤ pC) (h1 : pC < 1023) (a0 : 0 ≤ aA) (a1 : aA < 256)  : DV w 8 1254 [.val (.ref I.x)] I ⟨eX, cY, pC, sP, aA, xX, yY, fl C Z V N, aD⟩ ns (.val .none) ⟨eX, cY, pC + 1, sP, aA, xX, yY, fl (decide (rd ns ((xX + rd ns pC) % 256) ≤ aA)) (decide (aA = rd ns ((xX + rd ns pC) % 256))) V (decide (Builtin.bitAnd (aA - rd ns ((xX + rd ns pC) % 256)) 128 ≠ 0)), aD⟩ (ns) := by
  refine ⟨?_⟩
  intro rest sc c n loc ls K O hn hr hK
  replace O := O.low hn
  have b0 := bytes hb pC
  k_extra "ve"
  repeat' k_extra "v"
  refine ev_mb2 (o2 := ⟨#[]⟩) (by assumption) (m_opCMPR _ _) (ma_ZeroPageXAddr _ _) (by with_unfolding_all rfl) (fun q => ?_) (by with_unfolding_all rfl) (by with_unfolding_all rfl) (by with_unfolding_all rfl) (by with_unfolding_all rfl) (by with_unfolding_all rfl) (by with_unfolding_all rfl)
  repeat' k_extra "v1"
  refine (t_opCMPR hl hb (F_N_ZeroPageXAddr w) (DV.up (by decide) (t_ZeroPageXAddr hl h0 (by omega))) (by omega) (by omega) a0 a1).go (by assumption) (by decide) (.head _) ?_
  repeat' k_extra "v1"
  exact hK
theorem d_a8 {w : World} {I : Im} {ns : List Int} {eX cY pC sP aA xX yY : Int} {C Z V N : Bool} {aD : AV} (a0 : 0 ≤ aA) (a1 : aA < 256)  : DV w 8 1044 [.val (.ref I.x)] I ⟨eX, cY, pC, sP, aA, xX, yY, fl C Z V N, aD⟩ ns (.val .none) ⟨eX, cY, pC, sP, aA, xX, aA, fl C (decide (aA = 0)) V (decide (128 ≤ aA)), aD⟩ (ns) := by
  refine ⟨?_⟩
  intro rest sc c n loc ls K O hn hr hK
  replace O := O.low hn
  k_extra "ve"
  repeat' k_extra "v1"
  refine (t_FlagsNZ a0 a1).go (by assumption) (by decide) trivial ?_
  repeat' k_extra "v1"
  exact hK
theorem d_98 {w : World} {I : Im} {ns : List Int} {eX cY pC sP aA xX yY : Int} {C Z V N : Bool} {aD : AV} (y0 : 0 ≤ yY) (y1 : yY < 256)  : DV w 8 974 [.val (.ref I.x)] I ⟨eX, cY, pC, sP, aA, xX, yY, fl C Z V N, aD⟩ ns (.val .none) ⟨eX, cY, pC, sP, yY, xX, yY, fl C (decide (yY = 0)) V (decide (128 ≤ yY)), aD⟩ (ns) := by
  refine ⟨?_⟩
  intro rest sc c n loc ls K O hn hr hK
  replace O := O.low hn
  k_extra "ve"
  repeat' k_extra "v1"
  refine (t_FlagsNZ y0 y1).go (by assumption) (by decide) trivial ?_
  repeat' k_extra "v1"
  exact hK
theorem d_c8 {w : World} {I : Im} {ns : List Int} {eX cY pC sP aA xX yY : Int} {C Z V N : Bool} {aD : AV}  : DV w 8 1198 [.val (.ref I.x)] I ⟨eX, cY, pC, sP, aA, xX, yY, fl C Z V N, aD⟩ ns (.val .none) ⟨eX, cY, pC, sP, aA, xX, (yY + 1) % 256, fl C (decide ((yY + 1) % 256 = 0)) V (decide (128 ≤ (yY + 1) % 256)), aD⟩ (ns) := by
  refine ⟨?_⟩
  intro rest sc c n loc ls K O hn hr hK
  replace O := O.low hn
  have e8 := bitAnd_m8 (yY + 1)
  k_extra "ve"
  repeat' k_extra "v1"
  rw [e8]
  refine (t_FlagsNZ (by omega) (by omega)).go (by assumption) (by decide) trivial ?_
  repeat' k_extra "v1"
  exact hK
theorem d_88 {w : World} {I : Im} {ns : List Int} {eX cY pC sP aA xX yY : Int} {C Z V N : Bool} {aD : AV}  : DV w 8 904 [.val (.ref I.x)] I ⟨eX, cY, pC, sP, aA, xX, yY, fl C Z V N, aD⟩ ns (.val .none) ⟨eX, cY, pC, sP, aA, xX, (yY - 1) % 256, fl C (decide ((yY - 1) % 256 = 0)) V (decide (128 ≤ (yY - 1) % 256)), aD⟩ (ns) := by
  refine ⟨?_⟩
  intro rest sc c n loc ls K O hn hr hK
  replace O := O.low hn
  have e8 := bitAnd_m8 (yY - 1)
  k_extra "ve"
  repeat' k_extra "v1"
  rw [e8]
  refine (t_FlagsNZ (by omega) (by omega)).go (by assumption) (by decide) trivial ?_
  repeat' k_extra "v1"
  exact hK
theorem d_e8 {w : World} {I : Im} {ns : List Int} {eX cY pC sP aA xX yY : Int} {C Z V N : Bool} {aD : AV}  : DV w 8 1331 [.val (.ref I.x)] I ⟨eX, cY, pC, sP, aA, xX, yY, fl C Z V N, aD⟩ ns (.val .none) ⟨eX, cY, pC, sP, aA, (xX + 1) % 256, yY, fl C (decide ((xX + 1) % 256 = 0)) V (decide (128 ≤ (xX + 1) % 256)), aD⟩ (ns) := by
  refine ⟨?_⟩
  intro rest sc c n loc ls K O hn hr hK
  replace O := O.low hn
  have e8 := bitAnd_m8 (xX + 1)
  k_extra "ve"
  repeat' k_extra "v1"
  rw [e8]
  refine (t_FlagsNZ (by omega) (by omega)).go (by assumption) (by decide) trivial ?_
  repeat' k_extra "v1"
  exact hK
theorem d_ca {w : World} {I : Im} {ns : List Int} {eX cY pC sP aA xX yY : Int} {C Z V N : Bool} {aD : AV}  : DV w 8 1212 [.val (.ref I.x)] I ⟨eX, cY, pC, sP, aA, xX, yY, fl C Z V N, aD⟩ ns (.val .none) ⟨eX, cY, pC, sP, aA, (xX - 1) % 256, yY, fl C (decide ((xX - 1) % 256 = 0)) V (decide (128 ≤ (xX - 1) % 256)), aD⟩ (ns) := by
  refine ⟨?_⟩
  intro rest sc c n loc ls K O hn hr hK
  replace O := O.low hn
  have e8 := bitAnd_m8 (xX - 1)
  k_extra "ve"
  repeat' k_extra "v1"
  rw [e8]
  refine (t_FlagsNZ (by omega) (by omega)).go (by assumption) (by decide) trivial ?_
  repeat' k_extra "v1"
  exact hK
theorem d_18 {w : World} {I : Im} {ns : List Int} {eX cY pC sP aA xX yY : Int} {C Z V N : Bool} {aD : AV}  : DV w 8 463 [.val (.ref I.x)] I ⟨eX, cY, pC, sP, aA, xX, yY, fl C Z V N, aD⟩ ns (.val .none) ⟨eX, cY, pC, sP, aA, xX, yY, fl false Z V N, aD⟩ (ns) := by
  refine ⟨?_⟩
  intro rest sc c n loc ls K O hn hr hK
  replace O := O.low hn
  k_extra "ve"
  repeat' k_extra "v1"
  refine (t_opCLR ).go (by assumption) (by decide) trivial ?_
  repeat' k_extra "v1"
  exact hK
theorem d_38 {w : World} {I : Im} {ns : List Int} {eX cY pC sP aA xX yY : Int} {C Z V N : Bool} {aD : AV}  : DV w 8 596 [.val (.ref I.x)] I ⟨eX, cY, pC, sP, aA, xX, yY, fl C Z V N, aD⟩ ns (.val .none) ⟨eX, cY, pC, sP, aA, xX, yY, fl true Z V N, aD⟩ (ns) := by
  refine ⟨?_⟩
  intro rest sc c n loc ls K O hn hr hK
  replace O := O.low hn
  k_extra "ve"
  repeat' k_extra "v1"
  refine (t_opSET ).go (by assumption) (by decide) trivial ?_
  repeat' k_extra "v1"
  exact hK
theorem d_0a {w : World} {I : Im} {ns : List Int} {eX cY pC sP aA xX yY : Int} {C Z V N : Bool} {aD : AV} (a0 : 0 ≤ aA) (a1 : aA < 256)  : DV w 8 414 [.val (.ref I.x)] I ⟨eX, cY, pC, sP, aA, xX, yY, fl C Z V N, aD⟩ ns (.val .none) ⟨eX, cY, pC, sP, aA * 2 % 256, xX, yY, fl (decide (128 ≤ aA)) (decide (aA * 2 % 256 = 0)) V (decide (128 ≤ aA * 2 % 256)), aD⟩ (ns) := by
  refine ⟨?_⟩
  intro rest sc c n loc ls K O hn hr hK
  replace O := O.low hn
  k_extra "ve"
  repeat' k_extra "v1"
  refine (t_opASL a0 a1).go (by assumption) (by decide) trivial ?_
  repeat' k_extra "v1"
  exact hK
theorem d_2a {w : World} {I : Im} {ns : List Int} {eX cY pC sP xX yY : Int} {C Z V N : Bool} {aD : AV}  : DV w 8 540 [.val (.ref I.x)] I ⟨eX, cY, pC, sP, 0, xX, yY, fl C Z V N, aD⟩ ns (.val .none) ⟨eX, cY, pC, sP, (if C = true then 1 else 0), xX, yY, fl false (decide ((if C = true then (1 : Int) else 0) = 0)) V (decide (128 ≤ (if C = true then (1 : Int) else 0))), aD⟩ (ns) := by
  refine ⟨?_⟩
  intro rest sc c n loc ls K O hn hr hK
  replace O := O.low hn
  k_extra "ve"
  repeat' k_extra "v1"
  refine (t_opROL ).go (by assumption) (by decide) trivial ?_
  repeat' k_extra "v1"
  exact hK
theorem d_4c {w : World} {I : Im} {ns : List Int} {eX cY pC sP aA xX yY : Int} {C Z V N : Bool} {aD : AV} (hl : ns.length = 1024)(hb : ∀ b ∈ ns, 0 ≤ b ∧ b < 256)(h0 : 0 ≤ pC) (h1 : pC < 1023)  : DV w 8 673 [.val (.ref I.x)] I ⟨eX, cY, pC, sP, aA, xX, yY, fl C Z V N, aD⟩ ns (.val .none) ⟨eX, cY, (rd ns pC + rd ns (pC + 1) * 256), sP, aA, xX, yY, fl C Z V N, aD⟩ (ns) := by
  refine ⟨?_⟩
  intro rest sc c n loc ls K O hn hr hK
  replace O := O.low hn
  k_extra "ve"
  repeat' k_extra "v1"
  refine (t_WordAt hl hb h0 h1).go (by assumption) (by decide) trivial ?_
  repeat' k_extra "v1"
  exact hK
theorem d_48 {w : World} {I : Im} {ns : List Int} {eX cY pC sP aA xX yY : Int} {C Z V N : Bool} {aD : AV} (hl : ns.length = 1024)(s0 : 0 ≤ sP) (s1 : sP < 256) : DV w 8 652 [.val (.ref I.x)] I ⟨eX, cY, pC, sP, aA, xX, yY, fl C Z V N, aD⟩ ns (.val .none) ⟨eX, cY, pC, (sP - 1) % 256, aA, xX, yY, fl C Z V N, aD⟩ (ns.set (sP + 256).toNat (aA % 256)) := by
  refine ⟨?_⟩
  intro rest sc c n loc ls K O hn hr hK
  replace O := O.low hn
  k_extra "ve"
  repeat' k_extra "v1"
  refine (t_stPush hl s0 s1).go (by assumption) (by decide) trivial ?_
  repeat' k_extra "v1"
  exact hK
theorem d_68 {w : World} {I : Im} {ns : List Int} {eX cY pC sP aA xX yY : Int} {C Z V N : Bool} {aD : AV} (hl : ns.length = 1024)(hb : ∀ b ∈ ns, 0 ≤ b ∧ b < 256)(s0 : 0 ≤ sP) (s1 : sP < 256) : DV w 8 778 [.val (.ref I.x)] I ⟨eX, cY, pC, sP, aA, xX, yY, fl C Z V N, aD⟩ ns (.val .none) ⟨eX, cY, pC, (sP + 1) % 256, rd ns ((sP + 1) % 256 + 256), xX, yY, fl C (decide (rd ns ((sP + 1) % 256 + 256) = 0)) V (decide (128 ≤ rd ns ((sP + 1) % 256 + 256))), aD⟩ (ns) := by
  refine ⟨?_⟩
  intro rest sc c n loc ls K O hn hr hK
  replace O := O.low hn
  have bb := bytes hb ((sP + 1) % 256 + 256)
  k_extra "ve"
  repeat' k_extra "v1"
  refine (t_stPop hl s0 s1).go (by assumption) (by decide) trivial ?_
  repeat' k_extra "v1"
  refine (t_FlagsNZ bb.1 bb.2).go (by assumption) (by decide) trivial ?_
  repeat' k_extra "v1"
  exact hK
theorem d_d0_go {w : World} {I : Im} {ns : List Int} {eX cY pC sP aA xX yY : Int} {C V N : Bool} {aD : AV} (hl : ns.length = 1024)(hb : ∀ b ∈ ns, 0 ≤ b ∧ b < 256)(hb7 : 128 ≤ rd ns pC) (p0 : 512 ≤ pC + 1) (p1 : pC + 1 < 768) (t0 : 512 ≤ pC + rd ns pC - 255) (t1 : pC + rd ns pC - 255 < 768) : DV w 8 1240 [.val (.ref I.x)] I ⟨eX, cY, pC, sP, aA, xX, yY, fl C false V N, aD⟩ ns (.val .none) ⟨eX + 1, cY, pC + rd ns pC - 255, sP, aA, xX, yY, fl C false V N, aD⟩ (ns) := by
  refine ⟨?_⟩
  intro rest sc c n loc ls K O hn hr hK
  replace O := O.low hn
  k_extra "ve"
  repeat' k_extra "v1"
  refine (t_opBCL_go hl hb hb7 p0 p1 t0 t1).go (by assumption) (by decide) trivial ?_
  repeat' k_extra "v1"
  exact hK
theorem d_d0_no {w : World} {I : Im} {ns : List Int} {eX cY pC sP aA xX yY : Int} {C V N : Bool} {aD : AV}  : DV w 8 1240 [.val (.ref I.x)] I ⟨eX, cY, pC, sP, aA, xX, yY, fl C true V N, aD⟩ ns (.val .none) ⟨eX, cY, pC + 1, sP, aA, xX, yY, fl C true V N, aD⟩ (ns) := by
  refine ⟨?_⟩
  intro rest sc c n loc ls K O hn hr hK
  replace O := O.low hn
  k_extra "ve"
  repeat' k_extra "v1"
  refine t_opBCL_no.go (by assumption) (by decide) trivial ?_
  repeat' k_extra "v1"
  exact hK
theorem d_f0_go {w : World} {I : Im} {ns : List Int} {eX cY pC sP aA xX yY : Int} {C V N : Bool} {aD : AV} (hl : ns.length = 1024)(hb : ∀ b ∈ ns, 0 ≤ b ∧ b < 256)(hb7 : 128 ≤ rd ns pC) (p0 : 512 ≤ pC + 1) (p1 : pC + 1 < 768) (t0 : 512 ≤ pC + rd ns pC - 255) (t1 : pC + rd ns pC - 255 < 768) : DV w 8 1373 [.val (.ref I.x)] I ⟨eX, cY, pC, sP, aA, xX, yY, fl C true V N, aD⟩ ns (.val .none) ⟨eX + 1, cY, pC + rd ns pC - 255, sP, aA, xX, yY, fl C true V N, aD⟩ (ns) := by
  refine ⟨?_⟩
  intro rest sc c n loc ls K O hn hr hK
  replace O := O.low hn
  k_extra "ve"
  repeat' k_extra "v1"
  refine (t_opBST_go hl hb hb7 p0 p1 t0 t1).go (by assumption) (by decide) trivial ?_
  repeat' k_extra "v1"
  exact hK
theorem d_f0_no {w : World} {I : Im} {ns : List Int} {eX cY pC sP aA xX yY : Int} {C V N : Bool} {aD : AV}  : DV w 8 1373 [.val (.ref I.x)] I ⟨eX, cY, pC, sP, aA, xX, yY, fl C false V N, aD⟩ ns (.val .none) ⟨eX, cY, pC + 1, sP, aA, xX, yY, fl C false V N, aD⟩ (ns) := by
  refine ⟨?_⟩
  intro rest sc c n loc ls K O hn hr hK
  replace O := O.low hn
  k_extra "ve"
  repeat' k_extra "v1"
  refine t_opBST_no.go (by assumption) (by decide) trivial ?_
  repeat' k_extra "v1"
  exact hK
theorem DV.does {w : World} {k : Nat} {fn : Addr} {I : Im} {g g' : Rg} {ex ex' : Int} {ad : Value} {t : Tk} {vs : List Value} {ns ns' : List Int} (D : DV w k fn [.val (.ref I.x)] I (rw g ex (.val ad)) ns (.val .none) (rw g' ex' (.val ad)) ns') (ap : Apart I) (hi : IntsAre vs ns) :
    Does w k fn [.ref I.x] I g ex ad t vs (fun r g1 ex1 vs1 => r = .none ∧ g1 = g' ∧ ex1 = ex' ∧ IntsAre vs1 ns') := by
  intro A₀ A base h₀ outer env L m mg mb p loose mean s rest R B F X T hA hf hke hroom off hm N h
  have hdx := ap.dx
  have hrd := ap.rd
  refine D.go (rest := rest) (sc := env.scope) (c := ⟨h₀, L, A₀, A, base, outer, env, "", 0, .none, p, loose, mean, mg, mb, s.gens, s.drawn, s.os, m⟩) (n := k) (loc := []) (ls := []) (K := fun a σ => a = .val .none ∧ σ = ⟨[], rw g' ex' (.val ad), [(I.r, ns')]⟩)
    ⟨B, X, T, hA, hf, hke, hke, hroom⟩ (Nat.le_refl _) trivial ⟨rfl, rfl⟩ _ R s m (.cons rfl .nil) F ⟨fun x a hx => (by cases hx), fun _ _ => rfl⟩ ⟨rfl, rfl, rfl, ⟨m, F, fun x a hx => (by cases hx), fun _ _ => rfl⟩, ⟨?_, ?_⟩, t, ad, [(I.r, listOf vs.toArray 0)], rfl, .cons hi .nil, N⟩ ?_
  · have l1 : I.r < I.d := hrd
    have l2 : I.d < I.x := hdx
    simp only [List.map_cons, List.map_nil, List.nodup_cons, List.mem_cons, List.not_mem_nil, or_false, not_or, not_false_eq_true, List.nodup_nil, and_true]
    exact ⟨⟨fun q => (Nat.ne_of_lt l2) q.symm, fun q => (Nat.ne_of_lt (Nat.lt_trans l1 l2)) q.symm⟩, fun q => (Nat.ne_of_lt l1) q.symm⟩
  · intro p hp b hb
    exact off p hp b hb
  · rintro v a σ' s' ⟨rfl, rfl⟩ hv F1 R'
    obtain rfl : v = .none := hv
    obtain ⟨_, t1, ad1, os1, had, hl, N1⟩ := R'.led
    obtain rfl : ad1 = ad := had
    cases hl with
    | cons hi1 hn =>
      cases hn
      obtain ⟨te, tc, tpc, tsp, ta, tx, ty, tp⟩ := t1
      have e : s' = { s with heap := s'.heap, toks := s'.toks } := by
        obtain ⟨h1, h2, h3, h4, h5⟩ := s'
        obtain rfl : h2 = _ := R'.gens
        obtain rfl : h3 = _ := R'.drawn
        obtain rfl : h5 = _ := R'.os
        rfl
      rw [e]
      exact h .none g' ex' te tc tpc tsp ta tx ty tp _ s'.heap s'.toks ⟨rfl, rfl, rfl, hi1⟩ F1 N1
end Mine
end
namespace Mine
theorem qwords : True := by
  (k_with "q0" => ((try simp only [depth_under_make, depth_under_kw, depth_in1, depth_deeper, depth_caller]); omega))
  (k_with "q1" => (refine' code_def (body := _ :: _) (scope := ⟨_, _, _, _, _⟩) ?k1 ?k2 ?k3 ?k4 ?k5 ?kA ?kF ?kK ?k6 ?k7 ?k8 ?k9 ?kB ?_ ?c2 ?c3 ?c4 ?c5; (case kA => first | assumption | exact frames_deep (by assumption)); (case kF => first | assumption | exact rfl); (case kK => first | assumption | exact rfl); (case k1 => k_asm); (case k2 => k_asm); (case k3 => k_asm); (case k4 => k_asm); (case k5 => k_asm); (case k6 => first | exact rfl | k_is); (case k7 => k_is); (case k8 => k_room); (case k9 => first | exact BindsTo.of_eq rfl | exact binds_K (by k_in) rfl (by k_is) rfl rfl rfl | fail "k_enter: no rule for these arguments"); (case c5 => decide); (case kB => exact locs rfl); (case c2 => exact rfl); (case c3 => exact rfl); (case c4 => exact rfl); k_whole; intro g' L' h' FG' F' N' B' X' T'; (try dsimp only); (try k_lift B'); (try k_fold)))
  (k_with "q2" => (dsimp only [led, mm, List.cons_append, List.nil_append]; first | k_asm | exact news_rot1 (by k_asm)))
  (k_with "q3" => first | assumption | exact off_cons (by assumption) (by k_ne) (by k_ne) (by k_ne))
  (k_with "q4" => assumption)
  (k_with "q5" => (with_reducible refine gen_toks ?_; intro tk; with_reducible refine wpAny_execs_cons ?_; (try dsimp only)))
  (k_with "q6" => (with_reducible refine wpAny_execs_nil ?_))
  (k_with "q7" => first | with_reducible refine ite_tt ?_ | with_reducible refine ite_ff ?_ | (refine ite_isFalse (by with_reducible assumption) ?_) | (refine ite_pos (by with_reducible assumption) ?_) | (with_reducible refine split_ine ?_ ?_ <;> intro _) | (with_reducible refine split_ieq ?_ ?_ <;> intro _) | with_reducible refine split_not ?_)
  (k_with "q8" => with_reducible first | exact F_plain _ _ | exact F_hasDict _ | exact F_noGet _ | exact F_A_memory _ | assumption)
  (k_with "q9" => with_reducible first | exact F_plain _ _ | exact F_hasDict _ | exact F_noGet _ | exact F_C_BYTE_WIDTH _ | exact F_S_BYTE_WIDTH _ | exact F_M_ByteAt _ | exact F_T_ByteAt _ | exact F_K_ByteAt _ | exact F_N_ByteAt _ | assumption)
  (k_with "q10" => (refine' c_ByteAt (g := ⟨_, _, _, _, _, _, _, _, _, _⟩) (t := ⟨_, _, _, _, _, _, _, _⟩) ?p0 ?p1 ?p2 ?p3 ?p4 ?kB ?kF ?kX ?kT ?kA ?kf ?kK ?kR ?kO ?kH ?kN ?_; (case kA => first | assumption | exact frames_deep (by assumption)); (case kf => first | assumption | exact rfl); (case kK => first | assumption | exact rfl); (case kB => k_asm); (case kF => k_asm); (case kX => k_asm); (case kT => k_asm); (case kN => tb_start); (case kO => tb_rel); (case kR => k_room); (case kH => exact trivial); (case p0 => assumption); (case p1 => assumption); (case p2 => assumption); (case p3 => omega); (case p4 => omega); k_whole))
  (k_with "q11" => first | with_reducible assumption | exact CodeHd.keeps (by assumption) (Fr.keep (by assumption)))
  (k_with "q12" => with_reducible first | exact F_plain _ _ | exact F_hasDict _ | exact F_noGet _ | exact F_C_BYTE_WIDTH _ | exact F_S_BYTE_WIDTH _ | exact F_M_ByteAt _ | exact F_T_ByteAt _ | exact F_K_ByteAt _ | exact F_N_ByteAt _ | exact F_A_addrHighMask _ | exact F_A_byteMask _ | assumption)
  (k_with "q13" => (refine' code_defC (body := _ :: _) (scope := ⟨_, _, _, _, _⟩) ?k1 ?k2 ?k3 ?k4 ?k5 ?kA ?kF ?kK ?k6 ?k7 ?k8 ?k9 ?kB ?kD ?_ ?c2 ?c3 ?c4; (case kA => first | assumption | exact rfl); (case kF => first | assumption | exact rfl); (case kK => first | assumption | exact rfl); (case k1 => k_asm); (case k2 => k_asm); (case k3 => k_asm); (case k4 => k_asm); (case k5 => k_asm); (case k6 => first | exact rfl | k_is); (case k7 => k_is); (case k8 => k_room); (case k9 => first | exact BindsTo.of_eq rfl | fail "k_enter: no rule for these arguments"); (case kB => exact rfl); (case kD => decide +kernel); (case c2 => exact rfl); (case c3 => exact rfl); (case c4 => exact rfl); k_whole; intro g' L' h' tk' cells' FG' F' N' Y' B' X' T' l1; (try k_lt l1); k_cells Y'; (try simp only [List.cons_append, List.nil_append] at N'); (try dsimp only); (try k_lift B'); (try k_fold)))
  (k_with "q14" => (refine wpAny_call ?_; refine' kla_code ?k1 ?k2 ?k3 ?k4 ?k5 ?kA ?kF ?kK ?k6 ?k7 ?k8 ?k9 ?kB ?_ ?c2 ?c3 ?c4 ?c5; (case kA => first | assumption | exact frames_deep (by assumption)); (case kF => first | assumption | exact rfl); (case kK => first | assumption | exact rfl); (case k1 => k_asm); (case k2 => k_asm); (case k3 => k_asm); (case k4 => k_asm); (case k5 => k_asm); (case k6 => k_mem); (case k7 => exact codeRec_news (by k_asm) (by k_mem) (by assumption) (by assumption)); (case k8 => k_room); (case k9 => exact rfl); (case c5 => decide); (case kB => exact locs rfl); (case c2 => exact rfl); (case c3 => exact rfl); (case c4 => exact rfl); k_whole; intro g' L' h' FG' F' N' B' X' T'; (try dsimp only); (try k_lift B'); (try k_fold)))
  (k_with "q15" => with_reducible first | exact F_plain _ _ | exact F_hasDict _ | exact F_noGet _ | exact F_M_WordAt _ | exact F_T_WordAt _ | exact F_K_WordAt _ | exact F_N_WordAt _ | exact F_M_WrapAt _ | exact F_T_WrapAt _ | exact F_K_WrapAt _ | exact F_N_WrapAt _ | exact F_A_pc _ | exact F_W_pc _ | exact F_setattr _ | exact F_over _ | assumption)
  (k_with "q16" => (refine' c_WordAt (g := ⟨_, _, _, _, _, _, _, _, _, _⟩) (t := ⟨_, _, _, _, _, _, _, _⟩) ?p0 ?p1 ?p2 ?p3 ?p4 ?p5 ?kB ?kF ?kX ?kT ?kA ?kf ?kK ?kR ?kO ?kH ?kN ?_; (case kA => first | assumption | exact frames_deep (by assumption)); (case kf => first | assumption | exact rfl); (case kK => first | assumption | exact rfl); (case kB => k_asm); (case kF => k_asm); (case kX => k_asm); (case kT => k_asm); (case kN => tb_start); (case kO => tb_rel); (case kR => k_room); (case kH => exact trivial); (case p0 => assumption); (case p1 => assumption); (case p2 => assumption); (case p3 => assumption); (case p4 => omega); (case p5 => omega); k_whole))
  (k_with "q17" => (refine' c_WrapAt (g := ⟨_, _, _, _, _, _, _, _, _, _⟩) (t := ⟨_, _, _, _, _, _, _, _⟩) ?p0 ?p1 ?p2 ?p3 ?p4 ?p5 ?p6 ?p7 ?kB ?kF ?kX ?kT ?kA ?kf ?kK ?kR ?kch ?kne ?kO ?kTab ?kN ?_; (case kA => first | assumption | exact frames_deep (by assumption)); (case kf => first | assumption | exact rfl); (case kK => first | assumption | exact rfl); (case kB => k_asm); (case kF => k_asm); (case kX => k_asm); (case kT => k_asm); (case kch => kn_code); (case kne => exact ⟨by assumption, by assumption, by assumption⟩); (case kN => tb_start); (case kO => assumption); (case kTab => assumption); (case kR => k_room); (case p0 => assumption); (case p1 => assumption); (case p2 => assumption); (case p3 => assumption); (case p4 => omega); (case p5 => omega); (case p6 => omega); (case p7 => omega); k_whole))
  (k_with "q18" => with_reducible first | exact F_plain _ _ | exact F_hasDict _ | exact F_noGet _ | exact F_A_addrMask _ | exact F_C_cycletime _ | exact F_S_cycletime _ | exact F_A_excycles _ | exact F_C_extracycles _ | exact F_S_extracycles _ | exact F_C_instruct _ | exact F_S_instruct _ | exact F_A_memory _ | exact F_A_pc _ | exact F_A_processorCycles _ | exact F_W_addcycles _ | exact F_W_excycles _ | exact F_W_pc _ | exact F_W_processorCycles _ | exact F_A_addcycles _ | exact F_setattr _ | exact F_over _ | assumption)
  (k_with "q19" => (k_here; (with_reducible show wpAny _ _ (subscriptTail _ _ (Value.ref 1423) (Value.int _ _)) _ _ _); (refine' item_KL ?k1 ?k2 ?k3 ?k4 ?k5 ?k6 ?k7 ?k8 ?_ ?k9 ?k10; (case k1 => k_asm); (case k2 => k_asm); (case k3 => assumption); (case k4 => assumption); (case k5 => assumption); (case k6 => omega); (case k7 => omega); (case k8 => assumption); (case k9 => with_unfolding_all rfl); (case k10 => intro _; with_unfolding_all rfl); k_whole)))
  (k_with "q20" => (k_here; (with_reducible show wpAny _ _ (subscriptTail _ _ (Value.ref 1424) (Value.int _ _)) _ _ _); (refine' item_KL ?k1 ?k2 ?k3 ?k4 ?k5 ?k6 ?k7 ?k8 ?_ ?k9 ?k10; (case k1 => k_asm); (case k2 => k_asm); (case k3 => assumption); (case k4 => assumption); (case k5 => assumption); (case k6 => omega); (case k7 => omega); (case k8 => assumption); (case k9 => with_unfolding_all rfl); (case k10 => intro _; with_unfolding_all rfl); k_whole)))
  (k_with "q21" => (k_here; (with_reducible show wpAny _ _ (subscriptTail _ _ (Value.ref 1425) (Value.int _ _)) _ _ _); (refine' item_KL ?k1 ?k2 ?k3 ?k4 ?k5 ?k6 ?k7 ?k8 ?_ ?k9 ?k10; (case k1 => k_asm); (case k2 => k_asm); (case k3 => assumption); (case k4 => assumption); (case k5 => assumption); (case k6 => omega); (case k7 => omega); (case k8 => assumption); (case k9 => with_unfolding_all rfl); (case k10 => intro _; with_unfolding_all rfl); k_whole)))
  (k_with "q22" => with_reducible first | exact F_plain _ _ | exact F_hasDict _ | exact F_noGet _ | exact F_M_step _ | exact F_T_step _ | exact F_K_step _ | exact F_N_step _ | exact F_A_pc _ | assumption)
  (k_with "q23" => (refine' (by assumption : Steps _ _ _ _ _ _ _ _ _ _) ?kB ?kF ?kX ?kT ?kA ?kf ?kK ?kR ?kch ?kne ?kO ?kTab ?kN ?_; (case kA => first | assumption | exact frames_deep (by assumption)); (case kf => first | assumption | exact rfl); (case kK => first | assumption | exact rfl); (case kB => k_asm); (case kF => k_asm); (case kX => k_asm); (case kT => k_asm); (case kch => kn_code); (case kne => exact ⟨by assumption, by assumption, by assumption⟩); (case kN => tb_start); (case kO => assumption); (case kTab => assumption); (case kR => k_room); k_whole))
  (k_with "q24" => with_reducible first | exact F_plain _ _ | exact F_hasDict _ | exact F_noGet _ | exact F_A_pc _ | exact F_A_a _ | exact F_A_x _ | exact F_A_y _ | exact F_A_sp _ | exact F_A_p _ | exact F_A_processorCycles _ | assumption)
  (k_with "q25" => with_reducible first | exact F_plain _ _ | exact F_hasDict _ | exact F_noGet _ | assumption)
  (k_with "q26" => k_dflt (first | (refine ite_lit_t (by exact rfl) ?_) | (refine ite_lit_f (by exact rfl) ?_)))
  (k_with "q27" => refine wpAny_If ?_)
  (k_with "q28" => (k_here; (with_reducible show wpAny _ _ (binaryOp Operator.Mult (Value.ref _) (Value.int _ _)) _ _ _); ((refine KM.mul (by k_asm) (by k_asm) (by is_list) (by l_ints) (by km_fact) (by km_fact) (by exact KM.size_of 1024 1024 (by l_ints) (by km_short) (by km_fact) (by decide)) ?_); (intro D' h' F' N' l1 i1 n1 s1 e1 e2 e3); (try k_lt l1); (try simp only [List.length_cons, List.length_nil] at e3))))
  (k_with "q29" => assumption)
  (k_with "q30" => (k_here; (with_reducible show wpAny _ _ (binaryOp Operator.Mult (Value.ref _) (Value.int _ _)) _ _ _); ((refine mul_gen (by k_asm) (by k_asm) (by is_list) (by l_ints) (by km_fact) (by km_fact) (by exact KM.size_of 1024 1024 (by l_ints) (by km_short) (by km_fact) (by decide)) ?_); (intro D' h' vs' ms' F' N' l1 i1 e1 e2 e3); (try k_lt l1))))
  (k_with "q31" => first | assumption | (refine Nat.le_trans (Nat.le_of_eq (by with_reducible assumption)) (by first | assumption | decide)))
  (k_with "q32" => (k_here; (with_reducible show wpAny _ _ (subscriptTail _ (PySem.Expr.Slice _ _ none _) (Value.ref _) (Value.ref _)) _ _ _); k_dflt (refine' kmk_slice_ints ?F ?N ?l ?p ?q ?i ?m ?c ?_ ?s ?t ?z; (case F => k_asm); (case N => k_asm); (case l => kmk_list); (case p => kmk_part); (case q => kmk_part); (case i => l_ints); (case m => kmk_nums); (case c => kmk_len); (case s => with_unfolding_all rfl); (case t => kmk_pure); (case z => kmk_size)); intro D' ws' h' F' N' l1 hI' hC' hL'; (try simp only [Int.reduceNeg, Int.neg_neg, Int.reduceToNat] at hI' hC' hL'); (try k_lt l1); (try k_sweep)))
  (k_with "q33" => (k_here; (rename Fr _ _ _ _ => lF'); (with_unfolding_all refine' For_invVF lF' ?k1 ?k2 ?_; (case k1 => exact rfl); (case k2 => exact rfl); k_whole)))
  (k_with "q34" => assumption)
  (k_with "q35" => (k_here; (with_reducible show wpAny _ _ (inplaceOp Operator.Add (Value.ref _) (Value.ref _)) _ _ _); k_dflt (refine' list_iadd_K ?F ?N ?U ?b ?z ?_; (case F => k_asm); (case N => k_asm); (case U => k_updF); (case b => k_mem); (case z => (simp only [List.length_cons, List.length_nil, List.length_append]; omega)); k_whole); intro h' n' F' N'; (try simp only [List.cons_append, List.nil_append] at N'); (try k_sweep)))
  (k_with "q36" => (k_here; (with_reducible show wpAny _ _ (binaryOp Operator.Mult (Value.ref _) (Value.int _ _)) _ _ _); ((refine mul_gen (by k_asm) (by k_asm) (by is_list) (by l_ints) (by km_fact) (by km_fact) (by exact KM.size_of 1024 1024 (by l_ints) (by km_short) (by km_fact) (by decide)) ?_); (intro D' h' vs' F' N' l1 i1 e1); (try k_lt l1))))
  (k_with "q37" => with_reducible first | exact F_plain _ _ | exact F_hasDict _ | exact F_noGet _ | exact F_C_ADDR_WIDTH _ | exact F_S_ADDR_WIDTH _ | exact F_C_BYTE_WIDTH _ | exact F_S_BYTE_WIDTH _ | exact F_A_byteMask _ | exact F_M_reset _ | exact F_T_reset _ | exact F_K_reset _ | exact F_N_reset _ | exact F_W_addcycles _ | exact F_W_addrHighMask _ | exact F_W_addrMask _ | exact F_W_byteMask _ | exact F_W_excycles _ | exact F_W_memory _ | exact F_W_name _ | exact F_W_processorCycles _ | exact F_W_spBase _ | exact F_W_start_pc _ | exact F_A_addcycles _ | exact F_A_addrHighMask _ | exact F_A_addrMask _ | exact F_A_excycles _ | exact F_A_memory _ | exact F_A_name _ | exact F_A_processorCycles _ | exact F_A_spBase _ | exact F_A_start_pc _ | exact F_setattr _ | exact F_over _ | assumption)
  (k_with "q38" => with_reducible first | exact F_plain _ _ | exact F_hasDict _ | exact F_noGet _ | exact F_C_BREAK _ | exact F_S_BREAK _ | exact F_C_UNUSED _ | exact F_S_UNUSED _ | exact F_M_WordAt _ | exact F_T_WordAt _ | exact F_K_WordAt _ | exact F_N_WordAt _ | exact F_A_byteMask _ | exact F_A_pc _ | exact F_A_start_pc _ | exact F_W_a _ | exact F_W_p _ | exact F_W_pc _ | exact F_W_processorCycles _ | exact F_W_sp _ | exact F_W_x _ | exact F_W_y _ | exact F_A_a _ | exact F_A_p _ | exact F_A_processorCycles _ | exact F_A_sp _ | exact F_A_x _ | exact F_A_y _ | exact F_setattr _ | exact F_over _ | assumption)
  trivial
open PySem PySem.W PySem.Calls PyProof.Rows
set_option maxRecDepth 100000
set_option maxHeartbeats 4000000
local macro_rules | `(tactic| k_room) => `(tactic| k_extra "q0")
local macro_rules | `(tactic| k_enter) => `(tactic| k_extra "q1")
local macro_rules | `(tactic| tb_start) => `(tactic| k_extra "q2")
local macro_rules | `(tactic| tb_rel) => `(tactic| k_extra "q3")
local macro_rules | `(tactic| k_mem) => `(tactic| k_extra "q4")
local macro_rules | `(tactic| walk_at "execs cons") => `(tactic| k_extra "q5")
local macro_rules | `(tactic| walk_at "execs nil") => `(tactic| k_extra "q6")
local macro_rules | `(tactic| walk_at "ite") => `(tactic| k_extra "q7")
section
local macro_rules | `(tactic| k_is) => `(tactic| k_extra "q8")
theorem c_ByteAt {w : World} {I : Im} {g : Rg} {ex : Int} {ad : Value} {t : Tk} {vs : List Value} {i : Int} {ti : Tok} {ns : List Int} (ap : Apart I) (hi : IntsAre vs ns) (hl : ns.length = 1024) (h0 : 0 ≤ i) (h1 : i < 1024) :
    Does w 1 71 [.ref I.x, .int i ti] I g ex ad t vs (fun r g' ex' vs' => (∃ t, r = .int (rd ns i) t) ∧ g' = g ∧ ex' = ex ∧ vs' = vs) := by
  intro A₀ A base h₀ outer env L m mg mb p loose mean s rest R B F X T hA hf hke hroom off hm N h
  have hdx := ap.dx
  have hrd := ap.rd
  dsimp only [led, mm, List.cons_append, List.nil_append] at N h
  w_strict (k_enter; k_steps)
  rename News h₀ L _ _ => kN
  exact h _ _ _ _ _ _ _ _ _ _ _ _ _ _ ⟨⟨_, rfl⟩, rfl, rfl, rfl⟩ (by assumption) kN

end
section
local macro_rules | `(tactic| k_is) => `(tactic| k_extra "q9")
local macro_rules | `(tactic| k_enter) => `(tactic| (k_extra "q10"; intro v' g' ex' te' tc' tpc' tsp' ta' tx' ty' tp' vs' h' tk' P' F' N'; obtain ⟨⟨ti', e1'⟩, e2', e3', e4'⟩ := P'; subst e1' e2' e3' e4'; dsimp only [led, mm, List.cons_append, List.nil_append] at N'; (try dsimp only); (try k_sweep)))
theorem c_WordAt {w : World} {I : Im} {g : Rg} {ex : Int} {ad : Value} {t : Tk} {vs : List Value} {i : Int} {ti : Tok} {ns : List Int} (ap : Apart I) (hi : IntsAre vs ns) (hl : ns.length = 1024) (hb : ∀ b ∈ ns, 0 ≤ b ∧ b < 256) (h0 : 0 ≤ i) (h1 : i < 1023) :
    Does w 2 78 [.ref I.x, .int i ti] I g ex ad t vs (fun r g' ex' vs' => (∃ t, r = .int (rd ns i + rd ns (i + 1) * 256) t) ∧ g' = g ∧ ex' = ex ∧ vs' = vs) := by
  intro A₀ A base h₀ outer env L m mg mb p loose mean s rest R B F X T hA hf hke hroom off hm N h
  have hdx := ap.dx
  have hrd := ap.rd
  dsimp only [led, mm, List.cons_append, List.nil_append] at N h
  have hb1 := bytes hb (i + 1)
  w_strict (k_enter; k_steps)
  rename News h₀ L _ _ => kN
  exact h _ _ _ _ _ _ _ _ _ _ _ _ _ _ ⟨⟨_, rfl⟩, rfl, rfl, rfl⟩ (by assumption) kN

end
/-- the table of the lambda's code objects, before and after its first making -/
noncomputable def Tab (ct : Array Value) (rest : List (Addr × Obj)) : Prop :=
  ct = #[] ∨ ∃ c' oc vs t, ct = #[] ++ #[rawInt 71, rawInt 15, .ref c'] ∧ (c', oc) ∈ rest ∧ oc.data = .fields vs ∧ vs[1]? = some (.str (("MPU.WrapAt" : Str) ++ ".<locals>." ++ "<lambda>") t)
theorem off_c4 {q x d r p : Addr} {o : Obj} {rest : List (Addr × Obj)} (off : OwnOff rest [x, d, r, p]) (h1 : q ≠ x) (h2 : q ≠ d) (h3 : q ≠ r) (h4 : q ≠ p) : OwnOff ((q, o) :: rest) [x, d, r, p] := by
  intro y hy b hb
  rcases List.mem_cons.mp hy with rfl | hy
  · simp only [List.mem_cons, List.not_mem_nil, or_false] at hb
    rcases hb with rfl | rfl | rfl | rfl <;> assumption
  · exact off y hy b hb
theorem news_w1 {h₀ h : Heap} {L : Addr} {f c l x d r t : Addr × Obj} {rest : List (Addr × Obj)} (N : News h₀ L h (f :: c :: l :: x :: d :: r :: t :: rest)) : News h₀ L h (x :: d :: r :: t :: c :: rest) := by
  refine news_sub N fun p hp => ?_
  simp only [List.mem_cons] at hp ⊢
  rcases hp with h | h | h | h | h | h <;> simp [h]
theorem news_w2 {h₀ h : Heap} {L : Addr} {f c l x d r t : Addr × Obj} {rest : List (Addr × Obj)} (N : News h₀ L h (f :: l :: c :: x :: d :: r :: t :: rest)) : News h₀ L h (x :: d :: r :: t :: rest) := by
  refine news_sub N fun p hp => ?_
  simp only [List.mem_cons] at hp ⊢
  rcases hp with h | h | h | h | h <;> simp [h]
theorem pick1 {h₀ h : Heap} {L c : Addr} {oc : Obj} {f l x d r : Addr × Obj} {rest : List (Addr × Obj)} (N : News h₀ L h (f :: (c, oc) :: l :: x :: d :: r :: (80, tabObj (#[] ++ #[rawInt 71, rawInt 15, .ref c])) :: rest)) : ∃ c2 oc2, c2 = c ∧ oc2 = oc ∧ News h₀ L h (x :: d :: r :: (80, tabObj (#[] ++ #[rawInt 71, rawInt 15, .ref c2])) :: (c2, oc2) :: rest) := ⟨c, oc, rfl, rfl, news_w1 N⟩
theorem news_in1 {h₀ h : Heap} {L : Addr} {l : List (Addr × Obj)} (N : News h₀ L h l) {p : Addr × Obj} (hp : p ∈ l) : News h₀ L h (p :: l) := fun q hq => by
  rcases List.mem_cons.mp hq with rfl | hq
  · exact N _ hp
  · exact N _ hq
noncomputable def DoesT (w : World) (k : Nat) (fn : Addr) (args : List Value) (I : Im) (g : Rg) (ex : Int) (ad : Value) (t : Tk) (vs : List Value) (ct : Array Value) (Q : Value → Rg → Int → List Value → Prop) : Prop :=
  ∀ {A₀ A : Around} {base h₀ : Heap} {outer : List Env} {env : Env} {L : Addr} {m mg mb : Str → Option Value} {p : Program} {loose : List Str} {mean : ExcName → Option Value} {s : Shared} {rest : List (Addr × Obj)} {R : Result → Shared → Prop},
  Below A₀ base outer h₀ → Fr h₀ L s.heap m → (KF w.params).In h₀ → Top p loose mean mg mb h₀ → A.frames = some (env :: outer) → env.frame = some L → env.scope.kind = .function → A.depth + k < recursionLimit →
  CodeHd h₀ 84 80 → (80 : Nat) ≠ I.x ∧ (80 : Nat) ≠ I.d ∧ (80 : Nat) ≠ I.r → OwnOff rest [I.x, I.d, I.r, 80] → Tab ct rest → News h₀ L s.heap (led I g ex ad t vs ++ (80, tabObj ct) :: rest) →
  (∀ v g' ex' te tc tpc tsp ta tx ty tp vs' h' tk ct' more, Q v g' ex' vs' → Fr h₀ L h' m → OwnOff (more ++ rest) [I.x, I.d, I.r, 80] → Tab ct' (more ++ rest) → News h₀ L h' (led I g' ex' ad ⟨te, tc, tpc, tsp, ta, tx, ty, tp⟩ vs' ++ (80, tabObj ct') :: (more ++ rest)) → R (.ok (.ret v)) { s with heap := h', toks := tk }) →
  codeAny (model PySem.Challenge.rw_im0103_01.row.prog w) A (.call (.ref fn) ⟨args, []⟩) R s
section
local macro_rules | `(tactic| kn_code) => `(tactic| k_extra "q11")
local macro_rules | `(tactic| k_is) => `(tactic| k_extra "q12")
local macro_rules | `(tactic| k_enter) => `(tactic| (k_extra "q10"; intro v' g' ex' te' tc' tpc' tsp' ta' tx' ty' tp' vs' h' tk' P' F' N'; obtain ⟨⟨ti', e1'⟩, e2', e3', e4'⟩ := P'; subst e1' e2' e3' e4'; dsimp only [led, mm, List.cons_append, List.nil_append] at N'; (try dsimp only); (try k_sweep)))
local macro_rules | `(tactic| k_enter) => `(tactic| k_extra "q13")
local macro_rules | `(tactic| walk_at "call ref") => `(tactic| k_extra "q14")
theorem c_WrapAt {w : World} {I : Im} {g : Rg} {ex : Int} {ad : Value} {t : Tk} {vs : List Value} {i : Int} {ti : Tok} {ns : List Int} {ct : Array Value} (ap : Apart I) (hi : IntsAre vs ns) (hl : ns.length = 1024) (hb : ∀ b ∈ ns, 0 ≤ b ∧ b < 256) (h0 : 0 ≤ i) (h1 : i < 1023) (h2 : 0 ≤ Builtin.bitAnd i 65280 + Builtin.bitAnd (i + 1) 255) (h3 : Builtin.bitAnd i 65280 + Builtin.bitAnd (i + 1) 255 < 1024) :
    DoesT w 3 85 [.ref I.x, .int i ti] I g ex ad t vs ct (fun r g' ex' vs' => (∃ t, r = .int (rd ns i + rd ns (Builtin.bitAnd i 65280 + Builtin.bitAnd (i + 1) 255) * 256) t) ∧ g' = g ∧ ex' = ex ∧ vs' = vs) := by
  intro A₀ A base h₀ outer env L m mg mb p loose mean s rest R B F X T hA hf hke hroom hch ⟨n80x, n80d, n80r⟩ off htab N h
  have hdx := ap.dx
  have hrd := ap.rd
  dsimp only [led, mm, List.cons_append, List.nil_append] at N h
  have hb1 : 0 ≤ ns.getD (Builtin.bitAnd i 65280 + Builtin.bitAnd (i + 1) 255).toNat 0 ∧ ns.getD (Builtin.bitAnd i 65280 + Builtin.bitAnd (i + 1) 255).toNat 0 < 256 := bytes hb (Builtin.bitAnd i 65280 + Builtin.bitAnd (i + 1) 255)
  rcases htab with rfl | ⟨c₀, oc₀, vs₀, t₀, rfl, hmc, hd1, hd2⟩
  · w_strict (k_enter; repeat' (first | (k_unfold; (try dsimp only)) | walk1 | (dsimp only; walk1) | (leave1; try dsimp only)))
    rename News h₀ L _ _ => kN
    rename Array Value => vs9
    rename vs9[1]? = _ => q9
    rename _ = Data.fields vs9 => q8
    obtain ⟨c9, o9, rfl, rfl, kN'⟩ := pick1 kN
    exact h _ _ _ _ _ _ _ _ _ _ _ _ _ _ (#[] ++ #[rawInt 71, rawInt 15, .ref c9]) [(c9, o9)] ⟨⟨_, rfl⟩, rfl, rfl, rfl⟩ (by assumption) (off_c4 off (by k_ne) (by k_ne) (by k_ne) (by k_ne)) (.inr ⟨c9, o9, vs9, _, rfl, .head _, q8, q9⟩) kN'
  · have N := news_in1 N (.tail _ (.tail _ (.tail _ (.tail _ hmc))))
    w_strict (k_enter; repeat' (first | (k_unfold; (try dsimp only)) | walk1 | (dsimp only; walk1) | (leave1; try dsimp only)))
    rename News h₀ L _ _ => kN
    exact h _ _ _ _ _ _ _ _ _ _ _ _ _ _ _ [] ⟨⟨_, rfl⟩, rfl, rfl, rfl⟩ (by assumption) off (.inr ⟨_, _, _, _, rfl, hmc, hd1, hd2⟩) (news_w2 kN)
end
section
open PySem PySem.W PySem.Calls PyProof.Rows
set_option maxRecDepth 100000
set_option maxHeartbeats 4000000
theorem off_34 {x d r q : Addr} {rest : List (Addr × Obj)} (off : OwnOff rest [x, d, r, q]) : OwnOff rest [x, d, r] := fun p hp b hb => off p hp b (by
  simp only [List.mem_cons, List.not_mem_nil, or_false] at hb ⊢
  rcases hb with h | h | h <;> simp [h])
theorem Does.toT {w : World} {k : Nat} {fn : Addr} {args : List Value} {I : Im} {g : Rg} {ex : Int} {ad : Value} {t : Tk} {vs : List Value} {ct : Array Value} {Q : Value → Rg → Int → List Value → Prop} (D : Does w k fn args I g ex ad t vs Q) : DoesT w k fn args I g ex ad t vs ct Q := by
  intro A₀ A base h₀ outer env L m mg mb p loose mean s rest R B F X T hA hf hke hroom hch hne off htab N h
  refine D (rest := (80, tabObj ct) :: rest) B F X T hA hf hke hroom (off_cons (fun p hp b hb => off p hp b ?_) hne.1 hne.2.1 hne.2.2) trivial N ?_
  · simp only [List.mem_cons, List.not_mem_nil, or_false] at hb ⊢
    rcases hb with h | h | h <;> simp [h]
  · intro v g' ex' te tc tpc tsp ta tx ty tp vs' h' tk hQ F' N'
    exact h v g' ex' te tc tpc tsp ta tx ty tp vs' h' tk ct [] hQ F' off htab N'
theorem DoesT.up {w : World} {k k' : Nat} {fn : Addr} {args : List Value} {I : Im} {g : Rg} {ex : Int} {ad : Value} {t : Tk} {vs : List Value} {ct : Array Value} {Q : Value → Rg → Int → List Value → Prop} (hk : k ≤ k') (D : DoesT w k fn args I g ex ad t vs ct Q) : DoesT w k' fn args I g ex ad t vs ct Q := by
  intro A₀ A base h₀ outer env L m mg mb p loose mean s rest R B F X T hA hf hke hroom hch hne off htab N h
  exact D B F X T hA hf hke (by omega) hch hne off htab N h
theorem hi_all : ∀ k : Nat, k < 1024 → k &&& 65280 = k - k % 256 := by decide +kernel
theorem wrap_is {i : Int} (h0 : 0 ≤ i) (h1 : i < 1024) (h2 : i % 256 < 255) : Builtin.bitAnd i 65280 + Builtin.bitAnd (i + 1) 255 = i + 1 := by
  rw [bitAnd_m8, bitAnd_pp h0 (by decide)]
  have e := hi_all i.toNat (by omega)
  have e2 : i.toNat &&& (65280 : Int).toNat = i.toNat - i.toNat % 256 := e
  rw [e2]; omega
noncomputable def arrOf (K : Frag) (a : Addr) : Array Value := match K.lookup a with | some ⟨_, _, .seq xs _, _⟩ => xs | _ => #[]
theorem item_KL {prog : Program} {w : World} {A : Around} {E : Value → Shared → Prop} {s : Shared} {K : Frag} {h₀ : Heap} {L a : Addr} {m : Str → Option Value} {value slice : Expr} {o : Obj} {n : Nat} {k : Int} {u : Tok} {x : Value} {Q : Value → Shared → Prop}
    (F : Fr h₀ L s.heap m) (X : K.In h₀) (ho : K.lookup a = some o) (hc : o.cls = .type "list") (hd : o.data = .seq (arrOf K a) n) (h0 : 0 ≤ k) (hfit : k < 2 ^ 63) (hx : (arrOf K a).toList[k.toNat]? = some x) (h : Q x s)
    (hs : subscripted slice false (.ref a) (.int k u) = operate [.ref a, .int k u] (getItem (.ref a) (.int k u)) := by with_unfolding_all rfl) (hg : ∀ r, letTemporaryGo value (.ref a) r = pure () := by intro _; with_unfolding_all rfl) :
    wpAny (model prog w) A (subscriptTail value slice (.ref a) (.int k u)) Q E s :=
  item_listL (l := (arrOf K a).toList) ⟨o, (X.keeps F.keep) _ _ ho, hc, n, by rw [hd]⟩ h0 hfit hx h hs hg
theorem k1423 (w : World) : ∃ o, (KF w.params).lookup 1423 = some o ∧ o.cls = .type "list" ∧ o.data = .seq (arrOf (KF w.params) 1423) 0 := ⟨_, rfl, rfl, rfl⟩
theorem k1424 (w : World) : ∃ o, (KF w.params).lookup 1424 = some o ∧ o.cls = .type "list" ∧ o.data = .seq (arrOf (KF w.params) 1424) 0 := ⟨_, rfl, rfl, rfl⟩
theorem k1425 (w : World) : ∃ o, (KF w.params).lookup 1425 = some o ∧ o.cls = .type "list" ∧ o.data = .seq (arrOf (KF w.params) 1425) 0 := ⟨_, rfl, rfl, rfl⟩
section
local macro_rules | `(tactic| k_is) => `(tactic| k_extra "q15")
local macro_rules | `(tactic| k_enter) => `(tactic| (k_extra "q16"; intro v' g' ex' te' tc' tpc' tsp' ta' tx' ty' tp' vs' h' tk' P' F' N'; obtain ⟨⟨ti', e1'⟩, e2', e3', e4'⟩ := P'; subst e1' e2' e3' e4'; dsimp only [led, mm, List.cons_append, List.nil_append] at N'; (try dsimp only); (try k_sweep)))
local macro_rules | `(tactic| k_enter) => `(tactic| (k_extra "q17"; intro v' g' ex' te' tc' tpc' tsp' ta' tx' ty' tp' vs' h' tk' ct' more' P' F' O' Tb' N'; obtain ⟨⟨ti', e1'⟩, e2', e3', e4'⟩ := P'; subst e1' e2' e3' e4'; dsimp only [led, mm, List.cons_append, List.nil_append] at N'; (try dsimp only); (try k_sweep)))
local macro_rules | `(tactic| kn_code) => `(tactic| k_extra "q11")
theorem ci_6c {w : World} {I : Im} {g : Rg} {ex : Int} {ad : Value} {t : Tk} {vs : List Value} {ns : List Int} {ct : Array Value} (ap : Apart I) (hi : IntsAre vs ns) (hl : ns.length = 1024) (hb : ∀ b ∈ ns, 0 ≤ b ∧ b < 256) (h0 : 0 ≤ g.pc) (h1 : g.pc < 1023) (hw : (rd ns g.pc + rd ns (g.pc + 1) * 256) < 1023) (hw2 : (rd ns g.pc + rd ns (g.pc + 1) * 256) % 256 < 255) :
    DoesT w 8 799 [.ref I.x] I g ex ad t vs ct (fun r g' ex' vs' => r = .none ∧ g' = { g with pc := rd ns (rd ns g.pc + rd ns (g.pc + 1) * 256) + rd ns ((rd ns g.pc + rd ns (g.pc + 1) * 256) + 1) * 256 } ∧ ex' = ex ∧ vs' = vs) := by
  intro A₀ A base h₀ outer env L m mg mb p loose mean s rest R B F X T hA hf hke hroom hch hne off htab N h
  have hdx := ap.dx
  have hrd := ap.rd
  have n80x := hne.1
  have n80d := hne.2.1
  have n80r := hne.2.2
  have off3 := off_cons (o := tabObj ct) (off_34 off) n80x n80d n80r
  dsimp only [led, mm, List.cons_append, List.nil_append] at N h
  have b0 := bytes hb g.pc
  have b1 := bytes hb (g.pc + 1)
  have eW := wrap_is (i := (rd ns g.pc + rd ns (g.pc + 1) * 256)) (by omega) (by omega) hw2
  w_strict (k_enter; k_steps)
  rename News h₀ L _ _ => kN
  rename Tab _ _ => kT
  rename OwnOff (_ ++ _) _ => kO
  rw [eW] at kN
  exact h _ _ _ _ _ _ _ _ _ _ _ _ _ _ _ _ ⟨rfl, rfl, rfl, rfl⟩ (by assumption) kO kT kN
end
section
local macro_rules | `(tactic| k_is) => `(tactic| k_extra "q18")
local macro_rules | `(tactic| kn_code) => `(tactic| k_extra "q11")
local macro_rules | `(tactic| walk_at "subscriptTail") => `(tactic| k_extra "q19")
local macro_rules | `(tactic| walk_at "subscriptTail") => `(tactic| k_extra "q20")
local macro_rules | `(tactic| walk_at "subscriptTail") => `(tactic| k_extra "q21")
/-- one step of the machine -/
noncomputable def Steps (w : World) (k : Nat) (I : Im) (g : Rg) (ex : Int) (ad : Value) (t : Tk) (vs : List Value) (ct : Array Value) (Q : Rg → List Value → Prop) : Prop :=
  ∀ ⦃A₀ A : Around⦄ ⦃base h₀ : Heap⦄ ⦃outer : List Env⦄ ⦃env : Env⦄ ⦃L : Addr⦄ ⦃m mg mb : Str → Option Value⦄ ⦃p : Program⦄ ⦃loose : List Str⦄ ⦃mean : ExcName → Option Value⦄ ⦃s : Shared⦄ ⦃rest : List (Addr × Obj)⦄ ⦃R : Result → Shared → Prop⦄,
  Below A₀ base outer h₀ → Fr h₀ L s.heap m → (KF w.params).In h₀ → Top p loose mean mg mb h₀ → A.frames = some (env :: outer) → env.frame = some L → env.scope.kind = .function → A.depth + k < recursionLimit →
  CodeHd h₀ 84 80 → (80 : Nat) ≠ I.x ∧ (80 : Nat) ≠ I.d ∧ (80 : Nat) ≠ I.r → OwnOff rest [I.x, I.d, I.r, 80] → Tab ct rest → News h₀ L s.heap (led I g ex ad t vs ++ (80, tabObj ct) :: rest) →
  (∀ g' ex' ad' te tc tpc tsp ta tx ty tp vs' h' tk ct' more, Q g' vs' → Fr h₀ L h' m → OwnOff (more ++ rest) [I.x, I.d, I.r, 80] → Tab ct' (more ++ rest) → News h₀ L h' (led I g' ex' ad' ⟨te, tc, tpc, tsp, ta, tx, ty, tp⟩ vs' ++ (80, tabObj ct') :: (more ++ rest)) → R (.ok (.ret (.ref I.x))) { s with heap := h', toks := tk }) →
  codeAny (model PySem.Challenge.rw_im0103_01.row.prog w) A (.call (.ref 43) ⟨[.ref I.x], []⟩) R s
theorem c_step {w : World} {I : Im} {g : Rg} {ex : Int} {ad : Value} {t : Tk} {vs : List Value} {ns : List Int} {ct : Array Value} {fn : Addr} {e cy : Int} {te0 tcy : Tok} {Q : Rg → Int → List Value → Prop} (ap : Apart I) (hi : IntsAre vs ns) (hl : ns.length = 1024) (hb : ∀ b ∈ ns, 0 ≤ b ∧ b < 256) (h0 : 0 ≤ g.pc) (h1 : g.pc < 1000)
    (hE : (arrOf (KF w.params) 1425).toList[(rd ns g.pc).toNat]? = some (.int e te0)) (hF : (arrOf (KF w.params) 1423).toList[(rd ns g.pc).toNat]? = some (.ref fn)) (hC : (arrOf (KF w.params) 1424).toList[(rd ns g.pc).toNat]? = some (.int cy tcy)) (hfn : fnIn (KF w.params) fn = true) (hisf : isFn (KF w.params) (.ref fn) = true) (hkeep : keepIn (KF w.params) (.ref fn) = true)
    (call : ∀ t', DoesT w 8 fn [.ref I.x] I { g with pc := g.pc + 1 } 0 (.int e te0) t' vs ct (fun r g' ex' vs' => r = .none ∧ Q g' ex' vs')) :
    Steps w 10 I g ex ad t vs ct (fun g' vs' => ∃ g1 ex1, Q g1 ex1 vs' ∧ g' = { g1 with pc := g1.pc % 65536, cyc := g1.cyc + (cy + ex1) }) := by
  intro A₀ A base h₀ outer env L m mg mb p loose mean s rest R B F X T hA hf hke hroom hch hne off htab N h
  have hdx := ap.dx
  have hrd := ap.rd
  have n80x := hne.1
  have n80d := hne.2.1
  have n80r := hne.2.2
  have off3 := off_cons (o := tabObj ct) (off_34 off) n80x n80d n80r
  dsimp only [led, mm, List.cons_append, List.nil_append] at N h
  have b0 : 0 ≤ ns.getD g.pc.toNat 0 ∧ ns.getD g.pc.toNat 0 < 256 := bytes hb g.pc
  have ep : Builtin.bitAnd (g.pc + 1) 65535 = g.pc + 1 := by rw [bitAnd_m16]; omega
  obtain ⟨o23, hk1423, hc23, hd23⟩ := k1423 w
  obtain ⟨o24, hk1424, hc24, hd24⟩ := k1424 w
  obtain ⟨o25, hk1425, hc25, hd25⟩ := k1425 w
  w_strict (k_enter; k_steps)
  refine wpAny_call ?_
  refine' call ⟨_, _, _, _, _, _, _, _⟩ ?kB ?kF ?kX ?kT ?kA ?kf ?kK ?kR ?kch ?kne ?kO ?kTab ?kN ?_
  (case kA => first | assumption | exact frames_deep (by assumption))
  (case kf => first | assumption | exact rfl)
  (case kK => first | assumption | exact rfl)
  (case kB => k_asm)
  (case kF => k_asm)
  (case kX => k_asm)
  (case kT => k_asm)
  (case kch => kn_code)
  (case kne => exact hne)
  (case kN => dsimp only [led, mm, List.cons_append, List.nil_append]; rw [← ep]; k_asm)
  (case kO => assumption)
  (case kTab => assumption)
  (case kR => k_room)
  k_whole
  intro v' g' ex' te' tc' tpc' tsp' ta' tx' ty' tp' vs' h' tk' ct' more' P' F' O' Tb' N'
  obtain ⟨e1', hQ'⟩ := P'
  subst e1'
  dsimp only [led, mm, List.cons_append, List.nil_append] at N'
  (try dsimp only)
  (try k_sweep)
  k_steps
  rename News h₀ L _ _ => kN
  rw [bitAnd_m16] at kN
  exact h { g' with pc := g'.pc % 65536, cyc := g'.cyc + (cy + ex') } _ _ _ _ _ _ _ _ _ _ _ _ _ _ _ ⟨g', ex', hQ', rfl⟩ (by assumption) O' Tb' kN
end
end
section
open PySem PyProof.Rows
set_option maxRecDepth 100000
/-! ## the machine, plainly -/
noncomputable def nz (v : Int) (g : Rg) : Rg := { g with Z := decide (v = 0), N := decide (128 ≤ v) }
noncomputable def f_185 (g : Rg) (ns : List Int) : Option (Rg × List Int) :=
  let o := rd ns (g.pc + 1)
  if o = 0 ∧ rd ns (g.pc + 1 + 1) = 3 then some (nz (rd ns (768 + g.y)) { g with pc := g.pc + 3, a := rd ns (768 + g.y), cyc := g.cyc + 4 }, ns) else none
noncomputable def f_200 (g : Rg) (ns : List Int) : Option (Rg × List Int) :=
  some (nz ((g.y + 1) % 256) { g with pc := g.pc + 1, y := (g.y + 1) % 256, cyc := g.cyc + 2 }, ns)
noncomputable def f_41 (g : Rg) (ns : List Int) : Option (Rg × List Int) :=
  let o := rd ns (g.pc + 1)
  some (nz (Builtin.bitAnd g.a o) { g with pc := g.pc + 2, a := Builtin.bitAnd g.a o, cyc := g.cyc + 2 }, ns)
noncomputable def f_141 (g : Rg) (ns : List Int) : Option (Rg × List Int) :=
  let o := rd ns (g.pc + 1)
  let w := o + rd ns (g.pc + 1 + 1) * 256
  if w < 1024 then some ({ g with pc := g.pc + 3, cyc := g.cyc + 4 }, ns.set w.toNat g.a) else none
noncomputable def f_108 (g : Rg) (ns : List Int) : Option (Rg × List Int) :=
  let o := rd ns (g.pc + 1)
  let w := o + rd ns (g.pc + 1 + 1) * 256
  if w < 1023 ∧ w % 256 < 255 then (if rd ns w + rd ns (w + 1) * 256 < 65536 then some ({ g with pc := rd ns w + rd ns (w + 1) * 256, cyc := g.cyc + 5 }, ns) else none) else none
noncomputable def f_202 (g : Rg) (ns : List Int) : Option (Rg × List Int) :=
  some (nz ((g.x - 1) % 256) { g with pc := g.pc + 1, x := (g.x - 1) % 256, cyc := g.cyc + 2 }, ns)
noncomputable def f_149 (g : Rg) (ns : List Int) : Option (Rg × List Int) :=
  let o := rd ns (g.pc + 1)
  let z := (g.x + o) % 256
  some ({ g with pc := g.pc + 2, cyc := g.cyc + 4 }, ns.set z.toNat g.a)
noncomputable def f_76 (g : Rg) (ns : List Int) : Option (Rg × List Int) :=
  let o := rd ns (g.pc + 1)
  let w := o + rd ns (g.pc + 1 + 1) * 256
  if w < 65536 then some ({ g with pc := w, cyc := g.cyc + 3 }, ns) else none
noncomputable def f_181 (g : Rg) (ns : List Int) : Option (Rg × List Int) :=
  let o := rd ns (g.pc + 1)
  let z := (g.x + o) % 256
  some (nz (rd ns z) { g with pc := g.pc + 2, a := rd ns z, cyc := g.cyc + 4 }, ns)
noncomputable def f_24 (g : Rg) (ns : List Int) : Option (Rg × List Int) :=
  some ({ g with pc := g.pc + 1, C := false, cyc := g.cyc + 2 }, ns)
noncomputable def f_117 (g : Rg) (ns : List Int) : Option (Rg × List Int) :=
  let o := rd ns (g.pc + 1)
  let z := (g.x + o) % 256
  if g.C = false then some ({ nz ((rd ns z + g.a) % 256) g with pc := g.pc + 2, a := (rd ns z + g.a) % 256, C := decide (255 < rd ns z + g.a), V := decide (Builtin.bitAnd (Builtin.bitAnd (Builtin.bitNot (Builtin.bitXor g.a (rd ns z))) (Builtin.bitXor g.a (rd ns z + g.a))) 128 ≠ 0), cyc := g.cyc + 4 }, ns) else none
noncomputable def f_232 (g : Rg) (ns : List Int) : Option (Rg × List Int) :=
  some (nz ((g.x + 1) % 256) { g with pc := g.pc + 1, x := (g.x + 1) % 256, cyc := g.cyc + 2 }, ns)
noncomputable def f_56 (g : Rg) (ns : List Int) : Option (Rg × List Int) :=
  some ({ g with pc := g.pc + 1, C := true, cyc := g.cyc + 2 }, ns)
noncomputable def f_245 (g : Rg) (ns : List Int) : Option (Rg × List Int) :=
  let o := rd ns (g.pc + 1)
  let z := (g.x + o) % 256
  if g.C = true then some ({ nz ((g.a - rd ns z) % 256) g with pc := g.pc + 2, a := (g.a - rd ns z) % 256, C := decide (rd ns z ≤ g.a), V := decide (Builtin.bitAnd (Builtin.bitAnd (Builtin.bitXor g.a (rd ns z)) (Builtin.bitXor g.a (g.a + (255 - rd ns z) + 1))) 128 ≠ 0), cyc := g.cyc + 4 }, ns) else none
noncomputable def f_72 (g : Rg) (ns : List Int) : Option (Rg × List Int) :=
  some ({ g with pc := g.pc + 1, sp := (g.sp - 1) % 256, cyc := g.cyc + 3 }, ns.set (g.sp + 256).toNat g.a)
noncomputable def f_104 (g : Rg) (ns : List Int) : Option (Rg × List Int) :=
  some (nz (rd ns ((g.sp + 1) % 256 + 256)) { g with pc := g.pc + 1, sp := (g.sp + 1) % 256, a := rd ns ((g.sp + 1) % 256 + 256), cyc := g.cyc + 4 }, ns)
noncomputable def f_168 (g : Rg) (ns : List Int) : Option (Rg × List Int) :=
  some (nz g.a { g with pc := g.pc + 1, y := g.a, cyc := g.cyc + 2 }, ns)
noncomputable def f_240 (g : Rg) (ns : List Int) : Option (Rg × List Int) :=
  let o := rd ns (g.pc + 1)
  if g.Z = true then (if 128 ≤ o ∧ 512 ≤ g.pc + 2 ∧ g.pc + 2 < 768 ∧ 512 ≤ g.pc + o - 254 ∧ g.pc + o - 254 < 768 then some ({ g with pc := g.pc + o - 254, cyc := g.cyc + 3 }, ns) else none) else some ({ g with pc := g.pc + 2, cyc := g.cyc + 2 }, ns)
noncomputable def f_208 (g : Rg) (ns : List Int) : Option (Rg × List Int) :=
  let o := rd ns (g.pc + 1)
  if g.Z = false then (if 128 ≤ o ∧ 512 ≤ g.pc + 2 ∧ g.pc + 2 < 768 ∧ 512 ≤ g.pc + o - 254 ∧ g.pc + o - 254 < 768 then some ({ g with pc := g.pc + o - 254, cyc := g.cyc + 3 }, ns) else none) else some ({ g with pc := g.pc + 2, cyc := g.cyc + 2 }, ns)
noncomputable def f_152 (g : Rg) (ns : List Int) : Option (Rg × List Int) :=
  some (nz g.y { g with pc := g.pc + 1, a := g.y, cyc := g.cyc + 2 }, ns)
noncomputable def f_136 (g : Rg) (ns : List Int) : Option (Rg × List Int) :=
  some (nz ((g.y - 1) % 256) { g with pc := g.pc + 1, y := (g.y - 1) % 256, cyc := g.cyc + 2 }, ns)
noncomputable def f_165 (g : Rg) (ns : List Int) : Option (Rg × List Int) :=
  let o := rd ns (g.pc + 1)
  some (nz (rd ns o) { g with pc := g.pc + 2, a := rd ns o, cyc := g.cyc + 3 }, ns)
noncomputable def f_133 (g : Rg) (ns : List Int) : Option (Rg × List Int) :=
  let o := rd ns (g.pc + 1)
  some ({ g with pc := g.pc + 2, cyc := g.cyc + 3 }, ns.set o.toNat g.a)
noncomputable def f_213 (g : Rg) (ns : List Int) : Option (Rg × List Int) :=
  let o := rd ns (g.pc + 1)
  let z := (g.x + o) % 256
  some ({ g with pc := g.pc + 2, C := decide (rd ns z ≤ g.a), Z := decide (g.a = rd ns z), N := decide (Builtin.bitAnd (g.a - rd ns z) 128 ≠ 0), cyc := g.cyc + 4 }, ns)
noncomputable def f_169 (g : Rg) (ns : List Int) : Option (Rg × List Int) :=
  let o := rd ns (g.pc + 1)
  some (nz o { g with pc := g.pc + 2, a := o, cyc := g.cyc + 2 }, ns)
noncomputable def f_42 (g : Rg) (ns : List Int) : Option (Rg × List Int) :=
  if g.a = 0 then some (nz (if g.C then 1 else 0) { g with pc := g.pc + 1, a := if g.C then 1 else 0, C := false, cyc := g.cyc + 2 }, ns) else none
noncomputable def f_73 (g : Rg) (ns : List Int) : Option (Rg × List Int) :=
  let o := rd ns (g.pc + 1)
  some (nz (Builtin.bitXor g.a o) { g with pc := g.pc + 2, a := Builtin.bitXor g.a o, cyc := g.cyc + 2 }, ns)
noncomputable def f_10 (g : Rg) (ns : List Int) : Option (Rg × List Int) :=
  some (nz (g.a * 2 % 256) { g with pc := g.pc + 1, a := g.a * 2 % 256, C := decide (128 ≤ g.a), cyc := g.cyc + 2 }, ns)
noncomputable def f_118 (g : Rg) (ns : List Int) : Option (Rg × List Int) :=
  let o := rd ns (g.pc + 1)
  let z := (g.x + o) % 256
  some (nz (rd ns z / 2 + if g.C then 128 else 0) { g with pc := g.pc + 2, C := decide (rd ns z % 2 = 1), cyc := g.cyc + 6 }, ns.set z.toNat (rd ns z / 2 + if g.C then 128 else 0))
noncomputable def f_214 (g : Rg) (ns : List Int) : Option (Rg × List Int) :=
  let o := rd ns (g.pc + 1)
  let z := (g.x + o) % 256
  some (nz ((rd ns z - 1) % 256) { g with pc := g.pc + 2, cyc := g.cyc + 6 }, ns.set z.toNat ((rd ns z - 1) % 256))
noncomputable def tbl : List (Int × (Rg → List Int → Option (Rg × List Int))) := [(185, f_185), (200, f_200), (41, f_41), (141, f_141), (108, f_108), (202, f_202), (149, f_149), (76, f_76), (181, f_181), (24, f_24), (117, f_117), (232, f_232), (56, f_56), (245, f_245), (72, f_72), (104, f_104), (168, f_168), (240, f_240), (208, f_208), (152, f_152), (136, f_136), (165, f_165), (133, f_133), (213, f_213), (169, f_169), (42, f_42), (73, f_73), (10, f_10), (118, f_118), (214, f_214)]
noncomputable abbrev codes : List Int := [185, 200, 41, 141, 108, 202, 149, 76, 181, 24, 117, 232, 56, 245, 72, 104, 168, 240, 208, 152, 136, 165, 133, 213, 169, 42, 73, 10, 118, 214]
noncomputable def mst (c : Int) (g : Rg) (ns : List Int) : Option (Rg × List Int) := (tbl.lookup c).bind fun f => f g ns
noncomputable def mstep (g : Rg) (ns : List Int) : Option (Rg × List Int) :=
  if ¬ (0 ≤ g.pc ∧ g.pc < 1000) then none else mst (rd ns g.pc) g ns
theorem mstep_eq {g : Rg} {ns : List Int} (hp : 0 ≤ g.pc ∧ g.pc < 1000) : mstep g ns = mst (rd ns g.pc) g ns := if_neg (not_not_intro hp)
theorem ms_at {o c : Int} {f : Rg → List Int → Option (Rg × List Int)} {g : Rg} {ns : List Int} {r : Option (Rg × List Int)} (e : o = c) (hl : tbl.lookup c = some f) (h : f g ns = r) : mst o g ns = r := by
  subst e
  show (tbl.lookup o).bind _ = r
  rw [hl]
  exact h
theorem mst_at {c : Int} {f : Rg → List Int → Option (Rg × List Int)} {g : Rg} {ns : List Int} {r : Option (Rg × List Int)} (h : mst c g ns = r) (hl : tbl.lookup c = some f) : f g ns = r := by
  rw [← ms_at rfl hl rfl]; exact h
theorem look_mem {α : Type} {c : Int} {f : α} : ∀ {l : List (Int × α)}, l.lookup c = some f → (c, f) ∈ l
  | (d, e) :: l, h => by
    rw [List.lookup_cons] at h
    cases q : c == d with
    | true => rw [q] at h; obtain rfl := Option.some.inj h; obtain rfl := eq_of_beq q; exact .head _
    | false => rw [q] at h; exact .tail _ (look_mem h)
theorem ms_none {c : Int} {g : Rg} {ns : List Int} (e : tbl.lookup c = none) : mst c g ns = none := by
  show (tbl.lookup c).bind _ = none
  rw [e]; rfl
theorem mst_some {c : Int} {g : Rg} {ns : List Int} {r : Rg × List Int} (h : mst c g ns = some r) : ∃ f, (c, f) ∈ tbl ∧ f g ns = some r := by
  cases e : tbl.lookup c with
  | none => rw [ms_none e] at h; cases h
  | some f => exact ⟨f, look_mem e, mst_at h e⟩
theorem mst_code {c : Int} {g : Rg} {ns : List Int} {r : Rg × List Int} (h : mst c g ns = some r) : c ∈ codes := by
  obtain ⟨f, hf, _⟩ := mst_some h
  exact List.mem_map_of_mem (f := Prod.fst) hf
noncomputable def mrun : Nat → Rg → List Int → Option (Rg × List Int)
  | 0, _, _ => none
  | n + 1, g, ns => match mstep g ns with
    | none => none
    | some (g', ns') => if g'.pc = 544 then some (g', ns') else mrun n g' ns'
noncomputable def code (q1 q2 q3 : Int) : List Int := [44, 2, 54, 2, 65, 2, 76, 2, 84, 2, 97, 2, 101, 2, 109, 2, 116, 2, 125, 2, 136, 2, 141, 2, 153, 2, 167, 2, 182, 2, 190, 2, 185, 0, 3, 200, 41, 30, 141, 42, 2, 108, q1, 2, 185, 0, 3, 200, 202, 149, 0, 76, 32, 2, 181, 0, 24, 117, 1, 232, 149, 0, 76, 32, 2, 181, 1, 56, 245, 0, 232, 149, 0, 76, 32, 2, 181, 0, 202, 149, 0, 76, 32, 2, 181, 0, 72, 181, 1, 149, 0, 104, 149, 1, 76, 32, 2, 232, 76, 32, 2, 181, 1, 202, 149, 0, 76, 32, 2, 185, 0, 3, 168, 76, 32, 2, 232, 181, 255, 240, 244, 200, 76, 32, 2, 200, 152, 72, 136, 185, 0, 3, 168, 76, 32, 2, 104, 168, 76, 32, 2, 181, 0, 141, 147, 2, 165, q2, 149, 0, 76, 32, 2, 181, 0, 141, 161, 2, 181, 1, 133, q3, 232, 232, 76, 32, 2, 181, 1, 213, 0, 169, 0, 42, 73, 1, 232, 149, 0, 76, 32, 2, 181, 0, 10, 118, 0, 76, 32, 2, 214, 0, 208, 171, 200, 232, 76, 32, 2, 0, 0, 0, 0, 0, 0, 0, 0, 0, 0, 0, 0, 0, 0, 0, 0, 0, 0, 0, 0, 0, 0, 0, 0, 0, 0, 0, 0, 0, 0, 0, 0, 0, 0, 0, 0, 0, 0, 0, 0, 0, 0, 0, 0, 0, 0, 0, 0, 0, 0, 0, 0, 0, 0, 0, 0, 0]
noncomputable def mem (cells calls : List Int) (q1 q2 q3 : Int) (page : List Int) : List Int := cells ++ (calls ++ (code q1 q2 q3 ++ page))
structure Lens (cells calls page : List Int) : Prop where
  c : cells.length = 256
  k : calls.length = 256
  p : page.length = 256
theorem code_len (q1 q2 q3 : Int) : (code q1 q2 q3).length = 256 := rfl
section
variable {cells calls page : List Int} {q1 q2 q3 i v : Int} (H : Lens cells calls page)
include H
theorem rd_cells (h0 : 0 ≤ i) (h1 : i < 256) : rd (mem cells calls q1 q2 q3 page) i = rd cells i := by
  unfold rd mem
  rw [List.getD_eq_getElem?_getD, List.getD_eq_getElem?_getD, List.getElem?_append_left (by rw [H.c]; omega)]
theorem rd_calls (h0 : 0 ≤ i) (h1 : i < 256) : rd (mem cells calls q1 q2 q3 page) (i + 256) = rd calls i := by
  unfold rd mem
  rw [List.getD_eq_getElem?_getD, List.getD_eq_getElem?_getD, List.getElem?_append_right (by rw [H.c]; omega), List.getElem?_append_left (by rw [H.c, H.k]; omega), H.c]
  congr 2; omega
theorem rd_code (k : Nat) (e : i.toNat = 512 + k) (hk : k < 256) : rd (mem cells calls q1 q2 q3 page) i = (code q1 q2 q3).getD k 0 := by
  unfold rd mem
  rw [List.getD_eq_getElem?_getD, List.getD_eq_getElem?_getD, List.getElem?_append_right (by rw [H.c]; omega), List.getElem?_append_right (by rw [H.c, H.k]; omega), List.getElem?_append_left (by rw [H.c, H.k, code_len]; omega), H.c, H.k]
  congr 2; omega
theorem rd_page (h0 : 0 ≤ i) (h1 : i < 256) : rd (mem cells calls q1 q2 q3 page) (768 + i) = rd page i := by
  unfold rd mem
  rw [List.getD_eq_getElem?_getD, List.getD_eq_getElem?_getD, List.getElem?_append_right (by rw [H.c]; omega), List.getElem?_append_right (by rw [H.c, H.k]; omega), List.getElem?_append_right (by rw [H.c, H.k, code_len]; omega), H.c, H.k, code_len]
  congr 2; omega
theorem set_cells (h0 : 0 ≤ i) (h1 : i < 256) : (mem cells calls q1 q2 q3 page).set i.toNat v = mem (cells.set i.toNat v) calls q1 q2 q3 page := by
  unfold mem
  rw [List.set_append_left _ _ (by rw [H.c]; omega)]
theorem set_calls (h0 : 0 ≤ i) (h1 : i < 256) : (mem cells calls q1 q2 q3 page).set (i + 256).toNat v = mem cells (calls.set i.toNat v) q1 q2 q3 page := by
  unfold mem
  rw [List.set_append_right _ _ (by rw [H.c]; omega), List.set_append_left _ _ (by rw [H.c, H.k]; omega), H.c]
  congr 3; omega
theorem set_code (k : Nat) (e : i.toNat = 512 + k) (hk : k < 256) : (mem cells calls q1 q2 q3 page).set i.toNat v = cells ++ (calls ++ ((code q1 q2 q3).set k v ++ page)) := by
  unfold mem
  rw [List.set_append_right _ _ (by rw [H.c]; omega), List.set_append_right _ _ (by rw [H.c, H.k]; omega), List.set_append_left _ _ (by rw [H.c, H.k, code_len]; omega), H.c, H.k]
  congr 4; omega
theorem set_q1 : (mem cells calls q1 q2 q3 page).set (554 : Int).toNat v = mem cells calls v q2 q3 page := (set_code H 42 rfl (by decide)).trans rfl
theorem set_q2 : (mem cells calls q1 q2 q3 page).set (659 : Int).toNat v = mem cells calls q1 v q3 page := (set_code H 147 rfl (by decide)).trans rfl
theorem set_q3 : (mem cells calls q1 q2 q3 page).set (673 : Int).toNat v = mem cells calls q1 q2 v page := (set_code H 161 rfl (by decide)).trans rfl
theorem lens_cells (n : Nat) : Lens (cells.set n v) calls page := ⟨by rw [List.length_set]; exact H.c, H.k, H.p⟩
theorem lens_calls (n : Nat) : Lens cells (calls.set n v) page := ⟨H.c, by rw [List.length_set]; exact H.k, H.p⟩
end
theorem run_go {n : Nat} {g g' : Rg} {ns ns' : List Int} {r : Option (Rg × List Int)} (h : mstep g ns = some (g', ns')) (hp : g'.pc ≠ 544) (k : mrun n g' ns' = r) : mrun (n + 1) g ns = r := by
  unfold mrun; rw [h]; dsimp only; rw [if_neg hp]; exact k
theorem run_end {n : Nat} {g g' : Rg} {ns ns' : List Int} (h : mstep g ns = some (g', ns')) (hp : g'.pc = 544) : mrun (n + 1) g ns = some (g', ns') := by
  unfold mrun; rw [h]; dsimp only; rw [if_pos hp]
end
section
open PySem PyProof.Rows
set_option maxRecDepth 100000
theorem ms_185 {cyc pc sp a x y : Int} {C Z V N : Bool} {ns : List Int} {v : Int} (hp : 0 ≤ pc ∧ pc < 1000) (e : rd ns pc = 185) (e1 : rd ns (pc + 1) = 0) (e2 : rd ns (pc + 1 + 1) = 3) (ev : rd ns (768 + y) = v) :
    mstep ⟨cyc, pc, sp, a, x, y, C, Z, V, N⟩ ns = some (⟨cyc + 4, pc + 3, sp, v, x, y, C, decide (v = 0), V, decide (128 ≤ v)⟩, ns) := by
  subst_vars
  first
    | exact (mstep_eq hp).trans (ms_at e rfl rfl)
    | exact (mstep_eq hp).trans (ms_at e rfl (if_pos (by assumption)))
    | exact (mstep_eq hp).trans (ms_at e rfl ((if_pos (by assumption)).trans (if_pos (by assumption))))
    | exact (mstep_eq hp).trans (ms_at e rfl (if_pos rfl))
    | exact (mstep_eq hp).trans (ms_at e rfl ((if_pos rfl).trans (if_pos (by assumption))))
    | exact (mstep_eq hp).trans (ms_at e rfl (if_pos ⟨by assumption, by assumption⟩))
    | exact (mstep_eq hp).trans (ms_at e rfl ((if_pos rfl).trans (if_pos ⟨by assumption, by assumption, by assumption, by assumption, by assumption⟩)))
    | exact (mstep_eq hp).trans (ms_at e rfl (if_neg (by decide)))
theorem ms_200 {cyc pc sp a x y : Int} {C Z V N : Bool} {ns : List Int} {v : Int} (hp : 0 ≤ pc ∧ pc < 1000) (e : rd ns pc = 200) (ev : (y + 1) % 256 = v) :
    mstep ⟨cyc, pc, sp, a, x, y, C, Z, V, N⟩ ns = some (⟨cyc + 2, pc + 1, sp, a, x, v, C, decide (v = 0), V, decide (128 ≤ v)⟩, ns) := by
  subst_vars
  first
    | exact (mstep_eq hp).trans (ms_at e rfl rfl)
    | exact (mstep_eq hp).trans (ms_at e rfl (if_pos (by assumption)))
    | exact (mstep_eq hp).trans (ms_at e rfl ((if_pos (by assumption)).trans (if_pos (by assumption))))
    | exact (mstep_eq hp).trans (ms_at e rfl (if_pos rfl))
    | exact (mstep_eq hp).trans (ms_at e rfl ((if_pos rfl).trans (if_pos (by assumption))))
    | exact (mstep_eq hp).trans (ms_at e rfl (if_pos ⟨by assumption, by assumption⟩))
    | exact (mstep_eq hp).trans (ms_at e rfl ((if_pos rfl).trans (if_pos ⟨by assumption, by assumption, by assumption, by assumption, by assumption⟩)))
    | exact (mstep_eq hp).trans (ms_at e rfl (if_neg (by decide)))
theorem ms_136 {cyc pc sp a x y : Int} {C Z V N : Bool} {ns : List Int} {v : Int} (hp : 0 ≤ pc ∧ pc < 1000) (e : rd ns pc = 136) (ev : (y - 1) % 256 = v) :
    mstep ⟨cyc, pc, sp, a, x, y, C, Z, V, N⟩ ns = some (⟨cyc + 2, pc + 1, sp, a, x, v, C, decide (v = 0), V, decide (128 ≤ v)⟩, ns) := by
  subst_vars
  first
    | exact (mstep_eq hp).trans (ms_at e rfl rfl)
    | exact (mstep_eq hp).trans (ms_at e rfl (if_pos (by assumption)))
    | exact (mstep_eq hp).trans (ms_at e rfl ((if_pos (by assumption)).trans (if_pos (by assumption))))
    | exact (mstep_eq hp).trans (ms_at e rfl (if_pos rfl))
    | exact (mstep_eq hp).trans (ms_at e rfl ((if_pos rfl).trans (if_pos (by assumption))))
    | exact (mstep_eq hp).trans (ms_at e rfl (if_pos ⟨by assumption, by assumption⟩))
    | exact (mstep_eq hp).trans (ms_at e rfl ((if_pos rfl).trans (if_pos ⟨by assumption, by assumption, by assumption, by assumption, by assumption⟩)))
    | exact (mstep_eq hp).trans (ms_at e rfl (if_neg (by decide)))
theorem ms_232 {cyc pc sp a x y : Int} {C Z V N : Bool} {ns : List Int} {v : Int} (hp : 0 ≤ pc ∧ pc < 1000) (e : rd ns pc = 232) (ev : (x + 1) % 256 = v) :
    mstep ⟨cyc, pc, sp, a, x, y, C, Z, V, N⟩ ns = some (⟨cyc + 2, pc + 1, sp, a, v, y, C, decide (v = 0), V, decide (128 ≤ v)⟩, ns) := by
  subst_vars
  first
    | exact (mstep_eq hp).trans (ms_at e rfl rfl)
    | exact (mstep_eq hp).trans (ms_at e rfl (if_pos (by assumption)))
    | exact (mstep_eq hp).trans (ms_at e rfl ((if_pos (by assumption)).trans (if_pos (by assumption))))
    | exact (mstep_eq hp).trans (ms_at e rfl (if_pos rfl))
    | exact (mstep_eq hp).trans (ms_at e rfl ((if_pos rfl).trans (if_pos (by assumption))))
    | exact (mstep_eq hp).trans (ms_at e rfl (if_pos ⟨by assumption, by assumption⟩))
    | exact (mstep_eq hp).trans (ms_at e rfl ((if_pos rfl).trans (if_pos ⟨by assumption, by assumption, by assumption, by assumption, by assumption⟩)))
    | exact (mstep_eq hp).trans (ms_at e rfl (if_neg (by decide)))
theorem ms_202 {cyc pc sp a x y : Int} {C Z V N : Bool} {ns : List Int} {v : Int} (hp : 0 ≤ pc ∧ pc < 1000) (e : rd ns pc = 202) (ev : (x - 1) % 256 = v) :
    mstep ⟨cyc, pc, sp, a, x, y, C, Z, V, N⟩ ns = some (⟨cyc + 2, pc + 1, sp, a, v, y, C, decide (v = 0), V, decide (128 ≤ v)⟩, ns) := by
  subst_vars
  first
    | exact (mstep_eq hp).trans (ms_at e rfl rfl)
    | exact (mstep_eq hp).trans (ms_at e rfl (if_pos (by assumption)))
    | exact (mstep_eq hp).trans (ms_at e rfl ((if_pos (by assumption)).trans (if_pos (by assumption))))
    | exact (mstep_eq hp).trans (ms_at e rfl (if_pos rfl))
    | exact (mstep_eq hp).trans (ms_at e rfl ((if_pos rfl).trans (if_pos (by assumption))))
    | exact (mstep_eq hp).trans (ms_at e rfl (if_pos ⟨by assumption, by assumption⟩))
    | exact (mstep_eq hp).trans (ms_at e rfl ((if_pos rfl).trans (if_pos ⟨by assumption, by assumption, by assumption, by assumption, by assumption⟩)))
    | exact (mstep_eq hp).trans (ms_at e rfl (if_neg (by decide)))
theorem ms_41 {cyc pc sp a x y : Int} {C Z V N : Bool} {ns : List Int} {o v : Int} (hp : 0 ≤ pc ∧ pc < 1000) (e : rd ns pc = 41) (e1 : rd ns (pc + 1) = o) (ev : Builtin.bitAnd a o = v) :
    mstep ⟨cyc, pc, sp, a, x, y, C, Z, V, N⟩ ns = some (⟨cyc + 2, pc + 2, sp, v, x, y, C, decide (v = 0), V, decide (128 ≤ v)⟩, ns) := by
  subst_vars
  first
    | exact (mstep_eq hp).trans (ms_at e rfl rfl)
    | exact (mstep_eq hp).trans (ms_at e rfl (if_pos (by assumption)))
    | exact (mstep_eq hp).trans (ms_at e rfl ((if_pos (by assumption)).trans (if_pos (by assumption))))
    | exact (mstep_eq hp).trans (ms_at e rfl (if_pos rfl))
    | exact (mstep_eq hp).trans (ms_at e rfl ((if_pos rfl).trans (if_pos (by assumption))))
    | exact (mstep_eq hp).trans (ms_at e rfl (if_pos ⟨by assumption, by assumption⟩))
    | exact (mstep_eq hp).trans (ms_at e rfl ((if_pos rfl).trans (if_pos ⟨by assumption, by assumption, by assumption, by assumption, by assumption⟩)))
    | exact (mstep_eq hp).trans (ms_at e rfl (if_neg (by decide)))
theorem ms_73 {cyc pc sp a x y : Int} {C Z V N : Bool} {ns : List Int} {o v : Int} (hp : 0 ≤ pc ∧ pc < 1000) (e : rd ns pc = 73) (e1 : rd ns (pc + 1) = o) (ev : Builtin.bitXor a o = v) :
    mstep ⟨cyc, pc, sp, a, x, y, C, Z, V, N⟩ ns = some (⟨cyc + 2, pc + 2, sp, v, x, y, C, decide (v = 0), V, decide (128 ≤ v)⟩, ns) := by
  subst_vars
  first
    | exact (mstep_eq hp).trans (ms_at e rfl rfl)
    | exact (mstep_eq hp).trans (ms_at e rfl (if_pos (by assumption)))
    | exact (mstep_eq hp).trans (ms_at e rfl ((if_pos (by assumption)).trans (if_pos (by assumption))))
    | exact (mstep_eq hp).trans (ms_at e rfl (if_pos rfl))
    | exact (mstep_eq hp).trans (ms_at e rfl ((if_pos rfl).trans (if_pos (by assumption))))
    | exact (mstep_eq hp).trans (ms_at e rfl (if_pos ⟨by assumption, by assumption⟩))
    | exact (mstep_eq hp).trans (ms_at e rfl ((if_pos rfl).trans (if_pos ⟨by assumption, by assumption, by assumption, by assumption, by assumption⟩)))
    | exact (mstep_eq hp).trans (ms_at e rfl (if_neg (by decide)))
theorem ms_169 {cyc pc sp a x y : Int} {C Z V N : Bool} {ns : List Int} {o : Int} (hp : 0 ≤ pc ∧ pc < 1000) (e : rd ns pc = 169) (e1 : rd ns (pc + 1) = o) :
    mstep ⟨cyc, pc, sp, a, x, y, C, Z, V, N⟩ ns = some (⟨cyc + 2, pc + 2, sp, o, x, y, C, decide (o = 0), V, decide (128 ≤ o)⟩, ns) := by
  subst_vars
  first
    | exact (mstep_eq hp).trans (ms_at e rfl rfl)
    | exact (mstep_eq hp).trans (ms_at e rfl (if_pos (by assumption)))
    | exact (mstep_eq hp).trans (ms_at e rfl ((if_pos (by assumption)).trans (if_pos (by assumption))))
    | exact (mstep_eq hp).trans (ms_at e rfl (if_pos rfl))
    | exact (mstep_eq hp).trans (ms_at e rfl ((if_pos rfl).trans (if_pos (by assumption))))
    | exact (mstep_eq hp).trans (ms_at e rfl (if_pos ⟨by assumption, by assumption⟩))
    | exact (mstep_eq hp).trans (ms_at e rfl ((if_pos rfl).trans (if_pos ⟨by assumption, by assumption, by assumption, by assumption, by assumption⟩)))
    | exact (mstep_eq hp).trans (ms_at e rfl (if_neg (by decide)))
theorem ms_141 {cyc pc sp a x y : Int} {C Z V N : Bool} {ns : List Int} {o o2 w : Int} (hp : 0 ≤ pc ∧ pc < 1000) (e : rd ns pc = 141) (e1 : rd ns (pc + 1) = o)(e2 : rd ns (pc + 1 + 1) = o2) (ew : o + o2 * 256 = w) (hw : w < 1024) :
    mstep ⟨cyc, pc, sp, a, x, y, C, Z, V, N⟩ ns = some (⟨cyc + 4, pc + 3, sp, a, x, y, C, Z, V, N⟩, ns.set w.toNat a) := by
  subst_vars
  first
    | exact (mstep_eq hp).trans (ms_at e rfl rfl)
    | exact (mstep_eq hp).trans (ms_at e rfl (if_pos (by assumption)))
    | exact (mstep_eq hp).trans (ms_at e rfl ((if_pos (by assumption)).trans (if_pos (by assumption))))
    | exact (mstep_eq hp).trans (ms_at e rfl (if_pos rfl))
    | exact (mstep_eq hp).trans (ms_at e rfl ((if_pos rfl).trans (if_pos (by assumption))))
    | exact (mstep_eq hp).trans (ms_at e rfl (if_pos ⟨by assumption, by assumption⟩))
    | exact (mstep_eq hp).trans (ms_at e rfl ((if_pos rfl).trans (if_pos ⟨by assumption, by assumption, by assumption, by assumption, by assumption⟩)))
    | exact (mstep_eq hp).trans (ms_at e rfl (if_neg (by decide)))
theorem ms_108 {cyc pc sp a x y : Int} {C Z V N : Bool} {ns : List Int} {o o2 w lo hi p2 : Int} (hp : 0 ≤ pc ∧ pc < 1000) (e : rd ns pc = 108) (e1 : rd ns (pc + 1) = o)(e2 : rd ns (pc + 1 + 1) = o2) (ew : o + o2 * 256 = w) (hw : w < 1023 ∧ w % 256 < 255) (el : rd ns w = lo) (eh : rd ns (w + 1) = hi) (ep : lo + hi * 256 = p2) (hq : p2 < 65536) :
    mstep ⟨cyc, pc, sp, a, x, y, C, Z, V, N⟩ ns = some (⟨cyc + 5, p2, sp, a, x, y, C, Z, V, N⟩, ns) := by
  subst_vars
  first
    | exact (mstep_eq hp).trans (ms_at e rfl rfl)
    | exact (mstep_eq hp).trans (ms_at e rfl (if_pos (by assumption)))
    | exact (mstep_eq hp).trans (ms_at e rfl ((if_pos (by assumption)).trans (if_pos (by assumption))))
    | exact (mstep_eq hp).trans (ms_at e rfl (if_pos rfl))
    | exact (mstep_eq hp).trans (ms_at e rfl ((if_pos rfl).trans (if_pos (by assumption))))
    | exact (mstep_eq hp).trans (ms_at e rfl (if_pos ⟨by assumption, by assumption⟩))
    | exact (mstep_eq hp).trans (ms_at e rfl ((if_pos rfl).trans (if_pos ⟨by assumption, by assumption, by assumption, by assumption, by assumption⟩)))
    | exact (mstep_eq hp).trans (ms_at e rfl (if_neg (by decide)))
theorem ms_76 {cyc pc sp a x y : Int} {C Z V N : Bool} {ns : List Int} {o o2 w : Int} (hp : 0 ≤ pc ∧ pc < 1000) (e : rd ns pc = 76) (e1 : rd ns (pc + 1) = o)(e2 : rd ns (pc + 1 + 1) = o2) (ew : o + o2 * 256 = w) (hw : w < 65536) :
    mstep ⟨cyc, pc, sp, a, x, y, C, Z, V, N⟩ ns = some (⟨cyc + 3, w, sp, a, x, y, C, Z, V, N⟩, ns) := by
  subst_vars
  first
    | exact (mstep_eq hp).trans (ms_at e rfl rfl)
    | exact (mstep_eq hp).trans (ms_at e rfl (if_pos (by assumption)))
    | exact (mstep_eq hp).trans (ms_at e rfl ((if_pos (by assumption)).trans (if_pos (by assumption))))
    | exact (mstep_eq hp).trans (ms_at e rfl (if_pos rfl))
    | exact (mstep_eq hp).trans (ms_at e rfl ((if_pos rfl).trans (if_pos (by assumption))))
    | exact (mstep_eq hp).trans (ms_at e rfl (if_pos ⟨by assumption, by assumption⟩))
    | exact (mstep_eq hp).trans (ms_at e rfl ((if_pos rfl).trans (if_pos ⟨by assumption, by assumption, by assumption, by assumption, by assumption⟩)))
    | exact (mstep_eq hp).trans (ms_at e rfl (if_neg (by decide)))
theorem ms_149 {cyc pc sp a x y : Int} {C Z V N : Bool} {ns : List Int} {o z : Int} (hp : 0 ≤ pc ∧ pc < 1000) (e : rd ns pc = 149) (e1 : rd ns (pc + 1) = o)(ez : (x + o) % 256 = z) :
    mstep ⟨cyc, pc, sp, a, x, y, C, Z, V, N⟩ ns = some (⟨cyc + 4, pc + 2, sp, a, x, y, C, Z, V, N⟩, ns.set z.toNat a) := by
  subst_vars
  first
    | exact (mstep_eq hp).trans (ms_at e rfl rfl)
    | exact (mstep_eq hp).trans (ms_at e rfl (if_pos (by assumption)))
    | exact (mstep_eq hp).trans (ms_at e rfl ((if_pos (by assumption)).trans (if_pos (by assumption))))
    | exact (mstep_eq hp).trans (ms_at e rfl (if_pos rfl))
    | exact (mstep_eq hp).trans (ms_at e rfl ((if_pos rfl).trans (if_pos (by assumption))))
    | exact (mstep_eq hp).trans (ms_at e rfl (if_pos ⟨by assumption, by assumption⟩))
    | exact (mstep_eq hp).trans (ms_at e rfl ((if_pos rfl).trans (if_pos ⟨by assumption, by assumption, by assumption, by assumption, by assumption⟩)))
    | exact (mstep_eq hp).trans (ms_at e rfl (if_neg (by decide)))
theorem ms_181 {cyc pc sp a x y : Int} {C Z V N : Bool} {ns : List Int} {o z v : Int} (hp : 0 ≤ pc ∧ pc < 1000) (e : rd ns pc = 181) (e1 : rd ns (pc + 1) = o)(ez : (x + o) % 256 = z)(ev : rd ns z = v) :
    mstep ⟨cyc, pc, sp, a, x, y, C, Z, V, N⟩ ns = some (⟨cyc + 4, pc + 2, sp, v, x, y, C, decide (v = 0), V, decide (128 ≤ v)⟩, ns) := by
  subst_vars
  first
    | exact (mstep_eq hp).trans (ms_at e rfl rfl)
    | exact (mstep_eq hp).trans (ms_at e rfl (if_pos (by assumption)))
    | exact (mstep_eq hp).trans (ms_at e rfl ((if_pos (by assumption)).trans (if_pos (by assumption))))
    | exact (mstep_eq hp).trans (ms_at e rfl (if_pos rfl))
    | exact (mstep_eq hp).trans (ms_at e rfl ((if_pos rfl).trans (if_pos (by assumption))))
    | exact (mstep_eq hp).trans (ms_at e rfl (if_pos ⟨by assumption, by assumption⟩))
    | exact (mstep_eq hp).trans (ms_at e rfl ((if_pos rfl).trans (if_pos ⟨by assumption, by assumption, by assumption, by assumption, by assumption⟩)))
    | exact (mstep_eq hp).trans (ms_at e rfl (if_neg (by decide)))
theorem ms_24 {cyc pc sp a x y : Int} {C Z V N : Bool} {ns : List Int}  (hp : 0 ≤ pc ∧ pc < 1000) (e : rd ns pc = 24)  :
    mstep ⟨cyc, pc, sp, a, x, y, C, Z, V, N⟩ ns = some (⟨cyc + 2, pc + 1, sp, a, x, y, false, Z, V, N⟩, ns) := by
  subst_vars
  first
    | exact (mstep_eq hp).trans (ms_at e rfl rfl)
    | exact (mstep_eq hp).trans (ms_at e rfl (if_pos (by assumption)))
    | exact (mstep_eq hp).trans (ms_at e rfl ((if_pos (by assumption)).trans (if_pos (by assumption))))
    | exact (mstep_eq hp).trans (ms_at e rfl (if_pos rfl))
    | exact (mstep_eq hp).trans (ms_at e rfl ((if_pos rfl).trans (if_pos (by assumption))))
    | exact (mstep_eq hp).trans (ms_at e rfl (if_pos ⟨by assumption, by assumption⟩))
    | exact (mstep_eq hp).trans (ms_at e rfl ((if_pos rfl).trans (if_pos ⟨by assumption, by assumption, by assumption, by assumption, by assumption⟩)))
    | exact (mstep_eq hp).trans (ms_at e rfl (if_neg (by decide)))
theorem ms_56 {cyc pc sp a x y : Int} {C Z V N : Bool} {ns : List Int}  (hp : 0 ≤ pc ∧ pc < 1000) (e : rd ns pc = 56)  :
    mstep ⟨cyc, pc, sp, a, x, y, C, Z, V, N⟩ ns = some (⟨cyc + 2, pc + 1, sp, a, x, y, true, Z, V, N⟩, ns) := by
  subst_vars
  first
    | exact (mstep_eq hp).trans (ms_at e rfl rfl)
    | exact (mstep_eq hp).trans (ms_at e rfl (if_pos (by assumption)))
    | exact (mstep_eq hp).trans (ms_at e rfl ((if_pos (by assumption)).trans (if_pos (by assumption))))
    | exact (mstep_eq hp).trans (ms_at e rfl (if_pos rfl))
    | exact (mstep_eq hp).trans (ms_at e rfl ((if_pos rfl).trans (if_pos (by assumption))))
    | exact (mstep_eq hp).trans (ms_at e rfl (if_pos ⟨by assumption, by assumption⟩))
    | exact (mstep_eq hp).trans (ms_at e rfl ((if_pos rfl).trans (if_pos ⟨by assumption, by assumption, by assumption, by assumption, by assumption⟩)))
    | exact (mstep_eq hp).trans (ms_at e rfl (if_neg (by decide)))
theorem ms_117 {cyc pc sp a x y : Int} {C Z V N : Bool} {ns : List Int} {o z v r : Int} (hp : 0 ≤ pc ∧ pc < 1000) (e : rd ns pc = 117) (e1 : rd ns (pc + 1) = o)(ez : (x + o) % 256 = z)(ev : rd ns z = v) (hC : C = false) (er : (v + a) % 256 = r) :
    mstep ⟨cyc, pc, sp, a, x, y, C, Z, V, N⟩ ns = some (⟨cyc + 4, pc + 2, sp, r, x, y, decide (255 < v + a), decide (r = 0), decide (Builtin.bitAnd (Builtin.bitAnd (Builtin.bitNot (Builtin.bitXor a v)) (Builtin.bitXor a (v + a))) 128 ≠ 0), decide (128 ≤ r)⟩, ns) := by
  subst_vars
  first
    | exact (mstep_eq hp).trans (ms_at e rfl rfl)
    | exact (mstep_eq hp).trans (ms_at e rfl (if_pos (by assumption)))
    | exact (mstep_eq hp).trans (ms_at e rfl ((if_pos (by assumption)).trans (if_pos (by assumption))))
    | exact (mstep_eq hp).trans (ms_at e rfl (if_pos rfl))
    | exact (mstep_eq hp).trans (ms_at e rfl ((if_pos rfl).trans (if_pos (by assumption))))
    | exact (mstep_eq hp).trans (ms_at e rfl (if_pos ⟨by assumption, by assumption⟩))
    | exact (mstep_eq hp).trans (ms_at e rfl ((if_pos rfl).trans (if_pos ⟨by assumption, by assumption, by assumption, by assumption, by assumption⟩)))
    | exact (mstep_eq hp).trans (ms_at e rfl (if_neg (by decide)))
theorem ms_245 {cyc pc sp a x y : Int} {C Z V N : Bool} {ns : List Int} {o z v r : Int} (hp : 0 ≤ pc ∧ pc < 1000) (e : rd ns pc = 245) (e1 : rd ns (pc + 1) = o)(ez : (x + o) % 256 = z)(ev : rd ns z = v) (hC : C = true) (er : (a - v) % 256 = r) :
    mstep ⟨cyc, pc, sp, a, x, y, C, Z, V, N⟩ ns = some (⟨cyc + 4, pc + 2, sp, r, x, y, decide (v ≤ a), decide (r = 0), decide (Builtin.bitAnd (Builtin.bitAnd (Builtin.bitXor a v) (Builtin.bitXor a (a + (255 - v) + 1))) 128 ≠ 0), decide (128 ≤ r)⟩, ns) := by
  subst_vars
  first
    | exact (mstep_eq hp).trans (ms_at e rfl rfl)
    | exact (mstep_eq hp).trans (ms_at e rfl (if_pos (by assumption)))
    | exact (mstep_eq hp).trans (ms_at e rfl ((if_pos (by assumption)).trans (if_pos (by assumption))))
    | exact (mstep_eq hp).trans (ms_at e rfl (if_pos rfl))
    | exact (mstep_eq hp).trans (ms_at e rfl ((if_pos rfl).trans (if_pos (by assumption))))
    | exact (mstep_eq hp).trans (ms_at e rfl (if_pos ⟨by assumption, by assumption⟩))
    | exact (mstep_eq hp).trans (ms_at e rfl ((if_pos rfl).trans (if_pos ⟨by assumption, by assumption, by assumption, by assumption, by assumption⟩)))
    | exact (mstep_eq hp).trans (ms_at e rfl (if_neg (by decide)))
theorem ms_72 {cyc pc sp a x y : Int} {C Z V N : Bool} {ns : List Int} {s2 : Int} (hp : 0 ≤ pc ∧ pc < 1000) (e : rd ns pc = 72) (es : (sp - 1) % 256 = s2) :
    mstep ⟨cyc, pc, sp, a, x, y, C, Z, V, N⟩ ns = some (⟨cyc + 3, pc + 1, s2, a, x, y, C, Z, V, N⟩, ns.set (sp + 256).toNat a) := by
  subst_vars
  first
    | exact (mstep_eq hp).trans (ms_at e rfl rfl)
    | exact (mstep_eq hp).trans (ms_at e rfl (if_pos (by assumption)))
    | exact (mstep_eq hp).trans (ms_at e rfl ((if_pos (by assumption)).trans (if_pos (by assumption))))
    | exact (mstep_eq hp).trans (ms_at e rfl (if_pos rfl))
    | exact (mstep_eq hp).trans (ms_at e rfl ((if_pos rfl).trans (if_pos (by assumption))))
    | exact (mstep_eq hp).trans (ms_at e rfl (if_pos ⟨by assumption, by assumption⟩))
    | exact (mstep_eq hp).trans (ms_at e rfl ((if_pos rfl).trans (if_pos ⟨by assumption, by assumption, by assumption, by assumption, by assumption⟩)))
    | exact (mstep_eq hp).trans (ms_at e rfl (if_neg (by decide)))
theorem ms_104 {cyc pc sp a x y : Int} {C Z V N : Bool} {ns : List Int} {s2 v : Int} (hp : 0 ≤ pc ∧ pc < 1000) (e : rd ns pc = 104) (es : (sp + 1) % 256 = s2) (ev : rd ns (s2 + 256) = v) :
    mstep ⟨cyc, pc, sp, a, x, y, C, Z, V, N⟩ ns = some (⟨cyc + 4, pc + 1, s2, v, x, y, C, decide (v = 0), V, decide (128 ≤ v)⟩, ns) := by
  subst_vars
  first
    | exact (mstep_eq hp).trans (ms_at e rfl rfl)
    | exact (mstep_eq hp).trans (ms_at e rfl (if_pos (by assumption)))
    | exact (mstep_eq hp).trans (ms_at e rfl ((if_pos (by assumption)).trans (if_pos (by assumption))))
    | exact (mstep_eq hp).trans (ms_at e rfl (if_pos rfl))
    | exact (mstep_eq hp).trans (ms_at e rfl ((if_pos rfl).trans (if_pos (by assumption))))
    | exact (mstep_eq hp).trans (ms_at e rfl (if_pos ⟨by assumption, by assumption⟩))
    | exact (mstep_eq hp).trans (ms_at e rfl ((if_pos rfl).trans (if_pos ⟨by assumption, by assumption, by assumption, by assumption, by assumption⟩)))
    | exact (mstep_eq hp).trans (ms_at e rfl (if_neg (by decide)))
theorem ms_168 {cyc pc sp a x y : Int} {C Z V N : Bool} {ns : List Int}  (hp : 0 ≤ pc ∧ pc < 1000) (e : rd ns pc = 168)  :
    mstep ⟨cyc, pc, sp, a, x, y, C, Z, V, N⟩ ns = some (⟨cyc + 2, pc + 1, sp, a, x, a, C, decide (a = 0), V, decide (128 ≤ a)⟩, ns) := by
  subst_vars
  first
    | exact (mstep_eq hp).trans (ms_at e rfl rfl)
    | exact (mstep_eq hp).trans (ms_at e rfl (if_pos (by assumption)))
    | exact (mstep_eq hp).trans (ms_at e rfl ((if_pos (by assumption)).trans (if_pos (by assumption))))
    | exact (mstep_eq hp).trans (ms_at e rfl (if_pos rfl))
    | exact (mstep_eq hp).trans (ms_at e rfl ((if_pos rfl).trans (if_pos (by assumption))))
    | exact (mstep_eq hp).trans (ms_at e rfl (if_pos ⟨by assumption, by assumption⟩))
    | exact (mstep_eq hp).trans (ms_at e rfl ((if_pos rfl).trans (if_pos ⟨by assumption, by assumption, by assumption, by assumption, by assumption⟩)))
    | exact (mstep_eq hp).trans (ms_at e rfl (if_neg (by decide)))
theorem ms_152 {cyc pc sp a x y : Int} {C Z V N : Bool} {ns : List Int}  (hp : 0 ≤ pc ∧ pc < 1000) (e : rd ns pc = 152)  :
    mstep ⟨cyc, pc, sp, a, x, y, C, Z, V, N⟩ ns = some (⟨cyc + 2, pc + 1, sp, y, x, y, C, decide (y = 0), V, decide (128 ≤ y)⟩, ns) := by
  subst_vars
  first
    | exact (mstep_eq hp).trans (ms_at e rfl rfl)
    | exact (mstep_eq hp).trans (ms_at e rfl (if_pos (by assumption)))
    | exact (mstep_eq hp).trans (ms_at e rfl ((if_pos (by assumption)).trans (if_pos (by assumption))))
    | exact (mstep_eq hp).trans (ms_at e rfl (if_pos rfl))
    | exact (mstep_eq hp).trans (ms_at e rfl ((if_pos rfl).trans (if_pos (by assumption))))
    | exact (mstep_eq hp).trans (ms_at e rfl (if_pos ⟨by assumption, by assumption⟩))
    | exact (mstep_eq hp).trans (ms_at e rfl ((if_pos rfl).trans (if_pos ⟨by assumption, by assumption, by assumption, by assumption, by assumption⟩)))
    | exact (mstep_eq hp).trans (ms_at e rfl (if_neg (by decide)))
theorem ms_165 {cyc pc sp a x y : Int} {C Z V N : Bool} {ns : List Int} {o v : Int} (hp : 0 ≤ pc ∧ pc < 1000) (e : rd ns pc = 165) (e1 : rd ns (pc + 1) = o) (ev : rd ns o = v) :
    mstep ⟨cyc, pc, sp, a, x, y, C, Z, V, N⟩ ns = some (⟨cyc + 3, pc + 2, sp, v, x, y, C, decide (v = 0), V, decide (128 ≤ v)⟩, ns) := by
  subst_vars
  first
    | exact (mstep_eq hp).trans (ms_at e rfl rfl)
    | exact (mstep_eq hp).trans (ms_at e rfl (if_pos (by assumption)))
    | exact (mstep_eq hp).trans (ms_at e rfl ((if_pos (by assumption)).trans (if_pos (by assumption))))
    | exact (mstep_eq hp).trans (ms_at e rfl (if_pos rfl))
    | exact (mstep_eq hp).trans (ms_at e rfl ((if_pos rfl).trans (if_pos (by assumption))))
    | exact (mstep_eq hp).trans (ms_at e rfl (if_pos ⟨by assumption, by assumption⟩))
    | exact (mstep_eq hp).trans (ms_at e rfl ((if_pos rfl).trans (if_pos ⟨by assumption, by assumption, by assumption, by assumption, by assumption⟩)))
    | exact (mstep_eq hp).trans (ms_at e rfl (if_neg (by decide)))
theorem ms_133 {cyc pc sp a x y : Int} {C Z V N : Bool} {ns : List Int} {o : Int} (hp : 0 ≤ pc ∧ pc < 1000) (e : rd ns pc = 133) (e1 : rd ns (pc + 1) = o) :
    mstep ⟨cyc, pc, sp, a, x, y, C, Z, V, N⟩ ns = some (⟨cyc + 3, pc + 2, sp, a, x, y, C, Z, V, N⟩, ns.set o.toNat a) := by
  subst_vars
  first
    | exact (mstep_eq hp).trans (ms_at e rfl rfl)
    | exact (mstep_eq hp).trans (ms_at e rfl (if_pos (by assumption)))
    | exact (mstep_eq hp).trans (ms_at e rfl ((if_pos (by assumption)).trans (if_pos (by assumption))))
    | exact (mstep_eq hp).trans (ms_at e rfl (if_pos rfl))
    | exact (mstep_eq hp).trans (ms_at e rfl ((if_pos rfl).trans (if_pos (by assumption))))
    | exact (mstep_eq hp).trans (ms_at e rfl (if_pos ⟨by assumption, by assumption⟩))
    | exact (mstep_eq hp).trans (ms_at e rfl ((if_pos rfl).trans (if_pos ⟨by assumption, by assumption, by assumption, by assumption, by assumption⟩)))
    | exact (mstep_eq hp).trans (ms_at e rfl (if_neg (by decide)))
theorem ms_213 {cyc pc sp a x y : Int} {C Z V N : Bool} {ns : List Int} {o z v : Int} (hp : 0 ≤ pc ∧ pc < 1000) (e : rd ns pc = 213) (e1 : rd ns (pc + 1) = o)(ez : (x + o) % 256 = z)(ev : rd ns z = v) :
    mstep ⟨cyc, pc, sp, a, x, y, C, Z, V, N⟩ ns = some (⟨cyc + 4, pc + 2, sp, a, x, y, decide (v ≤ a), decide (a = v), V, decide (Builtin.bitAnd (a - v) 128 ≠ 0)⟩, ns) := by
  subst_vars
  first
    | exact (mstep_eq hp).trans (ms_at e rfl rfl)
    | exact (mstep_eq hp).trans (ms_at e rfl (if_pos (by assumption)))
    | exact (mstep_eq hp).trans (ms_at e rfl ((if_pos (by assumption)).trans (if_pos (by assumption))))
    | exact (mstep_eq hp).trans (ms_at e rfl (if_pos rfl))
    | exact (mstep_eq hp).trans (ms_at e rfl ((if_pos rfl).trans (if_pos (by assumption))))
    | exact (mstep_eq hp).trans (ms_at e rfl (if_pos ⟨by assumption, by assumption⟩))
    | exact (mstep_eq hp).trans (ms_at e rfl ((if_pos rfl).trans (if_pos ⟨by assumption, by assumption, by assumption, by assumption, by assumption⟩)))
    | exact (mstep_eq hp).trans (ms_at e rfl (if_neg (by decide)))
theorem ms_42 {cyc pc sp a x y : Int} {C Z V N : Bool} {ns : List Int}  (hp : 0 ≤ pc ∧ pc < 1000) (e : rd ns pc = 42) (ha : a = 0) :
    mstep ⟨cyc, pc, sp, a, x, y, C, Z, V, N⟩ ns = some (⟨cyc + 2, pc + 1, sp, (if C then 1 else 0), x, y, false, decide ((if C = true then (1 : Int) else 0) = 0), V, decide (128 ≤ (if C = true then (1 : Int) else 0))⟩, ns) := by
  subst_vars
  first
    | exact (mstep_eq hp).trans (ms_at e rfl rfl)
    | exact (mstep_eq hp).trans (ms_at e rfl (if_pos (by assumption)))
    | exact (mstep_eq hp).trans (ms_at e rfl ((if_pos (by assumption)).trans (if_pos (by assumption))))
    | exact (mstep_eq hp).trans (ms_at e rfl (if_pos rfl))
    | exact (mstep_eq hp).trans (ms_at e rfl ((if_pos rfl).trans (if_pos (by assumption))))
    | exact (mstep_eq hp).trans (ms_at e rfl (if_pos ⟨by assumption, by assumption⟩))
    | exact (mstep_eq hp).trans (ms_at e rfl ((if_pos rfl).trans (if_pos ⟨by assumption, by assumption, by assumption, by assumption, by assumption⟩)))
    | exact (mstep_eq hp).trans (ms_at e rfl (if_neg (by decide)))
theorem ms_10 {cyc pc sp a x y : Int} {C Z V N : Bool} {ns : List Int} {v : Int} (hp : 0 ≤ pc ∧ pc < 1000) (e : rd ns pc = 10) (ev : a * 2 % 256 = v) :
    mstep ⟨cyc, pc, sp, a, x, y, C, Z, V, N⟩ ns = some (⟨cyc + 2, pc + 1, sp, v, x, y, decide (128 ≤ a), decide (v = 0), V, decide (128 ≤ v)⟩, ns) := by
  subst_vars
  first
    | exact (mstep_eq hp).trans (ms_at e rfl rfl)
    | exact (mstep_eq hp).trans (ms_at e rfl (if_pos (by assumption)))
    | exact (mstep_eq hp).trans (ms_at e rfl ((if_pos (by assumption)).trans (if_pos (by assumption))))
    | exact (mstep_eq hp).trans (ms_at e rfl (if_pos rfl))
    | exact (mstep_eq hp).trans (ms_at e rfl ((if_pos rfl).trans (if_pos (by assumption))))
    | exact (mstep_eq hp).trans (ms_at e rfl (if_pos ⟨by assumption, by assumption⟩))
    | exact (mstep_eq hp).trans (ms_at e rfl ((if_pos rfl).trans (if_pos ⟨by assumption, by assumption, by assumption, by assumption, by assumption⟩)))
    | exact (mstep_eq hp).trans (ms_at e rfl (if_neg (by decide)))
theorem ms_118 {cyc pc sp a x y : Int} {C Z V N : Bool} {ns : List Int} {o z v r : Int} (hp : 0 ≤ pc ∧ pc < 1000) (e : rd ns pc = 118) (e1 : rd ns (pc + 1) = o)(ez : (x + o) % 256 = z)(ev : rd ns z = v) (er : (v / 2 + if C then 128 else 0) = r) :
    mstep ⟨cyc, pc, sp, a, x, y, C, Z, V, N⟩ ns = some (⟨cyc + 6, pc + 2, sp, a, x, y, decide (v % 2 = 1), decide (r = 0), V, decide (128 ≤ r)⟩, ns.set z.toNat r) := by
  subst_vars
  first
    | exact (mstep_eq hp).trans (ms_at e rfl rfl)
    | exact (mstep_eq hp).trans (ms_at e rfl (if_pos (by assumption)))
    | exact (mstep_eq hp).trans (ms_at e rfl ((if_pos (by assumption)).trans (if_pos (by assumption))))
    | exact (mstep_eq hp).trans (ms_at e rfl (if_pos rfl))
    | exact (mstep_eq hp).trans (ms_at e rfl ((if_pos rfl).trans (if_pos (by assumption))))
    | exact (mstep_eq hp).trans (ms_at e rfl (if_pos ⟨by assumption, by assumption⟩))
    | exact (mstep_eq hp).trans (ms_at e rfl ((if_pos rfl).trans (if_pos ⟨by assumption, by assumption, by assumption, by assumption, by assumption⟩)))
    | exact (mstep_eq hp).trans (ms_at e rfl (if_neg (by decide)))
theorem ms_214 {cyc pc sp a x y : Int} {C Z V N : Bool} {ns : List Int} {o z v r : Int} (hp : 0 ≤ pc ∧ pc < 1000) (e : rd ns pc = 214) (e1 : rd ns (pc + 1) = o)(ez : (x + o) % 256 = z)(ev : rd ns z = v) (er : (v - 1) % 256 = r) :
    mstep ⟨cyc, pc, sp, a, x, y, C, Z, V, N⟩ ns = some (⟨cyc + 6, pc + 2, sp, a, x, y, C, decide (r = 0), V, decide (128 ≤ r)⟩, ns.set z.toNat r) := by
  subst_vars
  first
    | exact (mstep_eq hp).trans (ms_at e rfl rfl)
    | exact (mstep_eq hp).trans (ms_at e rfl (if_pos (by assumption)))
    | exact (mstep_eq hp).trans (ms_at e rfl ((if_pos (by assumption)).trans (if_pos (by assumption))))
    | exact (mstep_eq hp).trans (ms_at e rfl (if_pos rfl))
    | exact (mstep_eq hp).trans (ms_at e rfl ((if_pos rfl).trans (if_pos (by assumption))))
    | exact (mstep_eq hp).trans (ms_at e rfl (if_pos ⟨by assumption, by assumption⟩))
    | exact (mstep_eq hp).trans (ms_at e rfl ((if_pos rfl).trans (if_pos ⟨by assumption, by assumption, by assumption, by assumption, by assumption⟩)))
    | exact (mstep_eq hp).trans (ms_at e rfl (if_neg (by decide)))
theorem ms_240t {cyc pc sp a x y : Int} {C Z V N : Bool} {ns : List Int} {o p2 : Int} (hp : 0 ≤ pc ∧ pc < 1000) (e : rd ns pc = 240) (e1 : rd ns (pc + 1) = o) (hZ : Z = true) (hb : 128 ≤ o ∧ 512 ≤ pc + 2 ∧ pc + 2 < 768 ∧ 512 ≤ pc + o - 254 ∧ pc + o - 254 < 768) (ep : pc + o - 254 = p2) :
    mstep ⟨cyc, pc, sp, a, x, y, C, Z, V, N⟩ ns = some (⟨cyc + 3, p2, sp, a, x, y, C, Z, V, N⟩, ns) := by
  subst_vars
  first
    | exact (mstep_eq hp).trans (ms_at e rfl rfl)
    | exact (mstep_eq hp).trans (ms_at e rfl (if_pos (by assumption)))
    | exact (mstep_eq hp).trans (ms_at e rfl ((if_pos (by assumption)).trans (if_pos (by assumption))))
    | exact (mstep_eq hp).trans (ms_at e rfl (if_pos rfl))
    | exact (mstep_eq hp).trans (ms_at e rfl ((if_pos rfl).trans (if_pos (by assumption))))
    | exact (mstep_eq hp).trans (ms_at e rfl (if_pos ⟨by assumption, by assumption⟩))
    | exact (mstep_eq hp).trans (ms_at e rfl ((if_pos rfl).trans (if_pos ⟨by assumption, by assumption, by assumption, by assumption, by assumption⟩)))
    | exact (mstep_eq hp).trans (ms_at e rfl (if_neg (by decide)))
theorem ms_240f {cyc pc sp a x y : Int} {C Z V N : Bool} {ns : List Int}  (hp : 0 ≤ pc ∧ pc < 1000) (e : rd ns pc = 240) (hZ : Z = false) :
    mstep ⟨cyc, pc, sp, a, x, y, C, Z, V, N⟩ ns = some (⟨cyc + 2, pc + 2, sp, a, x, y, C, Z, V, N⟩, ns) := by
  subst_vars
  first
    | exact (mstep_eq hp).trans (ms_at e rfl rfl)
    | exact (mstep_eq hp).trans (ms_at e rfl (if_pos (by assumption)))
    | exact (mstep_eq hp).trans (ms_at e rfl ((if_pos (by assumption)).trans (if_pos (by assumption))))
    | exact (mstep_eq hp).trans (ms_at e rfl (if_pos rfl))
    | exact (mstep_eq hp).trans (ms_at e rfl ((if_pos rfl).trans (if_pos (by assumption))))
    | exact (mstep_eq hp).trans (ms_at e rfl (if_pos ⟨by assumption, by assumption⟩))
    | exact (mstep_eq hp).trans (ms_at e rfl ((if_pos rfl).trans (if_pos ⟨by assumption, by assumption, by assumption, by assumption, by assumption⟩)))
    | exact (mstep_eq hp).trans (ms_at e rfl (if_neg (by decide)))
theorem ms_208t {cyc pc sp a x y : Int} {C Z V N : Bool} {ns : List Int} {o p2 : Int} (hp : 0 ≤ pc ∧ pc < 1000) (e : rd ns pc = 208) (e1 : rd ns (pc + 1) = o) (hZ : Z = false) (hb : 128 ≤ o ∧ 512 ≤ pc + 2 ∧ pc + 2 < 768 ∧ 512 ≤ pc + o - 254 ∧ pc + o - 254 < 768) (ep : pc + o - 254 = p2) :
    mstep ⟨cyc, pc, sp, a, x, y, C, Z, V, N⟩ ns = some (⟨cyc + 3, p2, sp, a, x, y, C, Z, V, N⟩, ns) := by
  subst_vars
  first
    | exact (mstep_eq hp).trans (ms_at e rfl rfl)
    | exact (mstep_eq hp).trans (ms_at e rfl (if_pos (by assumption)))
    | exact (mstep_eq hp).trans (ms_at e rfl ((if_pos (by assumption)).trans (if_pos (by assumption))))
    | exact (mstep_eq hp).trans (ms_at e rfl (if_pos rfl))
    | exact (mstep_eq hp).trans (ms_at e rfl ((if_pos rfl).trans (if_pos (by assumption))))
    | exact (mstep_eq hp).trans (ms_at e rfl (if_pos ⟨by assumption, by assumption⟩))
    | exact (mstep_eq hp).trans (ms_at e rfl ((if_pos rfl).trans (if_pos ⟨by assumption, by assumption, by assumption, by assumption, by assumption⟩)))
    | exact (mstep_eq hp).trans (ms_at e rfl (if_neg (by decide)))
theorem ms_208f {cyc pc sp a x y : Int} {C Z V N : Bool} {ns : List Int}  (hp : 0 ≤ pc ∧ pc < 1000) (e : rd ns pc = 208) (hZ : Z = true) :
    mstep ⟨cyc, pc, sp, a, x, y, C, Z, V, N⟩ ns = some (⟨cyc + 2, pc + 2, sp, a, x, y, C, Z, V, N⟩, ns) := by
  subst_vars
  first
    | exact (mstep_eq hp).trans (ms_at e rfl rfl)
    | exact (mstep_eq hp).trans (ms_at e rfl (if_pos (by assumption)))
    | exact (mstep_eq hp).trans (ms_at e rfl ((if_pos (by assumption)).trans (if_pos (by assumption))))
    | exact (mstep_eq hp).trans (ms_at e rfl (if_pos rfl))
    | exact (mstep_eq hp).trans (ms_at e rfl ((if_pos rfl).trans (if_pos (by assumption))))
    | exact (mstep_eq hp).trans (ms_at e rfl (if_pos ⟨by assumption, by assumption⟩))
    | exact (mstep_eq hp).trans (ms_at e rfl ((if_pos rfl).trans (if_pos ⟨by assumption, by assumption, by assumption, by assumption, by assumption⟩)))
    | exact (mstep_eq hp).trans (ms_at e rfl (if_neg (by decide)))
end
section
open PySem PyProof.Rows
set_option maxRecDepth 100000
theorem E_ {cells calls page : List Int} {q1 q2 q3 i r : Int} (H : Lens cells calls page) (k : Nat) (e : i.toNat = 512 + k) (hk : k < 256) (h : (code q1 q2 q3).getD k 0 = r) : rd (mem cells calls q1 q2 q3 page) i = r := (rd_code H k e hk).trans h
theorem run_go' {n : Nat} {g g' : Rg} {ns ns' : List Int} {r : Option (Rg × List Int)} (h : mstep g ns = some (g', ns')) (hp : decide (g'.pc = 544) = false) (k : mrun n g' ns' = r) : mrun (n + 1) g ns = r := run_go h (of_decide_eq_false hp) k
theorem run_end' {n : Nat} {g g' : Rg} {ns ns' : List Int} {r : Rg × List Int} (h : mstep g ns = some (g', ns')) (hp : g'.pc = 544) (e : (g', ns') = r) : mrun (n + 1) g ns = some r := (run_end h hp).trans (congrArg some e)
theorem run_end2 {n : Nat} {g g' : Rg} {ns ns' : List Int} (h : mstep g ns = some (g', ns')) (hp : g'.pc = 544) : mrun (n + 1) g ns = some (g', ns') := run_end h hp
theorem jmp_ {n : Nat} {g : Rg} {ns : List Int} {r : Option (Rg × List Int)} (h : mrun n g ns = r) : mrun n g ns = r := h
theorem rd_set {l : List Int} {i v : Int} (h : i.toNat < l.length) : rd (l.set i.toNat v) i = v := by
  unfold rd
  rw [List.getD_eq_getElem?_getD, List.getElem?_set_self h]
  rfl
theorem eor_lt (a b : Int) : Builtin.bitXor (if decide (b ≤ a) = true then (1 : Int) else 0) 1 = if a < b then (1 : Int) else 0 := by
  by_cases h : b ≤ a
  · rw [if_pos (decide_eq_true h), if_neg (by omega)]; decide
  · rw [if_neg (by simpa using h), if_pos (by omega)]; decide
theorem k_0 {cells calls page : List Int} {q1 q2 q3 cyc sp a x y : Int} {C Z V N : Bool} (H : Lens cells calls page) (hx : 0 ≤ x ∧ x < 256) (hy : 0 ≤ y ∧ y < 256) (hsp : 0 ≤ sp ∧ sp < 256) (hc : ∀ i, 0 ≤ rd cells i ∧ rd cells i < 256) (hk : Builtin.bitAnd (rd page y) 30 = 0) :
    mrun 14 ⟨cyc, 544, sp, a, x, y, C, Z, V, N⟩ (mem cells calls q1 q2 q3 page) = some (⟨cyc + 32, 544, sp, (rd page ((y + 1) % 256)), ((x - 1) % 256), (((y + 1) % 256 + 1) % 256), C, decide (((x - 1) % 256) = 0), V, decide (128 ≤ ((x - 1) % 256))⟩, mem (cells.set ((x - 1) % 256).toNat (rd page ((y + 1) % 256))) calls 0 q2 q3 page) := by
  have hy1 : 0 ≤ (y + 1) % 256 ∧ (y + 1) % 256 < 256 := by omega
  refine run_go' (ms_185 (by decide) (E_ H 32 rfl (by decide) (r := 185) rfl) (E_ H 33 rfl (by decide) (r := 0) rfl) (E_ H 34 rfl (by decide) (r := 3) rfl) (rd_page H hy.1 hy.2)) rfl ?_
  refine run_go' (ms_200 (by decide) (E_ H 35 rfl (by decide) (r := 200) rfl) rfl) rfl ?_
  refine run_go' (ms_41 (by decide) (E_ H 36 rfl (by decide) (r := 41) rfl) (E_ H 37 rfl (by decide) (r := 30) rfl) hk) rfl ?_
  refine run_go' (ms_141 (by decide) (E_ H 38 rfl (by decide) (r := 141) rfl) (E_ H 39 rfl (by decide) (r := 42) rfl) (E_ H 40 rfl (by decide) (r := 2) rfl) (w := 554) rfl (by decide)) rfl ?_
  rw [set_q1 H]
  refine run_go' (ms_108 (by decide) (E_ H 41 rfl (by decide) (r := 108) rfl) (E_ H 42 rfl (by decide) (r := 0) rfl) (E_ H 43 rfl (by decide) (r := 2) rfl) (w := 512) rfl (by decide) (E_ H 0 rfl (by decide) (r := 44) rfl) (E_ H 1 rfl (by decide) (r := 2) rfl) (p2 := 556) rfl (by decide)) rfl ?_
  refine run_go' (ms_185 (by decide) (E_ H 44 rfl (by decide) (r := 185) rfl) (E_ H 45 rfl (by decide) (r := 0) rfl) (E_ H 46 rfl (by decide) (r := 3) rfl) (rd_page H hy1.1 hy1.2)) rfl ?_
  refine run_go' (ms_200 (by decide) (E_ H 47 rfl (by decide) (r := 200) rfl) rfl) rfl ?_
  refine run_go' (ms_202 (by decide) (E_ H 48 rfl (by decide) (r := 202) rfl) rfl) rfl ?_
  refine run_go' (ms_149 (by decide) (E_ H 49 rfl (by decide) (r := 149) rfl) (E_ H 50 rfl (by decide) (r := 0) rfl) (z := ((x - 1) % 256)) (by omega)) rfl ?_
  rw [set_cells H (by omega) (by omega)]
  refine run_end' (ms_76 (by decide) (E_ (lens_cells H _) 51 rfl (by decide) (r := 76) rfl) (E_ (lens_cells H _) 52 rfl (by decide) (r := 32) rfl) (E_ (lens_cells H _) 53 rfl (by decide) (r := 2) rfl) (w := 544) rfl (by decide)) rfl ?_
  rw [show cyc + 4 + 2 + 2 + 4 + 5 + 4 + 2 + 2 + 4 + 3 = cyc + 32 from by omega]
theorem k_1 {cells calls page : List Int} {q1 q2 q3 cyc sp a x y : Int} {C Z V N : Bool} (H : Lens cells calls page) (hx : 0 ≤ x ∧ x < 256) (hy : 0 ≤ y ∧ y < 256) (hsp : 0 ≤ sp ∧ sp < 256) (hc : ∀ i, 0 ≤ rd cells i ∧ rd cells i < 256) (hk : Builtin.bitAnd (rd page y) 30 = 2) :
    mrun 14 ⟨cyc, 544, sp, a, x, y, C, Z, V, N⟩ (mem cells calls q1 q2 q3 page) = some (⟨cyc + 36, 544, sp, (((rd cells ((x + 1) % 256)) + (rd cells x)) % 256), ((x + 1) % 256), ((y + 1) % 256), decide (255 < (rd cells ((x + 1) % 256)) + (rd cells x)), decide (((x + 1) % 256) = 0), decide (Builtin.bitAnd (Builtin.bitAnd (Builtin.bitNot (Builtin.bitXor (rd cells x) (rd cells ((x + 1) % 256)))) (Builtin.bitXor (rd cells x) ((rd cells ((x + 1) % 256)) + (rd cells x)))) 128 ≠ 0), decide (128 ≤ ((x + 1) % 256))⟩, mem (cells.set ((x + 1) % 256).toNat (((rd cells ((x + 1) % 256)) + (rd cells x)) % 256)) calls 2 q2 q3 page) := by
  refine run_go' (ms_185 (by decide) (E_ H 32 rfl (by decide) (r := 185) rfl) (E_ H 33 rfl (by decide) (r := 0) rfl) (E_ H 34 rfl (by decide) (r := 3) rfl) (rd_page H hy.1 hy.2)) rfl ?_
  refine run_go' (ms_200 (by decide) (E_ H 35 rfl (by decide) (r := 200) rfl) rfl) rfl ?_
  refine run_go' (ms_41 (by decide) (E_ H 36 rfl (by decide) (r := 41) rfl) (E_ H 37 rfl (by decide) (r := 30) rfl) hk) rfl ?_
  refine run_go' (ms_141 (by decide) (E_ H 38 rfl (by decide) (r := 141) rfl) (E_ H 39 rfl (by decide) (r := 42) rfl) (E_ H 40 rfl (by decide) (r := 2) rfl) (w := 554) rfl (by decide)) rfl ?_
  rw [set_q1 H]
  refine run_go' (ms_108 (by decide) (E_ H 41 rfl (by decide) (r := 108) rfl) (E_ H 42 rfl (by decide) (r := 2) rfl) (E_ H 43 rfl (by decide) (r := 2) rfl) (w := 514) rfl (by decide) (E_ H 2 rfl (by decide) (r := 54) rfl) (E_ H 3 rfl (by decide) (r := 2) rfl) (p2 := 566) rfl (by decide)) rfl ?_
  refine run_go' (ms_181 (by decide) (E_ H 54 rfl (by decide) (r := 181) rfl) (E_ H 55 rfl (by decide) (r := 0) rfl) (z := x) (by omega) (rd_cells H (by omega) (by omega))) rfl ?_
  refine run_go' (ms_24 (by decide) (E_ H 56 rfl (by decide) (r := 24) rfl) ) rfl ?_
  refine run_go' (ms_117 (by decide) (E_ H 57 rfl (by decide) (r := 117) rfl) (E_ H 58 rfl (by decide) (r := 1) rfl) (z := ((x + 1) % 256)) (by omega) (rd_cells H (by omega) (by omega)) rfl rfl) rfl ?_
  refine run_go' (ms_232 (by decide) (E_ H 59 rfl (by decide) (r := 232) rfl) rfl) rfl ?_
  refine run_go' (ms_149 (by decide) (E_ H 60 rfl (by decide) (r := 149) rfl) (E_ H 61 rfl (by decide) (r := 0) rfl) (z := ((x + 1) % 256)) (by omega)) rfl ?_
  rw [set_cells H (by omega) (by omega)]
  refine run_end' (ms_76 (by decide) (E_ (lens_cells H _) 62 rfl (by decide) (r := 76) rfl) (E_ (lens_cells H _) 63 rfl (by decide) (r := 32) rfl) (E_ (lens_cells H _) 64 rfl (by decide) (r := 2) rfl) (w := 544) rfl (by decide)) rfl ?_
  rw [show cyc + 4 + 2 + 2 + 4 + 5 + 4 + 2 + 4 + 2 + 4 + 3 = cyc + 36 from by omega]
theorem k_2 {cells calls page : List Int} {q1 q2 q3 cyc sp a x y : Int} {C Z V N : Bool} (H : Lens cells calls page) (hx : 0 ≤ x ∧ x < 256) (hy : 0 ≤ y ∧ y < 256) (hsp : 0 ≤ sp ∧ sp < 256) (hc : ∀ i, 0 ≤ rd cells i ∧ rd cells i < 256) (hk : Builtin.bitAnd (rd page y) 30 = 4) :
    mrun 14 ⟨cyc, 544, sp, a, x, y, C, Z, V, N⟩ (mem cells calls q1 q2 q3 page) = some (⟨cyc + 36, 544, sp, (((rd cells ((x + 1) % 256)) - (rd cells x)) % 256), ((x + 1) % 256), ((y + 1) % 256), decide ((rd cells x) ≤ (rd cells ((x + 1) % 256))), decide (((x + 1) % 256) = 0), decide (Builtin.bitAnd (Builtin.bitAnd (Builtin.bitXor (rd cells ((x + 1) % 256)) (rd cells x)) (Builtin.bitXor (rd cells ((x + 1) % 256)) ((rd cells ((x + 1) % 256)) + (255 - (rd cells x)) + 1))) 128 ≠ 0), decide (128 ≤ ((x + 1) % 256))⟩, mem (cells.set ((x + 1) % 256).toNat (((rd cells ((x + 1) % 256)) - (rd cells x)) % 256)) calls 4 q2 q3 page) := by
  refine run_go' (ms_185 (by decide) (E_ H 32 rfl (by decide) (r := 185) rfl) (E_ H 33 rfl (by decide) (r := 0) rfl) (E_ H 34 rfl (by decide) (r := 3) rfl) (rd_page H hy.1 hy.2)) rfl ?_
  refine run_go' (ms_200 (by decide) (E_ H 35 rfl (by decide) (r := 200) rfl) rfl) rfl ?_
  refine run_go' (ms_41 (by decide) (E_ H 36 rfl (by decide) (r := 41) rfl) (E_ H 37 rfl (by decide) (r := 30) rfl) hk) rfl ?_
  refine run_go' (ms_141 (by decide) (E_ H 38 rfl (by decide) (r := 141) rfl) (E_ H 39 rfl (by decide) (r := 42) rfl) (E_ H 40 rfl (by decide) (r := 2) rfl) (w := 554) rfl (by decide)) rfl ?_
  rw [set_q1 H]
  refine run_go' (ms_108 (by decide) (E_ H 41 rfl (by decide) (r := 108) rfl) (E_ H 42 rfl (by decide) (r := 4) rfl) (E_ H 43 rfl (by decide) (r := 2) rfl) (w := 516) rfl (by decide) (E_ H 4 rfl (by decide) (r := 65) rfl) (E_ H 5 rfl (by decide) (r := 2) rfl) (p2 := 577) rfl (by decide)) rfl ?_
  refine run_go' (ms_181 (by decide) (E_ H 65 rfl (by decide) (r := 181) rfl) (E_ H 66 rfl (by decide) (r := 1) rfl) (z := ((x + 1) % 256)) (by omega) (rd_cells H (by omega) (by omega))) rfl ?_
  refine run_go' (ms_56 (by decide) (E_ H 67 rfl (by decide) (r := 56) rfl) ) rfl ?_
  refine run_go' (ms_245 (by decide) (E_ H 68 rfl (by decide) (r := 245) rfl) (E_ H 69 rfl (by decide) (r := 0) rfl) (z := x) (by omega) (rd_cells H (by omega) (by omega)) rfl rfl) rfl ?_
  refine run_go' (ms_232 (by decide) (E_ H 70 rfl (by decide) (r := 232) rfl) rfl) rfl ?_
  refine run_go' (ms_149 (by decide) (E_ H 71 rfl (by decide) (r := 149) rfl) (E_ H 72 rfl (by decide) (r := 0) rfl) (z := ((x + 1) % 256)) (by omega)) rfl ?_
  rw [set_cells H (by omega) (by omega)]
  refine run_end' (ms_76 (by decide) (E_ (lens_cells H _) 73 rfl (by decide) (r := 76) rfl) (E_ (lens_cells H _) 74 rfl (by decide) (r := 32) rfl) (E_ (lens_cells H _) 75 rfl (by decide) (r := 2) rfl) (w := 544) rfl (by decide)) rfl ?_
  rw [show cyc + 4 + 2 + 2 + 4 + 5 + 4 + 2 + 4 + 2 + 4 + 3 = cyc + 36 from by omega]
theorem k_3 {cells calls page : List Int} {q1 q2 q3 cyc sp a x y : Int} {C Z V N : Bool} (H : Lens cells calls page) (hx : 0 ≤ x ∧ x < 256) (hy : 0 ≤ y ∧ y < 256) (hsp : 0 ≤ sp ∧ sp < 256) (hc : ∀ i, 0 ≤ rd cells i ∧ rd cells i < 256) (hk : Builtin.bitAnd (rd page y) 30 = 6) :
    mrun 14 ⟨cyc, 544, sp, a, x, y, C, Z, V, N⟩ (mem cells calls q1 q2 q3 page) = some (⟨cyc + 30, 544, sp, (rd cells x), ((x - 1) % 256), ((y + 1) % 256), C, decide (((x - 1) % 256) = 0), V, decide (128 ≤ ((x - 1) % 256))⟩, mem (cells.set ((x - 1) % 256).toNat (rd cells x)) calls 6 q2 q3 page) := by
  refine run_go' (ms_185 (by decide) (E_ H 32 rfl (by decide) (r := 185) rfl) (E_ H 33 rfl (by decide) (r := 0) rfl) (E_ H 34 rfl (by decide) (r := 3) rfl) (rd_page H hy.1 hy.2)) rfl ?_
  refine run_go' (ms_200 (by decide) (E_ H 35 rfl (by decide) (r := 200) rfl) rfl) rfl ?_
  refine run_go' (ms_41 (by decide) (E_ H 36 rfl (by decide) (r := 41) rfl) (E_ H 37 rfl (by decide) (r := 30) rfl) hk) rfl ?_
  refine run_go' (ms_141 (by decide) (E_ H 38 rfl (by decide) (r := 141) rfl) (E_ H 39 rfl (by decide) (r := 42) rfl) (E_ H 40 rfl (by decide) (r := 2) rfl) (w := 554) rfl (by decide)) rfl ?_
  rw [set_q1 H]
  refine run_go' (ms_108 (by decide) (E_ H 41 rfl (by decide) (r := 108) rfl) (E_ H 42 rfl (by decide) (r := 6) rfl) (E_ H 43 rfl (by decide) (r := 2) rfl) (w := 518) rfl (by decide) (E_ H 6 rfl (by decide) (r := 76) rfl) (E_ H 7 rfl (by decide) (r := 2) rfl) (p2 := 588) rfl (by decide)) rfl ?_
  refine run_go' (ms_181 (by decide) (E_ H 76 rfl (by decide) (r := 181) rfl) (E_ H 77 rfl (by decide) (r := 0) rfl) (z := x) (by omega) (rd_cells H (by omega) (by omega))) rfl ?_
  refine run_go' (ms_202 (by decide) (E_ H 78 rfl (by decide) (r := 202) rfl) rfl) rfl ?_
  refine run_go' (ms_149 (by decide) (E_ H 79 rfl (by decide) (r := 149) rfl) (E_ H 80 rfl (by decide) (r := 0) rfl) (z := ((x - 1) % 256)) (by omega)) rfl ?_
  rw [set_cells H (by omega) (by omega)]
  refine run_end' (ms_76 (by decide) (E_ (lens_cells H _) 81 rfl (by decide) (r := 76) rfl) (E_ (lens_cells H _) 82 rfl (by decide) (r := 32) rfl) (E_ (lens_cells H _) 83 rfl (by decide) (r := 2) rfl) (w := 544) rfl (by decide)) rfl ?_
  rw [show cyc + 4 + 2 + 2 + 4 + 5 + 4 + 2 + 4 + 3 = cyc + 30 from by omega]
theorem k_4 {cells calls page : List Int} {q1 q2 q3 cyc sp a x y : Int} {C Z V N : Bool} (H : Lens cells calls page) (hx : 0 ≤ x ∧ x < 256) (hy : 0 ≤ y ∧ y < 256) (hsp : 0 ≤ sp ∧ sp < 256) (hc : ∀ i, 0 ≤ rd cells i ∧ rd cells i < 256) (hk : Builtin.bitAnd (rd page y) 30 = 8) :
    mrun 14 ⟨cyc, 544, sp, a, x, y, C, Z, V, N⟩ (mem cells calls q1 q2 q3 page) = some (⟨cyc + 43, 544, sp, (rd cells x), x, ((y + 1) % 256), C, decide ((rd cells x) = 0), V, decide (128 ≤ (rd cells x))⟩, mem ((cells.set x.toNat (rd cells ((x + 1) % 256))).set ((x + 1) % 256).toNat (rd cells x)) (calls.set sp.toNat (rd cells x)) 8 q2 q3 page) := by
  refine run_go' (ms_185 (by decide) (E_ H 32 rfl (by decide) (r := 185) rfl) (E_ H 33 rfl (by decide) (r := 0) rfl) (E_ H 34 rfl (by decide) (r := 3) rfl) (rd_page H hy.1 hy.2)) rfl ?_
  refine run_go' (ms_200 (by decide) (E_ H 35 rfl (by decide) (r := 200) rfl) rfl) rfl ?_
  refine run_go' (ms_41 (by decide) (E_ H 36 rfl (by decide) (r := 41) rfl) (E_ H 37 rfl (by decide) (r := 30) rfl) hk) rfl ?_
  refine run_go' (ms_141 (by decide) (E_ H 38 rfl (by decide) (r := 141) rfl) (E_ H 39 rfl (by decide) (r := 42) rfl) (E_ H 40 rfl (by decide) (r := 2) rfl) (w := 554) rfl (by decide)) rfl ?_
  rw [set_q1 H]
  refine run_go' (ms_108 (by decide) (E_ H 41 rfl (by decide) (r := 108) rfl) (E_ H 42 rfl (by decide) (r := 8) rfl) (E_ H 43 rfl (by decide) (r := 2) rfl) (w := 520) rfl (by decide) (E_ H 8 rfl (by decide) (r := 84) rfl) (E_ H 9 rfl (by decide) (r := 2) rfl) (p2 := 596) rfl (by decide)) rfl ?_
  refine run_go' (ms_181 (by decide) (E_ H 84 rfl (by decide) (r := 181) rfl) (E_ H 85 rfl (by decide) (r := 0) rfl) (z := x) (by omega) (rd_cells H (by omega) (by omega))) rfl ?_
  refine run_go' (ms_72 (by decide) (E_ H 86 rfl (by decide) (r := 72) rfl) rfl) rfl ?_
  rw [set_calls H hsp.1 hsp.2]
  refine run_go' (ms_181 (by decide) (E_ (lens_calls H _) 87 rfl (by decide) (r := 181) rfl) (E_ (lens_calls H _) 88 rfl (by decide) (r := 1) rfl) (z := ((x + 1) % 256)) (by omega) (rd_cells (lens_calls H _) (by omega) (by omega))) rfl ?_
  refine run_go' (ms_149 (by decide) (E_ (lens_calls H _) 89 rfl (by decide) (r := 149) rfl) (E_ (lens_calls H _) 90 rfl (by decide) (r := 0) rfl) (z := x) (by omega)) rfl ?_
  rw [set_cells (lens_calls H _) (by omega) (by omega)]
  refine run_go' (ms_104 (by decide) (E_ (lens_cells (lens_calls H _) _) 91 rfl (by decide) (r := 104) rfl) (s2 := sp) (by omega) ((rd_calls (lens_cells (lens_calls H _) _) hsp.1 hsp.2).trans (rd_set (by rw [H.k]; omega)))) rfl ?_
  refine run_go' (ms_149 (by decide) (E_ (lens_cells (lens_calls H _) _) 92 rfl (by decide) (r := 149) rfl) (E_ (lens_cells (lens_calls H _) _) 93 rfl (by decide) (r := 1) rfl) (z := ((x + 1) % 256)) (by omega)) rfl ?_
  rw [set_cells (lens_cells (lens_calls H _) _) (by omega) (by omega)]
  refine run_end' (ms_76 (by decide) (E_ (lens_cells (lens_cells (lens_calls H _) _) _) 94 rfl (by decide) (r := 76) rfl) (E_ (lens_cells (lens_cells (lens_calls H _) _) _) 95 rfl (by decide) (r := 32) rfl) (E_ (lens_cells (lens_cells (lens_calls H _) _) _) 96 rfl (by decide) (r := 2) rfl) (w := 544) rfl (by decide)) rfl ?_
  rw [show cyc + 4 + 2 + 2 + 4 + 5 + 4 + 3 + 4 + 4 + 4 + 4 + 3 = cyc + 43 from by omega]
theorem k_5 {cells calls page : List Int} {q1 q2 q3 cyc sp a x y : Int} {C Z V N : Bool} (H : Lens cells calls page) (hx : 0 ≤ x ∧ x < 256) (hy : 0 ≤ y ∧ y < 256) (hsp : 0 ≤ sp ∧ sp < 256) (hc : ∀ i, 0 ≤ rd cells i ∧ rd cells i < 256) (hk : Builtin.bitAnd (rd page y) 30 = 10) :
    mrun 14 ⟨cyc, 544, sp, a, x, y, C, Z, V, N⟩ (mem cells calls q1 q2 q3 page) = some (⟨cyc + 22, 544, sp, 10, ((x + 1) % 256), ((y + 1) % 256), C, decide (((x + 1) % 256) = 0), V, decide (128 ≤ ((x + 1) % 256))⟩, mem cells calls 10 q2 q3 page) := by
  refine run_go' (ms_185 (by decide) (E_ H 32 rfl (by decide) (r := 185) rfl) (E_ H 33 rfl (by decide) (r := 0) rfl) (E_ H 34 rfl (by decide) (r := 3) rfl) (rd_page H hy.1 hy.2)) rfl ?_
  refine run_go' (ms_200 (by decide) (E_ H 35 rfl (by decide) (r := 200) rfl) rfl) rfl ?_
  refine run_go' (ms_41 (by decide) (E_ H 36 rfl (by decide) (r := 41) rfl) (E_ H 37 rfl (by decide) (r := 30) rfl) hk) rfl ?_
  refine run_go' (ms_141 (by decide) (E_ H 38 rfl (by decide) (r := 141) rfl) (E_ H 39 rfl (by decide) (r := 42) rfl) (E_ H 40 rfl (by decide) (r := 2) rfl) (w := 554) rfl (by decide)) rfl ?_
  rw [set_q1 H]
  refine run_go' (ms_108 (by decide) (E_ H 41 rfl (by decide) (r := 108) rfl) (E_ H 42 rfl (by decide) (r := 10) rfl) (E_ H 43 rfl (by decide) (r := 2) rfl) (w := 522) rfl (by decide) (E_ H 10 rfl (by decide) (r := 97) rfl) (E_ H 11 rfl (by decide) (r := 2) rfl) (p2 := 609) rfl (by decide)) rfl ?_
  refine run_go' (ms_232 (by decide) (E_ H 97 rfl (by decide) (r := 232) rfl) rfl) rfl ?_
  refine run_end' (ms_76 (by decide) (E_ H 98 rfl (by decide) (r := 76) rfl) (E_ H 99 rfl (by decide) (r := 32) rfl) (E_ H 100 rfl (by decide) (r := 2) rfl) (w := 544) rfl (by decide)) rfl ?_
  rw [show cyc + 4 + 2 + 2 + 4 + 5 + 2 + 3 = cyc + 22 from by omega]
theorem k_6 {cells calls page : List Int} {q1 q2 q3 cyc sp a x y : Int} {C Z V N : Bool} (H : Lens cells calls page) (hx : 0 ≤ x ∧ x < 256) (hy : 0 ≤ y ∧ y < 256) (hsp : 0 ≤ sp ∧ sp < 256) (hc : ∀ i, 0 ≤ rd cells i ∧ rd cells i < 256) (hk : Builtin.bitAnd (rd page y) 30 = 12) :
    mrun 14 ⟨cyc, 544, sp, a, x, y, C, Z, V, N⟩ (mem cells calls q1 q2 q3 page) = some (⟨cyc + 30, 544, sp, (rd cells ((x + 1) % 256)), ((x - 1) % 256), ((y + 1) % 256), C, decide (((x - 1) % 256) = 0), V, decide (128 ≤ ((x - 1) % 256))⟩, mem (cells.set ((x - 1) % 256).toNat (rd cells ((x + 1) % 256))) calls 12 q2 q3 page) := by
  refine run_go' (ms_185 (by decide) (E_ H 32 rfl (by decide) (r := 185) rfl) (E_ H 33 rfl (by decide) (r := 0) rfl) (E_ H 34 rfl (by decide) (r := 3) rfl) (rd_page H hy.1 hy.2)) rfl ?_
  refine run_go' (ms_200 (by decide) (E_ H 35 rfl (by decide) (r := 200) rfl) rfl) rfl ?_
  refine run_go' (ms_41 (by decide) (E_ H 36 rfl (by decide) (r := 41) rfl) (E_ H 37 rfl (by decide) (r := 30) rfl) hk) rfl ?_
  refine run_go' (ms_141 (by decide) (E_ H 38 rfl (by decide) (r := 141) rfl) (E_ H 39 rfl (by decide) (r := 42) rfl) (E_ H 40 rfl (by decide) (r := 2) rfl) (w := 554) rfl (by decide)) rfl ?_
  rw [set_q1 H]
  refine run_go' (ms_108 (by decide) (E_ H 41 rfl (by decide) (r := 108) rfl) (E_ H 42 rfl (by decide) (r := 12) rfl) (E_ H 43 rfl (by decide) (r := 2) rfl) (w := 524) rfl (by decide) (E_ H 12 rfl (by decide) (r := 101) rfl) (E_ H 13 rfl (by decide) (r := 2) rfl) (p2 := 613) rfl (by decide)) rfl ?_
  refine run_go' (ms_181 (by decide) (E_ H 101 rfl (by decide) (r := 181) rfl) (E_ H 102 rfl (by decide) (r := 1) rfl) (z := ((x + 1) % 256)) (by omega) (rd_cells H (by omega) (by omega))) rfl ?_
  refine run_go' (ms_202 (by decide) (E_ H 103 rfl (by decide) (r := 202) rfl) rfl) rfl ?_
  refine run_go' (ms_149 (by decide) (E_ H 104 rfl (by decide) (r := 149) rfl) (E_ H 105 rfl (by decide) (r := 0) rfl) (z := ((x - 1) % 256)) (by omega)) rfl ?_
  rw [set_cells H (by omega) (by omega)]
  refine run_end' (ms_76 (by decide) (E_ (lens_cells H _) 106 rfl (by decide) (r := 76) rfl) (E_ (lens_cells H _) 107 rfl (by decide) (r := 32) rfl) (E_ (lens_cells H _) 108 rfl (by decide) (r := 2) rfl) (w := 544) rfl (by decide)) rfl ?_
  rw [show cyc + 4 + 2 + 2 + 4 + 5 + 4 + 2 + 4 + 3 = cyc + 30 from by omega]
theorem k_7 {cells calls page : List Int} {q1 q2 q3 cyc sp a x y : Int} {C Z V N : Bool} (H : Lens cells calls page) (hx : 0 ≤ x ∧ x < 256) (hy : 0 ≤ y ∧ y < 256) (hsp : 0 ≤ sp ∧ sp < 256) (hc : ∀ i, 0 ≤ rd cells i ∧ rd cells i < 256) (hk : Builtin.bitAnd (rd page y) 30 = 14) :
    mrun 14 ⟨cyc, 544, sp, a, x, y, C, Z, V, N⟩ (mem cells calls q1 q2 q3 page) = some (⟨cyc + 26, 544, sp, (rd page ((y + 1) % 256)), x, (rd page ((y + 1) % 256)), C, decide ((rd page ((y + 1) % 256)) = 0), V, decide (128 ≤ (rd page ((y + 1) % 256)))⟩, mem cells calls 14 q2 q3 page) := by
  have hy1 : 0 ≤ (y + 1) % 256 ∧ (y + 1) % 256 < 256 := by omega
  refine run_go' (ms_185 (by decide) (E_ H 32 rfl (by decide) (r := 185) rfl) (E_ H 33 rfl (by decide) (r := 0) rfl) (E_ H 34 rfl (by decide) (r := 3) rfl) (rd_page H hy.1 hy.2)) rfl ?_
  refine run_go' (ms_200 (by decide) (E_ H 35 rfl (by decide) (r := 200) rfl) rfl) rfl ?_
  refine run_go' (ms_41 (by decide) (E_ H 36 rfl (by decide) (r := 41) rfl) (E_ H 37 rfl (by decide) (r := 30) rfl) hk) rfl ?_
  refine run_go' (ms_141 (by decide) (E_ H 38 rfl (by decide) (r := 141) rfl) (E_ H 39 rfl (by decide) (r := 42) rfl) (E_ H 40 rfl (by decide) (r := 2) rfl) (w := 554) rfl (by decide)) rfl ?_
  rw [set_q1 H]
  refine run_go' (ms_108 (by decide) (E_ H 41 rfl (by decide) (r := 108) rfl) (E_ H 42 rfl (by decide) (r := 14) rfl) (E_ H 43 rfl (by decide) (r := 2) rfl) (w := 526) rfl (by decide) (E_ H 14 rfl (by decide) (r := 109) rfl) (E_ H 15 rfl (by decide) (r := 2) rfl) (p2 := 621) rfl (by decide)) rfl ?_
  refine run_go' (ms_185 (by decide) (E_ H 109 rfl (by decide) (r := 185) rfl) (E_ H 110 rfl (by decide) (r := 0) rfl) (E_ H 111 rfl (by decide) (r := 3) rfl) (rd_page H hy1.1 hy1.2)) rfl ?_
  refine run_go' (ms_168 (by decide) (E_ H 112 rfl (by decide) (r := 168) rfl) ) rfl ?_
  refine run_end' (ms_76 (by decide) (E_ H 113 rfl (by decide) (r := 76) rfl) (E_ H 114 rfl (by decide) (r := 32) rfl) (E_ H 115 rfl (by decide) (r := 2) rfl) (w := 544) rfl (by decide)) rfl ?_
  rw [show cyc + 4 + 2 + 2 + 4 + 5 + 4 + 2 + 3 = cyc + 26 from by omega]
theorem k_8t {cells calls page : List Int} {q1 q2 q3 cyc sp a x y : Int} {C Z V N : Bool} (H : Lens cells calls page) (hx : 0 ≤ x ∧ x < 256) (hy : 0 ≤ y ∧ y < 256) (hsp : 0 ≤ sp ∧ sp < 256) (hc : ∀ i, 0 ≤ rd cells i ∧ rd cells i < 256) (hk : Builtin.bitAnd (rd page y) 30 = 16) (h8 : (rd cells x) = 0) :
    mrun 14 ⟨cyc, 544, sp, a, x, y, C, Z, V, N⟩ (mem cells calls q1 q2 q3 page) = some (⟨cyc + 35, 544, sp, (rd page ((y + 1) % 256)), ((x + 1) % 256), (rd page ((y + 1) % 256)), C, decide ((rd page ((y + 1) % 256)) = 0), V, decide (128 ≤ (rd page ((y + 1) % 256)))⟩, mem cells calls 16 q2 q3 page) := by
  have hy1 : 0 ≤ (y + 1) % 256 ∧ (y + 1) % 256 < 256 := by omega
  refine run_go' (ms_185 (by decide) (E_ H 32 rfl (by decide) (r := 185) rfl) (E_ H 33 rfl (by decide) (r := 0) rfl) (E_ H 34 rfl (by decide) (r := 3) rfl) (rd_page H hy.1 hy.2)) rfl ?_
  refine run_go' (ms_200 (by decide) (E_ H 35 rfl (by decide) (r := 200) rfl) rfl) rfl ?_
  refine run_go' (ms_41 (by decide) (E_ H 36 rfl (by decide) (r := 41) rfl) (E_ H 37 rfl (by decide) (r := 30) rfl) hk) rfl ?_
  refine run_go' (ms_141 (by decide) (E_ H 38 rfl (by decide) (r := 141) rfl) (E_ H 39 rfl (by decide) (r := 42) rfl) (E_ H 40 rfl (by decide) (r := 2) rfl) (w := 554) rfl (by decide)) rfl ?_
  rw [set_q1 H]
  refine run_go' (ms_108 (by decide) (E_ H 41 rfl (by decide) (r := 108) rfl) (E_ H 42 rfl (by decide) (r := 16) rfl) (E_ H 43 rfl (by decide) (r := 2) rfl) (w := 528) rfl (by decide) (E_ H 16 rfl (by decide) (r := 116) rfl) (E_ H 17 rfl (by decide) (r := 2) rfl) (p2 := 628) rfl (by decide)) rfl ?_
  refine run_go' (ms_232 (by decide) (E_ H 116 rfl (by decide) (r := 232) rfl) rfl) rfl ?_
  refine run_go' (ms_181 (by decide) (E_ H 117 rfl (by decide) (r := 181) rfl) (E_ H 118 rfl (by decide) (r := 255) rfl) (z := x) (by omega) (rd_cells H (by omega) (by omega))) rfl ?_
  refine run_go' (ms_240t (by decide) (E_ H 119 rfl (by decide) (r := 240) rfl) (E_ H 120 rfl (by decide) (r := 244) rfl) (decide_eq_true h8) (by decide) (p2 := 621) rfl) rfl ?_
  refine run_go' (ms_185 (by decide) (E_ H 109 rfl (by decide) (r := 185) rfl) (E_ H 110 rfl (by decide) (r := 0) rfl) (E_ H 111 rfl (by decide) (r := 3) rfl) (rd_page H hy1.1 hy1.2)) rfl ?_
  refine run_go' (ms_168 (by decide) (E_ H 112 rfl (by decide) (r := 168) rfl) ) rfl ?_
  refine run_end' (ms_76 (by decide) (E_ H 113 rfl (by decide) (r := 76) rfl) (E_ H 114 rfl (by decide) (r := 32) rfl) (E_ H 115 rfl (by decide) (r := 2) rfl) (w := 544) rfl (by decide)) rfl ?_
  rw [show cyc + 4 + 2 + 2 + 4 + 5 + 2 + 4 + 3 + 4 + 2 + 3 = cyc + 35 from by omega]
theorem k_8f {cells calls page : List Int} {q1 q2 q3 cyc sp a x y : Int} {C Z V N : Bool} (H : Lens cells calls page) (hx : 0 ≤ x ∧ x < 256) (hy : 0 ≤ y ∧ y < 256) (hsp : 0 ≤ sp ∧ sp < 256) (hc : ∀ i, 0 ≤ rd cells i ∧ rd cells i < 256) (hk : Builtin.bitAnd (rd page y) 30 = 16) (h8 : (rd cells x) ≠ 0) :
    mrun 14 ⟨cyc, 544, sp, a, x, y, C, Z, V, N⟩ (mem cells calls q1 q2 q3 page) = some (⟨cyc + 30, 544, sp, (rd cells x), ((x + 1) % 256), (((y + 1) % 256 + 1) % 256), C, decide ((((y + 1) % 256 + 1) % 256) = 0), V, decide (128 ≤ (((y + 1) % 256 + 1) % 256))⟩, mem cells calls 16 q2 q3 page) := by
  refine run_go' (ms_185 (by decide) (E_ H 32 rfl (by decide) (r := 185) rfl) (E_ H 33 rfl (by decide) (r := 0) rfl) (E_ H 34 rfl (by decide) (r := 3) rfl) (rd_page H hy.1 hy.2)) rfl ?_
  refine run_go' (ms_200 (by decide) (E_ H 35 rfl (by decide) (r := 200) rfl) rfl) rfl ?_
  refine run_go' (ms_41 (by decide) (E_ H 36 rfl (by decide) (r := 41) rfl) (E_ H 37 rfl (by decide) (r := 30) rfl) hk) rfl ?_
  refine run_go' (ms_141 (by decide) (E_ H 38 rfl (by decide) (r := 141) rfl) (E_ H 39 rfl (by decide) (r := 42) rfl) (E_ H 40 rfl (by decide) (r := 2) rfl) (w := 554) rfl (by decide)) rfl ?_
  rw [set_q1 H]
  refine run_go' (ms_108 (by decide) (E_ H 41 rfl (by decide) (r := 108) rfl) (E_ H 42 rfl (by decide) (r := 16) rfl) (E_ H 43 rfl (by decide) (r := 2) rfl) (w := 528) rfl (by decide) (E_ H 16 rfl (by decide) (r := 116) rfl) (E_ H 17 rfl (by decide) (r := 2) rfl) (p2 := 628) rfl (by decide)) rfl ?_
  refine run_go' (ms_232 (by decide) (E_ H 116 rfl (by decide) (r := 232) rfl) rfl) rfl ?_
  refine run_go' (ms_181 (by decide) (E_ H 117 rfl (by decide) (r := 181) rfl) (E_ H 118 rfl (by decide) (r := 255) rfl) (z := x) (by omega) (rd_cells H (by omega) (by omega))) rfl ?_
  refine run_go' (ms_240f (by decide) (E_ H 119 rfl (by decide) (r := 240) rfl) (decide_eq_false h8)) rfl ?_
  refine run_go' (ms_200 (by decide) (E_ H 121 rfl (by decide) (r := 200) rfl) rfl) rfl ?_
  refine run_end' (ms_76 (by decide) (E_ H 122 rfl (by decide) (r := 76) rfl) (E_ H 123 rfl (by decide) (r := 32) rfl) (E_ H 124 rfl (by decide) (r := 2) rfl) (w := 544) rfl (by decide)) rfl ?_
  rw [show cyc + 4 + 2 + 2 + 4 + 5 + 2 + 4 + 2 + 2 + 3 = cyc + 30 from by omega]
theorem k_9 {cells calls page : List Int} {q1 q2 q3 cyc sp a x y : Int} {C Z V N : Bool} (H : Lens cells calls page) (hx : 0 ≤ x ∧ x < 256) (hy : 0 ≤ y ∧ y < 256) (hsp : 0 ≤ sp ∧ sp < 256) (hc : ∀ i, 0 ≤ rd cells i ∧ rd cells i < 256) (hk : Builtin.bitAnd (rd page y) 30 = 18) :
    mrun 14 ⟨cyc, 544, sp, a, x, y, C, Z, V, N⟩ (mem cells calls q1 q2 q3 page) = some (⟨cyc + 35, 544, ((sp - 1) % 256), (rd page ((y + 1) % 256)), x, (rd page ((y + 1) % 256)), C, decide ((rd page ((y + 1) % 256)) = 0), V, decide (128 ≤ (rd page ((y + 1) % 256)))⟩, mem cells (calls.set sp.toNat (((y + 1) % 256 + 1) % 256)) 18 q2 q3 page) := by
  have hy1 : 0 ≤ (y + 1) % 256 ∧ (y + 1) % 256 < 256 := by omega
  refine run_go' (ms_185 (by decide) (E_ H 32 rfl (by decide) (r := 185) rfl) (E_ H 33 rfl (by decide) (r := 0) rfl) (E_ H 34 rfl (by decide) (r := 3) rfl) (rd_page H hy.1 hy.2)) rfl ?_
  refine run_go' (ms_200 (by decide) (E_ H 35 rfl (by decide) (r := 200) rfl) rfl) rfl ?_
  refine run_go' (ms_41 (by decide) (E_ H 36 rfl (by decide) (r := 41) rfl) (E_ H 37 rfl (by decide) (r := 30) rfl) hk) rfl ?_
  refine run_go' (ms_141 (by decide) (E_ H 38 rfl (by decide) (r := 141) rfl) (E_ H 39 rfl (by decide) (r := 42) rfl) (E_ H 40 rfl (by decide) (r := 2) rfl) (w := 554) rfl (by decide)) rfl ?_
  rw [set_q1 H]
  refine run_go' (ms_108 (by decide) (E_ H 41 rfl (by decide) (r := 108) rfl) (E_ H 42 rfl (by decide) (r := 18) rfl) (E_ H 43 rfl (by decide) (r := 2) rfl) (w := 530) rfl (by decide) (E_ H 18 rfl (by decide) (r := 125) rfl) (E_ H 19 rfl (by decide) (r := 2) rfl) (p2 := 637) rfl (by decide)) rfl ?_
  refine run_go' (ms_200 (by decide) (E_ H 125 rfl (by decide) (r := 200) rfl) rfl) rfl ?_
  refine run_go' (ms_152 (by decide) (E_ H 126 rfl (by decide) (r := 152) rfl) ) rfl ?_
  refine run_go' (ms_72 (by decide) (E_ H 127 rfl (by decide) (r := 72) rfl) rfl) rfl ?_
  rw [set_calls H hsp.1 hsp.2]
  refine run_go' (ms_136 (by decide) (E_ (lens_calls H _) 128 rfl (by decide) (r := 136) rfl) (v := (y + 1) % 256) (by omega)) rfl ?_
  refine run_go' (ms_185 (by decide) (E_ (lens_calls H _) 129 rfl (by decide) (r := 185) rfl) (E_ (lens_calls H _) 130 rfl (by decide) (r := 0) rfl) (E_ (lens_calls H _) 131 rfl (by decide) (r := 3) rfl) (rd_page (lens_calls H _) hy1.1 hy1.2)) rfl ?_
  refine run_go' (ms_168 (by decide) (E_ (lens_calls H _) 132 rfl (by decide) (r := 168) rfl) ) rfl ?_
  refine run_end' (ms_76 (by decide) (E_ (lens_calls H _) 133 rfl (by decide) (r := 76) rfl) (E_ (lens_calls H _) 134 rfl (by decide) (r := 32) rfl) (E_ (lens_calls H _) 135 rfl (by decide) (r := 2) rfl) (w := 544) rfl (by decide)) rfl ?_
  rw [show cyc + 4 + 2 + 2 + 4 + 5 + 2 + 2 + 3 + 2 + 4 + 2 + 3 = cyc + 35 from by omega]
theorem k_10 {cells calls page : List Int} {q1 q2 q3 cyc sp a x y : Int} {C Z V N : Bool} (H : Lens cells calls page) (hx : 0 ≤ x ∧ x < 256) (hy : 0 ≤ y ∧ y < 256) (hsp : 0 ≤ sp ∧ sp < 256) (hc : ∀ i, 0 ≤ rd cells i ∧ rd cells i < 256) (hk : Builtin.bitAnd (rd page y) 30 = 20) :
    mrun 14 ⟨cyc, 544, sp, a, x, y, C, Z, V, N⟩ (mem cells calls q1 q2 q3 page) = some (⟨cyc + 26, 544, ((sp + 1) % 256), (rd calls ((sp + 1) % 256)), x, (rd calls ((sp + 1) % 256)), C, decide ((rd calls ((sp + 1) % 256)) = 0), V, decide (128 ≤ (rd calls ((sp + 1) % 256)))⟩, mem cells calls 20 q2 q3 page) := by
  refine run_go' (ms_185 (by decide) (E_ H 32 rfl (by decide) (r := 185) rfl) (E_ H 33 rfl (by decide) (r := 0) rfl) (E_ H 34 rfl (by decide) (r := 3) rfl) (rd_page H hy.1 hy.2)) rfl ?_
  refine run_go' (ms_200 (by decide) (E_ H 35 rfl (by decide) (r := 200) rfl) rfl) rfl ?_
  refine run_go' (ms_41 (by decide) (E_ H 36 rfl (by decide) (r := 41) rfl) (E_ H 37 rfl (by decide) (r := 30) rfl) hk) rfl ?_
  refine run_go' (ms_141 (by decide) (E_ H 38 rfl (by decide) (r := 141) rfl) (E_ H 39 rfl (by decide) (r := 42) rfl) (E_ H 40 rfl (by decide) (r := 2) rfl) (w := 554) rfl (by decide)) rfl ?_
  rw [set_q1 H]
  refine run_go' (ms_108 (by decide) (E_ H 41 rfl (by decide) (r := 108) rfl) (E_ H 42 rfl (by decide) (r := 20) rfl) (E_ H 43 rfl (by decide) (r := 2) rfl) (w := 532) rfl (by decide) (E_ H 20 rfl (by decide) (r := 136) rfl) (E_ H 21 rfl (by decide) (r := 2) rfl) (p2 := 648) rfl (by decide)) rfl ?_
  refine run_go' (ms_104 (by decide) (E_ H 136 rfl (by decide) (r := 104) rfl) (s2 := ((sp + 1) % 256)) rfl (rd_calls H (by omega) (by omega))) rfl ?_
  refine run_go' (ms_168 (by decide) (E_ H 137 rfl (by decide) (r := 168) rfl) ) rfl ?_
  refine run_end' (ms_76 (by decide) (E_ H 138 rfl (by decide) (r := 76) rfl) (E_ H 139 rfl (by decide) (r := 32) rfl) (E_ H 140 rfl (by decide) (r := 2) rfl) (w := 544) rfl (by decide)) rfl ?_
  rw [show cyc + 4 + 2 + 2 + 4 + 5 + 4 + 2 + 3 = cyc + 26 from by omega]
theorem k_11 {cells calls page : List Int} {q1 q2 q3 cyc sp a x y : Int} {C Z V N : Bool} (H : Lens cells calls page) (hx : 0 ≤ x ∧ x < 256) (hy : 0 ≤ y ∧ y < 256) (hsp : 0 ≤ sp ∧ sp < 256) (hc : ∀ i, 0 ≤ rd cells i ∧ rd cells i < 256) (hk : Builtin.bitAnd (rd page y) 30 = 22) :
    mrun 14 ⟨cyc, 544, sp, a, x, y, C, Z, V, N⟩ (mem cells calls q1 q2 q3 page) = some (⟨cyc + 35, 544, sp, (rd cells (rd cells x)), x, ((y + 1) % 256), C, decide ((rd cells (rd cells x)) = 0), V, decide (128 ≤ (rd cells (rd cells x)))⟩, mem (cells.set x.toNat (rd cells (rd cells x))) calls 22 (rd cells x) q3 page) := by
  refine run_go' (ms_185 (by decide) (E_ H 32 rfl (by decide) (r := 185) rfl) (E_ H 33 rfl (by decide) (r := 0) rfl) (E_ H 34 rfl (by decide) (r := 3) rfl) (rd_page H hy.1 hy.2)) rfl ?_
  refine run_go' (ms_200 (by decide) (E_ H 35 rfl (by decide) (r := 200) rfl) rfl) rfl ?_
  refine run_go' (ms_41 (by decide) (E_ H 36 rfl (by decide) (r := 41) rfl) (E_ H 37 rfl (by decide) (r := 30) rfl) hk) rfl ?_
  refine run_go' (ms_141 (by decide) (E_ H 38 rfl (by decide) (r := 141) rfl) (E_ H 39 rfl (by decide) (r := 42) rfl) (E_ H 40 rfl (by decide) (r := 2) rfl) (w := 554) rfl (by decide)) rfl ?_
  rw [set_q1 H]
  refine run_go' (ms_108 (by decide) (E_ H 41 rfl (by decide) (r := 108) rfl) (E_ H 42 rfl (by decide) (r := 22) rfl) (E_ H 43 rfl (by decide) (r := 2) rfl) (w := 534) rfl (by decide) (E_ H 22 rfl (by decide) (r := 141) rfl) (E_ H 23 rfl (by decide) (r := 2) rfl) (p2 := 653) rfl (by decide)) rfl ?_
  refine run_go' (ms_181 (by decide) (E_ H 141 rfl (by decide) (r := 181) rfl) (E_ H 142 rfl (by decide) (r := 0) rfl) (z := x) (by omega) (rd_cells H (by omega) (by omega))) rfl ?_
  refine run_go' (ms_141 (by decide) (E_ H 143 rfl (by decide) (r := 141) rfl) (E_ H 144 rfl (by decide) (r := 147) rfl) (E_ H 145 rfl (by decide) (r := 2) rfl) (w := 659) rfl (by decide)) rfl ?_
  rw [set_q2 H]
  refine run_go' (ms_165 (by decide) (E_ H 146 rfl (by decide) (r := 165) rfl) (E_ H 147 rfl (by decide) (r := (rd cells x)) rfl) (rd_cells H (hc _).1 (hc _).2)) rfl ?_
  refine run_go' (ms_149 (by decide) (E_ H 148 rfl (by decide) (r := 149) rfl) (E_ H 149 rfl (by decide) (r := 0) rfl) (z := x) (by omega)) rfl ?_
  rw [set_cells H (by omega) (by omega)]
  refine run_end' (ms_76 (by decide) (E_ (lens_cells H _) 150 rfl (by decide) (r := 76) rfl) (E_ (lens_cells H _) 151 rfl (by decide) (r := 32) rfl) (E_ (lens_cells H _) 152 rfl (by decide) (r := 2) rfl) (w := 544) rfl (by decide)) rfl ?_
  rw [show cyc + 4 + 2 + 2 + 4 + 5 + 4 + 4 + 3 + 4 + 3 = cyc + 35 from by omega]
theorem k_12 {cells calls page : List Int} {q1 q2 q3 cyc sp a x y : Int} {C Z V N : Bool} (H : Lens cells calls page) (hx : 0 ≤ x ∧ x < 256) (hy : 0 ≤ y ∧ y < 256) (hsp : 0 ≤ sp ∧ sp < 256) (hc : ∀ i, 0 ≤ rd cells i ∧ rd cells i < 256) (hk : Builtin.bitAnd (rd page y) 30 = 24) :
    mrun 14 ⟨cyc, 544, sp, a, x, y, C, Z, V, N⟩ (mem cells calls q1 q2 q3 page) = some (⟨cyc + 39, 544, sp, (rd cells ((x + 1) % 256)), ((x + 2) % 256), ((y + 1) % 256), C, decide (((x + 2) % 256) = 0), V, decide (128 ≤ ((x + 2) % 256))⟩, mem (cells.set (rd cells x).toNat (rd cells ((x + 1) % 256))) calls 24 q2 (rd cells x) page) := by
  refine run_go' (ms_185 (by decide) (E_ H 32 rfl (by decide) (r := 185) rfl) (E_ H 33 rfl (by decide) (r := 0) rfl) (E_ H 34 rfl (by decide) (r := 3) rfl) (rd_page H hy.1 hy.2)) rfl ?_
  refine run_go' (ms_200 (by decide) (E_ H 35 rfl (by decide) (r := 200) rfl) rfl) rfl ?_
  refine run_go' (ms_41 (by decide) (E_ H 36 rfl (by decide) (r := 41) rfl) (E_ H 37 rfl (by decide) (r := 30) rfl) hk) rfl ?_
  refine run_go' (ms_141 (by decide) (E_ H 38 rfl (by decide) (r := 141) rfl) (E_ H 39 rfl (by decide) (r := 42) rfl) (E_ H 40 rfl (by decide) (r := 2) rfl) (w := 554) rfl (by decide)) rfl ?_
  rw [set_q1 H]
  refine run_go' (ms_108 (by decide) (E_ H 41 rfl (by decide) (r := 108) rfl) (E_ H 42 rfl (by decide) (r := 24) rfl) (E_ H 43 rfl (by decide) (r := 2) rfl) (w := 536) rfl (by decide) (E_ H 24 rfl (by decide) (r := 153) rfl) (E_ H 25 rfl (by decide) (r := 2) rfl) (p2 := 665) rfl (by decide)) rfl ?_
  refine run_go' (ms_181 (by decide) (E_ H 153 rfl (by decide) (r := 181) rfl) (E_ H 154 rfl (by decide) (r := 0) rfl) (z := x) (by omega) (rd_cells H (by omega) (by omega))) rfl ?_
  refine run_go' (ms_141 (by decide) (E_ H 155 rfl (by decide) (r := 141) rfl) (E_ H 156 rfl (by decide) (r := 161) rfl) (E_ H 157 rfl (by decide) (r := 2) rfl) (w := 673) rfl (by decide)) rfl ?_
  rw [set_q3 H]
  refine run_go' (ms_181 (by decide) (E_ H 158 rfl (by decide) (r := 181) rfl) (E_ H 159 rfl (by decide) (r := 1) rfl) (z := ((x + 1) % 256)) (by omega) (rd_cells H (by omega) (by omega))) rfl ?_
  refine run_go' (ms_133 (by decide) (E_ H 160 rfl (by decide) (r := 133) rfl) (E_ H 161 rfl (by decide) (r := (rd cells x)) rfl)) rfl ?_
  rw [set_cells H (hc _).1 (hc _).2]
  refine run_go' (ms_232 (by decide) (E_ (lens_cells H _) 162 rfl (by decide) (r := 232) rfl) rfl) rfl ?_
  refine run_go' (ms_232 (by decide) (E_ (lens_cells H _) 163 rfl (by decide) (r := 232) rfl) (v := (x + 2) % 256) (by omega)) rfl ?_
  refine run_end' (ms_76 (by decide) (E_ (lens_cells H _) 164 rfl (by decide) (r := 76) rfl) (E_ (lens_cells H _) 165 rfl (by decide) (r := 32) rfl) (E_ (lens_cells H _) 166 rfl (by decide) (r := 2) rfl) (w := 544) rfl (by decide)) rfl ?_
  rw [show cyc + 4 + 2 + 2 + 4 + 5 + 4 + 4 + 4 + 3 + 2 + 2 + 3 = cyc + 39 from by omega]
theorem k_13 {cells calls page : List Int} {q1 q2 q3 cyc sp a x y : Int} {C Z V N : Bool} (H : Lens cells calls page) (hx : 0 ≤ x ∧ x < 256) (hy : 0 ≤ y ∧ y < 256) (hsp : 0 ≤ sp ∧ sp < 256) (hc : ∀ i, 0 ≤ rd cells i ∧ rd cells i < 256) (hk : Builtin.bitAnd (rd page y) 30 = 26) :
    mrun 14 ⟨cyc, 544, sp, a, x, y, C, Z, V, N⟩ (mem cells calls q1 q2 q3 page) = some (⟨cyc + 40, 544, sp, (if (rd cells ((x + 1) % 256)) < (rd cells x) then (1 : Int) else 0), ((x + 1) % 256), ((y + 1) % 256), false, decide (((x + 1) % 256) = 0), V, decide (128 ≤ ((x + 1) % 256))⟩, mem (cells.set ((x + 1) % 256).toNat (if (rd cells ((x + 1) % 256)) < (rd cells x) then (1 : Int) else 0)) calls 26 q2 q3 page) := by
  refine run_go' (ms_185 (by decide) (E_ H 32 rfl (by decide) (r := 185) rfl) (E_ H 33 rfl (by decide) (r := 0) rfl) (E_ H 34 rfl (by decide) (r := 3) rfl) (rd_page H hy.1 hy.2)) rfl ?_
  refine run_go' (ms_200 (by decide) (E_ H 35 rfl (by decide) (r := 200) rfl) rfl) rfl ?_
  refine run_go' (ms_41 (by decide) (E_ H 36 rfl (by decide) (r := 41) rfl) (E_ H 37 rfl (by decide) (r := 30) rfl) hk) rfl ?_
  refine run_go' (ms_141 (by decide) (E_ H 38 rfl (by decide) (r := 141) rfl) (E_ H 39 rfl (by decide) (r := 42) rfl) (E_ H 40 rfl (by decide) (r := 2) rfl) (w := 554) rfl (by decide)) rfl ?_
  rw [set_q1 H]
  refine run_go' (ms_108 (by decide) (E_ H 41 rfl (by decide) (r := 108) rfl) (E_ H 42 rfl (by decide) (r := 26) rfl) (E_ H 43 rfl (by decide) (r := 2) rfl) (w := 538) rfl (by decide) (E_ H 26 rfl (by decide) (r := 167) rfl) (E_ H 27 rfl (by decide) (r := 2) rfl) (p2 := 679) rfl (by decide)) rfl ?_
  refine run_go' (ms_181 (by decide) (E_ H 167 rfl (by decide) (r := 181) rfl) (E_ H 168 rfl (by decide) (r := 1) rfl) (z := ((x + 1) % 256)) (by omega) (rd_cells H (by omega) (by omega))) rfl ?_
  refine run_go' (ms_213 (by decide) (E_ H 169 rfl (by decide) (r := 213) rfl) (E_ H 170 rfl (by decide) (r := 0) rfl) (z := x) (by omega) (rd_cells H (by omega) (by omega))) rfl ?_
  refine run_go' (ms_169 (by decide) (E_ H 171 rfl (by decide) (r := 169) rfl) (E_ H 172 rfl (by decide) (r := 0) rfl)) rfl ?_
  refine run_go' (ms_42 (by decide) (E_ H 173 rfl (by decide) (r := 42) rfl) rfl) rfl ?_
  refine run_go' (ms_73 (by decide) (E_ H 174 rfl (by decide) (r := 73) rfl) (E_ H 175 rfl (by decide) (r := 1) rfl) (v := (if (rd cells ((x + 1) % 256)) < (rd cells x) then (1 : Int) else 0)) (eor_lt _ _)) rfl ?_
  refine run_go' (ms_232 (by decide) (E_ H 176 rfl (by decide) (r := 232) rfl) rfl) rfl ?_
  refine run_go' (ms_149 (by decide) (E_ H 177 rfl (by decide) (r := 149) rfl) (E_ H 178 rfl (by decide) (r := 0) rfl) (z := ((x + 1) % 256)) (by omega)) rfl ?_
  rw [set_cells H (by omega) (by omega)]
  refine run_end' (ms_76 (by decide) (E_ (lens_cells H _) 179 rfl (by decide) (r := 76) rfl) (E_ (lens_cells H _) 180 rfl (by decide) (r := 32) rfl) (E_ (lens_cells H _) 181 rfl (by decide) (r := 2) rfl) (w := 544) rfl (by decide)) rfl ?_
  rw [show cyc + 4 + 2 + 2 + 4 + 5 + 4 + 4 + 2 + 2 + 2 + 2 + 4 + 3 = cyc + 40 from by omega]
theorem k_14 {cells calls page : List Int} {q1 q2 q3 cyc sp a x y : Int} {C Z V N : Bool} (H : Lens cells calls page) (hx : 0 ≤ x ∧ x < 256) (hy : 0 ≤ y ∧ y < 256) (hsp : 0 ≤ sp ∧ sp < 256) (hc : ∀ i, 0 ≤ rd cells i ∧ rd cells i < 256) (hk : Builtin.bitAnd (rd page y) 30 = 28) :
    mrun 14 ⟨cyc, 544, sp, a, x, y, C, Z, V, N⟩ (mem cells calls q1 q2 q3 page) = some (⟨cyc + 32, 544, sp, ((rd cells x) * 2 % 256), x, ((y + 1) % 256), decide ((rd cells x) % 2 = 1), decide (((rd cells x) / 2 + if 128 ≤ (rd cells x) then 128 else 0) = 0), V, decide (128 ≤ ((rd cells x) / 2 + if 128 ≤ (rd cells x) then 128 else 0))⟩, mem (cells.set x.toNat ((rd cells x) / 2 + if 128 ≤ (rd cells x) then 128 else 0)) calls 28 q2 q3 page) := by
  refine run_go' (ms_185 (by decide) (E_ H 32 rfl (by decide) (r := 185) rfl) (E_ H 33 rfl (by decide) (r := 0) rfl) (E_ H 34 rfl (by decide) (r := 3) rfl) (rd_page H hy.1 hy.2)) rfl ?_
  refine run_go' (ms_200 (by decide) (E_ H 35 rfl (by decide) (r := 200) rfl) rfl) rfl ?_
  refine run_go' (ms_41 (by decide) (E_ H 36 rfl (by decide) (r := 41) rfl) (E_ H 37 rfl (by decide) (r := 30) rfl) hk) rfl ?_
  refine run_go' (ms_141 (by decide) (E_ H 38 rfl (by decide) (r := 141) rfl) (E_ H 39 rfl (by decide) (r := 42) rfl) (E_ H 40 rfl (by decide) (r := 2) rfl) (w := 554) rfl (by decide)) rfl ?_
  rw [set_q1 H]
  refine run_go' (ms_108 (by decide) (E_ H 41 rfl (by decide) (r := 108) rfl) (E_ H 42 rfl (by decide) (r := 28) rfl) (E_ H 43 rfl (by decide) (r := 2) rfl) (w := 540) rfl (by decide) (E_ H 28 rfl (by decide) (r := 182) rfl) (E_ H 29 rfl (by decide) (r := 2) rfl) (p2 := 694) rfl (by decide)) rfl ?_
  refine run_go' (ms_181 (by decide) (E_ H 182 rfl (by decide) (r := 181) rfl) (E_ H 183 rfl (by decide) (r := 0) rfl) (z := x) (by omega) (rd_cells H (by omega) (by omega))) rfl ?_
  refine run_go' (ms_10 (by decide) (E_ H 184 rfl (by decide) (r := 10) rfl) rfl) rfl ?_
  refine run_go' (ms_118 (by decide) (E_ H 185 rfl (by decide) (r := 118) rfl) (E_ H 186 rfl (by decide) (r := 0) rfl) (z := x) (by omega) (rd_cells H (by omega) (by omega)) (r := ((rd cells x) / 2 + if 128 ≤ (rd cells x) then 128 else 0)) (by simp only [decide_eq_true_eq])) rfl ?_
  rw [set_cells H (by omega) (by omega)]
  refine run_end' (ms_76 (by decide) (E_ (lens_cells H _) 187 rfl (by decide) (r := 76) rfl) (E_ (lens_cells H _) 188 rfl (by decide) (r := 32) rfl) (E_ (lens_cells H _) 189 rfl (by decide) (r := 2) rfl) (w := 544) rfl (by decide)) rfl ?_
  rw [show cyc + 4 + 2 + 2 + 4 + 5 + 4 + 2 + 6 + 3 = cyc + 32 from by omega]
theorem k_15t {cells calls page : List Int} {q1 q2 q3 cyc sp a x y : Int} {C Z V N : Bool} (H : Lens cells calls page) (hx : 0 ≤ x ∧ x < 256) (hy : 0 ≤ y ∧ y < 256) (hsp : 0 ≤ sp ∧ sp < 256) (hc : ∀ i, 0 ≤ rd cells i ∧ rd cells i < 256) (hk : Builtin.bitAnd (rd page y) 30 = 30) (h15 : (((rd cells x) - 1) % 256) ≠ 0) :
    mrun 14 ⟨cyc, 544, sp, a, x, y, C, Z, V, N⟩ (mem cells calls q1 q2 q3 page) = some (⟨cyc + 35, 544, sp, (rd page ((y + 1) % 256)), x, (rd page ((y + 1) % 256)), C, decide ((rd page ((y + 1) % 256)) = 0), V, decide (128 ≤ (rd page ((y + 1) % 256)))⟩, mem (cells.set x.toNat (((rd cells x) - 1) % 256)) calls 30 q2 q3 page) := by
  have hy1 : 0 ≤ (y + 1) % 256 ∧ (y + 1) % 256 < 256 := by omega
  refine run_go' (ms_185 (by decide) (E_ H 32 rfl (by decide) (r := 185) rfl) (E_ H 33 rfl (by decide) (r := 0) rfl) (E_ H 34 rfl (by decide) (r := 3) rfl) (rd_page H hy.1 hy.2)) rfl ?_
  refine run_go' (ms_200 (by decide) (E_ H 35 rfl (by decide) (r := 200) rfl) rfl) rfl ?_
  refine run_go' (ms_41 (by decide) (E_ H 36 rfl (by decide) (r := 41) rfl) (E_ H 37 rfl (by decide) (r := 30) rfl) hk) rfl ?_
  refine run_go' (ms_141 (by decide) (E_ H 38 rfl (by decide) (r := 141) rfl) (E_ H 39 rfl (by decide) (r := 42) rfl) (E_ H 40 rfl (by decide) (r := 2) rfl) (w := 554) rfl (by decide)) rfl ?_
  rw [set_q1 H]
  refine run_go' (ms_108 (by decide) (E_ H 41 rfl (by decide) (r := 108) rfl) (E_ H 42 rfl (by decide) (r := 30) rfl) (E_ H 43 rfl (by decide) (r := 2) rfl) (w := 542) rfl (by decide) (E_ H 30 rfl (by decide) (r := 190) rfl) (E_ H 31 rfl (by decide) (r := 2) rfl) (p2 := 702) rfl (by decide)) rfl ?_
  refine run_go' (ms_214 (by decide) (E_ H 190 rfl (by decide) (r := 214) rfl) (E_ H 191 rfl (by decide) (r := 0) rfl) (z := x) (by omega) (rd_cells H (by omega) (by omega)) rfl) rfl ?_
  rw [set_cells H (by omega) (by omega)]
  refine run_go' (ms_208t (by decide) (E_ (lens_cells H _) 192 rfl (by decide) (r := 208) rfl) (E_ (lens_cells H _) 193 rfl (by decide) (r := 171) rfl) (decide_eq_false h15) (by decide) (p2 := 621) rfl) rfl ?_
  refine run_go' (ms_185 (by decide) (E_ (lens_cells H _) 109 rfl (by decide) (r := 185) rfl) (E_ (lens_cells H _) 110 rfl (by decide) (r := 0) rfl) (E_ (lens_cells H _) 111 rfl (by decide) (r := 3) rfl) (rd_page (lens_cells H _) hy1.1 hy1.2)) rfl ?_
  refine run_go' (ms_168 (by decide) (E_ (lens_cells H _) 112 rfl (by decide) (r := 168) rfl) ) rfl ?_
  refine run_end' (ms_76 (by decide) (E_ (lens_cells H _) 113 rfl (by decide) (r := 76) rfl) (E_ (lens_cells H _) 114 rfl (by decide) (r := 32) rfl) (E_ (lens_cells H _) 115 rfl (by decide) (r := 2) rfl) (w := 544) rfl (by decide)) rfl ?_
  rw [show cyc + 4 + 2 + 2 + 4 + 5 + 6 + 3 + 4 + 2 + 3 = cyc + 35 from by omega]
theorem k_15f {cells calls page : List Int} {q1 q2 q3 cyc sp a x y : Int} {C Z V N : Bool} (H : Lens cells calls page) (hx : 0 ≤ x ∧ x < 256) (hy : 0 ≤ y ∧ y < 256) (hsp : 0 ≤ sp ∧ sp < 256) (hc : ∀ i, 0 ≤ rd cells i ∧ rd cells i < 256) (hk : Builtin.bitAnd (rd page y) 30 = 30) (h15 : (((rd cells x) - 1) % 256) = 0) :
    mrun 14 ⟨cyc, 544, sp, a, x, y, C, Z, V, N⟩ (mem cells calls q1 q2 q3 page) = some (⟨cyc + 32, 544, sp, 30, ((x + 1) % 256), (((y + 1) % 256 + 1) % 256), C, decide (((x + 1) % 256) = 0), V, decide (128 ≤ ((x + 1) % 256))⟩, mem (cells.set x.toNat (((rd cells x) - 1) % 256)) calls 30 q2 q3 page) := by
  refine run_go' (ms_185 (by decide) (E_ H 32 rfl (by decide) (r := 185) rfl) (E_ H 33 rfl (by decide) (r := 0) rfl) (E_ H 34 rfl (by decide) (r := 3) rfl) (rd_page H hy.1 hy.2)) rfl ?_
  refine run_go' (ms_200 (by decide) (E_ H 35 rfl (by decide) (r := 200) rfl) rfl) rfl ?_
  refine run_go' (ms_41 (by decide) (E_ H 36 rfl (by decide) (r := 41) rfl) (E_ H 37 rfl (by decide) (r := 30) rfl) hk) rfl ?_
  refine run_go' (ms_141 (by decide) (E_ H 38 rfl (by decide) (r := 141) rfl) (E_ H 39 rfl (by decide) (r := 42) rfl) (E_ H 40 rfl (by decide) (r := 2) rfl) (w := 554) rfl (by decide)) rfl ?_
  rw [set_q1 H]
  refine run_go' (ms_108 (by decide) (E_ H 41 rfl (by decide) (r := 108) rfl) (E_ H 42 rfl (by decide) (r := 30) rfl) (E_ H 43 rfl (by decide) (r := 2) rfl) (w := 542) rfl (by decide) (E_ H 30 rfl (by decide) (r := 190) rfl) (E_ H 31 rfl (by decide) (r := 2) rfl) (p2 := 702) rfl (by decide)) rfl ?_
  refine run_go' (ms_214 (by decide) (E_ H 190 rfl (by decide) (r := 214) rfl) (E_ H 191 rfl (by decide) (r := 0) rfl) (z := x) (by omega) (rd_cells H (by omega) (by omega)) rfl) rfl ?_
  rw [set_cells H (by omega) (by omega)]
  refine run_go' (ms_208f (by decide) (E_ (lens_cells H _) 192 rfl (by decide) (r := 208) rfl) (decide_eq_true h15)) rfl ?_
  refine run_go' (ms_200 (by decide) (E_ (lens_cells H _) 194 rfl (by decide) (r := 200) rfl) rfl) rfl ?_
  refine run_go' (ms_232 (by decide) (E_ (lens_cells H _) 195 rfl (by decide) (r := 232) rfl) rfl) rfl ?_
  refine run_end' (ms_76 (by decide) (E_ (lens_cells H _) 196 rfl (by decide) (r := 76) rfl) (E_ (lens_cells H _) 197 rfl (by decide) (r := 32) rfl) (E_ (lens_cells H _) 198 rfl (by decide) (r := 2) rfl) (w := 544) rfl (by decide)) rfl ?_
  rw [show cyc + 4 + 2 + 2 + 4 + 5 + 6 + 2 + 2 + 2 + 3 = cyc + 32 from by omega]
end
section
open PySem PySem.W PySem.Calls PyProof.Rows
set_option maxRecDepth 100000
set_option maxHeartbeats 4000000
theorem ifacts (w : World) : (fnIn (KF w.params) 1128 = true ∧ isFn (KF w.params) (.ref 1128) = true ∧ keepIn (KF w.params) (.ref 1128) = true) ∧ (fnIn (KF w.params) 1198 = true ∧ isFn (KF w.params) (.ref 1198) = true ∧ keepIn (KF w.params) (.ref 1198) = true) ∧ (fnIn (KF w.params) 533 = true ∧ isFn (KF w.params) (.ref 533) = true ∧ keepIn (KF w.params) (.ref 533) = true) ∧ (fnIn (KF w.params) 925 = true ∧ isFn (KF w.params) (.ref 925) = true ∧ keepIn (KF w.params) (.ref 925) = true) ∧ (fnIn (KF w.params) 799 = true ∧ isFn (KF w.params) (.ref 799) = true ∧ keepIn (KF w.params) (.ref 799) = true) ∧ (fnIn (KF w.params) 1212 = true ∧ isFn (KF w.params) (.ref 1212) = true ∧ keepIn (KF w.params) (.ref 1212) = true) ∧ (fnIn (KF w.params) 960 = true ∧ isFn (KF w.params) (.ref 960) = true ∧ keepIn (KF w.params) (.ref 960) = true) ∧ (fnIn (KF w.params) 673 = true ∧ isFn (KF w.params) (.ref 673) = true ∧ keepIn (KF w.params) (.ref 673) = true) ∧ (fnIn (KF w.params) 1107 = true ∧ isFn (KF w.params) (.ref 1107) = true ∧ keepIn (KF w.params) (.ref 1107) = true) ∧ (fnIn (KF w.params) 463 = true ∧ isFn (KF w.params) (.ref 463) = true ∧ keepIn (KF w.params) (.ref 463) = true) ∧ (fnIn (KF w.params) 834 = true ∧ isFn (KF w.params) (.ref 834) = true ∧ keepIn (KF w.params) (.ref 834) = true) ∧ (fnIn (KF w.params) 1331 = true ∧ isFn (KF w.params) (.ref 1331) = true ∧ keepIn (KF w.params) (.ref 1331) = true) ∧ (fnIn (KF w.params) 596 = true ∧ isFn (KF w.params) (.ref 596) = true ∧ keepIn (KF w.params) (.ref 596) = true) ∧ (fnIn (KF w.params) 1387 = true ∧ isFn (KF w.params) (.ref 1387) = true ∧ keepIn (KF w.params) (.ref 1387) = true) ∧ (fnIn (KF w.params) 652 = true ∧ isFn (KF w.params) (.ref 652) = true ∧ keepIn (KF w.params) (.ref 652) = true) ∧ (fnIn (KF w.params) 778 = true ∧ isFn (KF w.params) (.ref 778) = true ∧ keepIn (KF w.params) (.ref 778) = true) ∧ (fnIn (KF w.params) 1044 = true ∧ isFn (KF w.params) (.ref 1044) = true ∧ keepIn (KF w.params) (.ref 1044) = true) ∧ (fnIn (KF w.params) 1373 = true ∧ isFn (KF w.params) (.ref 1373) = true ∧ keepIn (KF w.params) (.ref 1373) = true) ∧ (fnIn (KF w.params) 974 = true ∧ isFn (KF w.params) (.ref 974) = true ∧ keepIn (KF w.params) (.ref 974) = true) ∧ (fnIn (KF w.params) 904 = true ∧ isFn (KF w.params) (.ref 904) = true ∧ keepIn (KF w.params) (.ref 904) = true) ∧ (fnIn (KF w.params) 1030 = true ∧ isFn (KF w.params) (.ref 1030) = true ∧ keepIn (KF w.params) (.ref 1030) = true) ∧ (fnIn (KF w.params) 890 = true ∧ isFn (KF w.params) (.ref 890) = true ∧ keepIn (KF w.params) (.ref 890) = true) ∧ (fnIn (KF w.params) 1254 = true ∧ isFn (KF w.params) (.ref 1254) = true ∧ keepIn (KF w.params) (.ref 1254) = true) ∧ (fnIn (KF w.params) 1051 = true ∧ isFn (KF w.params) (.ref 1051) = true ∧ keepIn (KF w.params) (.ref 1051) = true) ∧ (fnIn (KF w.params) 540 = true ∧ isFn (KF w.params) (.ref 540) = true ∧ keepIn (KF w.params) (.ref 540) = true) ∧ (fnIn (KF w.params) 659 = true ∧ isFn (KF w.params) (.ref 659) = true ∧ keepIn (KF w.params) (.ref 659) = true) ∧ (fnIn (KF w.params) 414 = true ∧ isFn (KF w.params) (.ref 414) = true ∧ keepIn (KF w.params) (.ref 414) = true) ∧ (fnIn (KF w.params) 841 = true ∧ isFn (KF w.params) (.ref 841) = true ∧ keepIn (KF w.params) (.ref 841) = true) ∧ (fnIn (KF w.params) 1261 = true ∧ isFn (KF w.params) (.ref 1261) = true ∧ keepIn (KF w.params) (.ref 1261) = true) ∧ (fnIn (KF w.params) 1240 = true ∧ isFn (KF w.params) (.ref 1240) = true ∧ keepIn (KF w.params) (.ref 1240) = true) := by
  refine ⟨?_, ?_, ?_, ?_, ?_, ?_, ?_, ?_, ?_, ?_, ?_, ?_, ?_, ?_, ?_, ?_, ?_, ?_, ?_, ?_, ?_, ?_, ?_, ?_, ?_, ?_, ?_, ?_, ?_, ?_⟩ <;> exact ⟨by k_is, by k_is, by k_is⟩
theorem FI_b9 (w : World) : (fnIn (KF w.params) 1128 = true ∧ isFn (KF w.params) (.ref 1128) = true ∧ keepIn (KF w.params) (.ref 1128) = true) := (ifacts w).1
theorem FI_c8 (w : World) : (fnIn (KF w.params) 1198 = true ∧ isFn (KF w.params) (.ref 1198) = true ∧ keepIn (KF w.params) (.ref 1198) = true) := (ifacts w).2.1
theorem FI_29 (w : World) : (fnIn (KF w.params) 533 = true ∧ isFn (KF w.params) (.ref 533) = true ∧ keepIn (KF w.params) (.ref 533) = true) := (ifacts w).2.2.1
theorem FI_8d (w : World) : (fnIn (KF w.params) 925 = true ∧ isFn (KF w.params) (.ref 925) = true ∧ keepIn (KF w.params) (.ref 925) = true) := (ifacts w).2.2.2.1
theorem FI_6c (w : World) : (fnIn (KF w.params) 799 = true ∧ isFn (KF w.params) (.ref 799) = true ∧ keepIn (KF w.params) (.ref 799) = true) := (ifacts w).2.2.2.2.1
theorem FI_ca (w : World) : (fnIn (KF w.params) 1212 = true ∧ isFn (KF w.params) (.ref 1212) = true ∧ keepIn (KF w.params) (.ref 1212) = true) := (ifacts w).2.2.2.2.2.1
theorem FI_95 (w : World) : (fnIn (KF w.params) 960 = true ∧ isFn (KF w.params) (.ref 960) = true ∧ keepIn (KF w.params) (.ref 960) = true) := (ifacts w).2.2.2.2.2.2.1
theorem FI_4c (w : World) : (fnIn (KF w.params) 673 = true ∧ isFn (KF w.params) (.ref 673) = true ∧ keepIn (KF w.params) (.ref 673) = true) := (ifacts w).2.2.2.2.2.2.2.1
theorem FI_b5 (w : World) : (fnIn (KF w.params) 1107 = true ∧ isFn (KF w.params) (.ref 1107) = true ∧ keepIn (KF w.params) (.ref 1107) = true) := (ifacts w).2.2.2.2.2.2.2.2.1
theorem FI_18 (w : World) : (fnIn (KF w.params) 463 = true ∧ isFn (KF w.params) (.ref 463) = true ∧ keepIn (KF w.params) (.ref 463) = true) := (ifacts w).2.2.2.2.2.2.2.2.2.1
theorem FI_75 (w : World) : (fnIn (KF w.params) 834 = true ∧ isFn (KF w.params) (.ref 834) = true ∧ keepIn (KF w.params) (.ref 834) = true) := (ifacts w).2.2.2.2.2.2.2.2.2.2.1
theorem FI_e8 (w : World) : (fnIn (KF w.params) 1331 = true ∧ isFn (KF w.params) (.ref 1331) = true ∧ keepIn (KF w.params) (.ref 1331) = true) := (ifacts w).2.2.2.2.2.2.2.2.2.2.2.1
theorem FI_38 (w : World) : (fnIn (KF w.params) 596 = true ∧ isFn (KF w.params) (.ref 596) = true ∧ keepIn (KF w.params) (.ref 596) = true) := (ifacts w).2.2.2.2.2.2.2.2.2.2.2.2.1
theorem FI_f5 (w : World) : (fnIn (KF w.params) 1387 = true ∧ isFn (KF w.params) (.ref 1387) = true ∧ keepIn (KF w.params) (.ref 1387) = true) := (ifacts w).2.2.2.2.2.2.2.2.2.2.2.2.2.1
theorem FI_48 (w : World) : (fnIn (KF w.params) 652 = true ∧ isFn (KF w.params) (.ref 652) = true ∧ keepIn (KF w.params) (.ref 652) = true) := (ifacts w).2.2.2.2.2.2.2.2.2.2.2.2.2.2.1
theorem FI_68 (w : World) : (fnIn (KF w.params) 778 = true ∧ isFn (KF w.params) (.ref 778) = true ∧ keepIn (KF w.params) (.ref 778) = true) := (ifacts w).2.2.2.2.2.2.2.2.2.2.2.2.2.2.2.1
theorem FI_a8 (w : World) : (fnIn (KF w.params) 1044 = true ∧ isFn (KF w.params) (.ref 1044) = true ∧ keepIn (KF w.params) (.ref 1044) = true) := (ifacts w).2.2.2.2.2.2.2.2.2.2.2.2.2.2.2.2.1
theorem FI_f0 (w : World) : (fnIn (KF w.params) 1373 = true ∧ isFn (KF w.params) (.ref 1373) = true ∧ keepIn (KF w.params) (.ref 1373) = true) := (ifacts w).2.2.2.2.2.2.2.2.2.2.2.2.2.2.2.2.2.1
theorem FI_98 (w : World) : (fnIn (KF w.params) 974 = true ∧ isFn (KF w.params) (.ref 974) = true ∧ keepIn (KF w.params) (.ref 974) = true) := (ifacts w).2.2.2.2.2.2.2.2.2.2.2.2.2.2.2.2.2.2.1
theorem FI_88 (w : World) : (fnIn (KF w.params) 904 = true ∧ isFn (KF w.params) (.ref 904) = true ∧ keepIn (KF w.params) (.ref 904) = true) := (ifacts w).2.2.2.2.2.2.2.2.2.2.2.2.2.2.2.2.2.2.2.1
theorem FI_a5 (w : World) : (fnIn (KF w.params) 1030 = true ∧ isFn (KF w.params) (.ref 1030) = true ∧ keepIn (KF w.params) (.ref 1030) = true) := (ifacts w).2.2.2.2.2.2.2.2.2.2.2.2.2.2.2.2.2.2.2.2.1
theorem FI_85 (w : World) : (fnIn (KF w.params) 890 = true ∧ isFn (KF w.params) (.ref 890) = true ∧ keepIn (KF w.params) (.ref 890) = true) := (ifacts w).2.2.2.2.2.2.2.2.2.2.2.2.2.2.2.2.2.2.2.2.2.1
theorem FI_d5 (w : World) : (fnIn (KF w.params) 1254 = true ∧ isFn (KF w.params) (.ref 1254) = true ∧ keepIn (KF w.params) (.ref 1254) = true) := (ifacts w).2.2.2.2.2.2.2.2.2.2.2.2.2.2.2.2.2.2.2.2.2.2.1
theorem FI_a9 (w : World) : (fnIn (KF w.params) 1051 = true ∧ isFn (KF w.params) (.ref 1051) = true ∧ keepIn (KF w.params) (.ref 1051) = true) := (ifacts w).2.2.2.2.2.2.2.2.2.2.2.2.2.2.2.2.2.2.2.2.2.2.2.1
theorem FI_2a (w : World) : (fnIn (KF w.params) 540 = true ∧ isFn (KF w.params) (.ref 540) = true ∧ keepIn (KF w.params) (.ref 540) = true) := (ifacts w).2.2.2.2.2.2.2.2.2.2.2.2.2.2.2.2.2.2.2.2.2.2.2.2.1
theorem FI_49 (w : World) : (fnIn (KF w.params) 659 = true ∧ isFn (KF w.params) (.ref 659) = true ∧ keepIn (KF w.params) (.ref 659) = true) := (ifacts w).2.2.2.2.2.2.2.2.2.2.2.2.2.2.2.2.2.2.2.2.2.2.2.2.2.1
theorem FI_0a (w : World) : (fnIn (KF w.params) 414 = true ∧ isFn (KF w.params) (.ref 414) = true ∧ keepIn (KF w.params) (.ref 414) = true) := (ifacts w).2.2.2.2.2.2.2.2.2.2.2.2.2.2.2.2.2.2.2.2.2.2.2.2.2.2.1
theorem FI_76 (w : World) : (fnIn (KF w.params) 841 = true ∧ isFn (KF w.params) (.ref 841) = true ∧ keepIn (KF w.params) (.ref 841) = true) := (ifacts w).2.2.2.2.2.2.2.2.2.2.2.2.2.2.2.2.2.2.2.2.2.2.2.2.2.2.2.1
theorem FI_d6 (w : World) : (fnIn (KF w.params) 1261 = true ∧ isFn (KF w.params) (.ref 1261) = true ∧ keepIn (KF w.params) (.ref 1261) = true) := (ifacts w).2.2.2.2.2.2.2.2.2.2.2.2.2.2.2.2.2.2.2.2.2.2.2.2.2.2.2.2.1
theorem FI_d0 (w : World) : (fnIn (KF w.params) 1240 = true ∧ isFn (KF w.params) (.ref 1240) = true ∧ keepIn (KF w.params) (.ref 1240) = true) := (ifacts w).2.2.2.2.2.2.2.2.2.2.2.2.2.2.2.2.2.2.2.2.2.2.2.2.2.2.2.2.2
structure Wf (g : Rg) : Prop where
  a0 : 0 ≤ g.a
  a1 : g.a < 256
  x0 : 0 ≤ g.x
  x1 : g.x < 256
  y0 : 0 ≤ g.y
  y1 : g.y < 256
  s0 : 0 ≤ g.sp
  s1 : g.sp < 256
structure Mem (ns : List Int) : Prop where
  l : ns.length = 1024
  b : ∀ b ∈ ns, 0 ≤ b ∧ b < 256
theorem mstep_pc {g : Rg} {ns : List Int} {r : Rg × List Int} (h : mstep g ns = some r) : 0 ≤ g.pc ∧ g.pc < 1000 := by
  by_cases hp : 0 ≤ g.pc ∧ g.pc < 1000
  · exact hp
  · unfold mstep at h
    rw [if_pos hp] at h
    cases h
theorem if_some {α : Type} {c : Prop} [Decidable c] {x : Option α} {r : α} (h : (if c then x else none) = some r) : c ∧ x = some r := by
  by_cases hc : c
  · exact ⟨hc, by rwa [if_pos hc] at h⟩
  · rw [if_neg hc] at h; cases h
theorem rg_ext {a1 a2 a3 a4 a5 a6 b1 b2 b3 b4 b5 b6 : Int} {c1 c2 c3 c4 d1 d2 d3 d4 : Bool} (h1 : a1 = b1) (h2 : a2 = b2) (h3 : a3 = b3) (h4 : a4 = b4) (h5 : a5 = b5) (h6 : a6 = b6) (k1 : c1 = d1) (k2 : c2 = d2) (k3 : c3 = d3) (k4 : c4 = d4) :
    (⟨a1, a2, a3, a4, a5, a6, c1, c2, c3, c4⟩ : Rg) = ⟨b1, b2, b3, b4, b5, b6, d1, d2, d3, d4⟩ := by rw [h1, h2, h3, h4, h5, h6, k1, k2, k3, k4]
theorem step_of {w : World} {I : Im} {g g2 : Rg} {ex : Int} {ad : Value} {t : Tk} {vs : List Value} {ns ns2 : List Int} {ct : Array Value} {fn : Addr} {e cy : Int} {te0 tcy : Tok} {Q : Rg → Int → List Value → Prop} (ap : Apart I) (hi : IntsAre vs ns) (M : Mem ns) (hp : 0 ≤ g.pc ∧ g.pc < 1000)
    (hE : (arrOf (KF w.params) 1425).toList[(rd ns g.pc).toNat]? = some (.int e te0)) (hF : (arrOf (KF w.params) 1423).toList[(rd ns g.pc).toNat]? = some (.ref fn)) (hC : (arrOf (KF w.params) 1424).toList[(rd ns g.pc).toNat]? = some (.int cy tcy)) (hfn : fnIn (KF w.params) fn = true ∧ isFn (KF w.params) (.ref fn) = true ∧ keepIn (KF w.params) (.ref fn) = true)
    (call : ∀ t', DoesT w 8 fn [.ref I.x] I { g with pc := g.pc + 1 } 0 (.int e te0) t' vs ct (fun r g' ex' vs' => r = .none ∧ Q g' ex' vs'))
    (hQ : ∀ g1 ex1 vs', Q g1 ex1 vs' → { g1 with pc := g1.pc % 65536, cyc := g1.cyc + (cy + ex1) } = g2 ∧ IntsAre vs' ns2) :
    Steps w 10 I g ex ad t vs ct (fun g' vs' => g' = g2 ∧ IntsAre vs' ns2) := by
  intro A₀ A base h₀ outer env L m mg mb p loose mean s rest R B F X T hA hf hke hroom hch hne off htab N h
  refine c_step ap hi M.l M.b hp.1 hp.2 hE hF hC hfn.1 hfn.2.1 hfn.2.2 call B F X T hA hf hke hroom hch hne off htab N ?_
  intro g' ex' ad' te tc tpc tsp ta tx ty tp vs' h' tk ct' more hq F' O' Tb' N'
  obtain ⟨g1, ex1, hq1, rfl⟩ := hq
  obtain ⟨e1, e2⟩ := hQ g1 ex1 vs' hq1
  exact h _ ex' ad' te tc tpc tsp ta tx ty tp vs' h' tk ct' more ⟨e1, e2⟩ F' O' Tb' N'
theorem step_of2 {w : World} {I : Im} {g2 : Rg} {cyc pc sp a x y cyc1 pc1 sp1 a1 x1 y1 : Int} {C Z V N C1 Z1 V1 N1 : Bool} {ex ex1 : Int} {ad : Value} {t : Tk} {vs : List Value} {ns ns2 : List Int} {ct : Array Value} {fn : Addr} {e cy : Int} {te0 tcy : Tok} (ap : Apart I) (hi : IntsAre vs ns) (M : Mem ns) (hp : 0 ≤ pc ∧ pc < 1000)
    (hE : (arrOf (KF w.params) 1425).toList[(rd ns pc).toNat]? = some (.int e te0)) (hF : (arrOf (KF w.params) 1423).toList[(rd ns pc).toNat]? = some (.ref fn)) (hC : (arrOf (KF w.params) 1424).toList[(rd ns pc).toNat]? = some (.int cy tcy)) (hfn : fnIn (KF w.params) fn = true ∧ isFn (KF w.params) (.ref fn) = true ∧ keepIn (KF w.params) (.ref fn) = true)
    (D : DV w 8 fn [.val (.ref I.x)] I ⟨0, cyc, pc + 1, sp, a, x, y, fl C Z V N, .val (.int e te0)⟩ ns (.val .none) ⟨ex1, cyc1, pc1, sp1, a1, x1, y1, fl C1 Z1 V1 N1, .val (.int e te0)⟩ ns2) (hQ : (⟨cyc1 + (cy + ex1), pc1 % 65536, sp1, a1, x1, y1, C1, Z1, V1, N1⟩ : Rg) = g2) : Steps w 10 I ⟨cyc, pc, sp, a, x, y, C, Z, V, N⟩ ex ad t vs ct (fun g' vs' => g' = g2 ∧ IntsAre vs' ns2) :=
  step_of (g := ⟨cyc, pc, sp, a, x, y, C, Z, V, N⟩) ap hi M hp hE hF hC hfn (Q := fun g' ex' vs' => g' = ⟨cyc1, pc1, sp1, a1, x1, y1, C1, Z1, V1, N1⟩ ∧ ex' = ex1 ∧ IntsAre vs' ns2) (fun t' => Does.toT (DV.does (g := ⟨cyc, pc + 1, sp, a, x, y, C, Z, V, N⟩) (g' := ⟨cyc1, pc1, sp1, a1, x1, y1, C1, Z1, V1, N1⟩) D ap hi)) (by rintro _ _ _ ⟨rfl, rfl, h⟩; exact ⟨hQ, h⟩)
theorem DV.mem {w : World} {k : Nat} {fn : Addr} {as : List AV} {I : Im} {r r' : Raw} {ns ns' ns2 : List Int} {ret : AV} (D : DV w k fn as I r ns ret r' ns') (e : ns' = ns2) : DV w k fn as I r ns ret r' ns2 := e ▸ D
theorem if_t {α : Type} {c : Prop} [Decidable c] {x y : Option α} {r : α} (hc : c) (h : (if c then x else y) = some r) : x = some r := by rw [if_pos hc] at h; exact h
theorem if_f {α : Type} {c : Prop} [Decidable c] {x y : Option α} {r : α} (hc : ¬ c) (h : (if c then x else y) = some r) : y = some r := by rw [if_neg hc] at h; exact h
theorem at_op {g : Rg} {ns : List Int} {r : Rg × List Int} {c : Int} {f : Rg → List Int → Option (Rg × List Int)} (h : mstep g ns = some r) (e : rd ns g.pc = c) (hl : tbl.lookup c = some f) : f g ns = some r := by
  rw [mstep_eq (mstep_pc h), e] at h
  exact mst_at h hl
theorem pair_of {a b : Rg} {x y : List Int} (h : some (a, x) = some (b, y)) : a = b ∧ x = y := by
  cases h; exact ⟨rfl, rfl⟩
theorem st_b9 {w : World} {I : Im} {g g2 : Rg} {ex : Int} {ad : Value} {t : Tk} {vs : List Value} {ns ns2 : List Int} {ct : Array Value} (ap : Apart I) (hi : IntsAre vs ns) (M : Mem ns) (W : Wf g) (e : rd ns g.pc = 185) (hm : mstep g ns = some (g2, ns2)) :
    Steps w 10 I g ex ad t vs ct (fun g' vs' => g' = g2 ∧ IntsAre vs' ns2) := by
  obtain ⟨cyc, pc, sp, a, x, y, C, Z, V, N⟩ := g
  have hp : 0 ≤ pc ∧ pc < 1000 := mstep_pc hm
  have h := at_op hm e rfl
  have q0 : 0 ≤ pc + 1 := by omega
  have q1 : pc + 1 < 1023 := by omega
  obtain ⟨hc, h⟩ := if_some (show (if _ then _ else none) = some _ from h)
  dsimp only at hc
  obtain ⟨rfl, rfl⟩ := pair_of (show some (_, _) = some _ from h)
  refine step_of2 ap hi M hp (by rw [e]; rfl) (by rw [e]; rfl) (by rw [e]; rfl) (FI_b9 w) (d_b9 M.l M.b q0 q1 hc.1 hc.2 W.y0 W.y1) ?_
  exact (by refine rg_ext ?_ ?_ ?_ ?_ ?_ ?_ ?_ ?_ ?_ ?_ <;> first | rfl | (dsimp only [nz]; first | rfl | omega | (simp only [Int.add_zero]; done)))
theorem st_b5 {w : World} {I : Im} {g g2 : Rg} {ex : Int} {ad : Value} {t : Tk} {vs : List Value} {ns ns2 : List Int} {ct : Array Value} (ap : Apart I) (hi : IntsAre vs ns) (M : Mem ns) (W : Wf g) (e : rd ns g.pc = 181) (hm : mstep g ns = some (g2, ns2)) :
    Steps w 10 I g ex ad t vs ct (fun g' vs' => g' = g2 ∧ IntsAre vs' ns2) := by
  obtain ⟨cyc, pc, sp, a, x, y, C, Z, V, N⟩ := g
  have hp : 0 ≤ pc ∧ pc < 1000 := mstep_pc hm
  have h := at_op hm e rfl
  have q0 : 0 ≤ pc + 1 := by omega
  have q1 : pc + 1 < 1023 := by omega
  obtain ⟨rfl, rfl⟩ := pair_of (show some (_, _) = some _ from h)
  refine step_of2 ap hi M hp (by rw [e]; rfl) (by rw [e]; rfl) (by rw [e]; rfl) (FI_b5 w) (d_b5 M.l M.b q0 q1) ?_
  exact (by refine rg_ext ?_ ?_ ?_ ?_ ?_ ?_ ?_ ?_ ?_ ?_ <;> first | rfl | (dsimp only [nz]; first | rfl | omega | (simp only [Int.add_zero]; done)))
theorem st_a5 {w : World} {I : Im} {g g2 : Rg} {ex : Int} {ad : Value} {t : Tk} {vs : List Value} {ns ns2 : List Int} {ct : Array Value} (ap : Apart I) (hi : IntsAre vs ns) (M : Mem ns) (W : Wf g) (e : rd ns g.pc = 165) (hm : mstep g ns = some (g2, ns2)) :
    Steps w 10 I g ex ad t vs ct (fun g' vs' => g' = g2 ∧ IntsAre vs' ns2) := by
  obtain ⟨cyc, pc, sp, a, x, y, C, Z, V, N⟩ := g
  have hp : 0 ≤ pc ∧ pc < 1000 := mstep_pc hm
  have h := at_op hm e rfl
  have q0 : 0 ≤ pc + 1 := by omega
  have q1 : pc + 1 < 1023 := by omega
  obtain ⟨rfl, rfl⟩ := pair_of (show some (_, _) = some _ from h)
  refine step_of2 ap hi M hp (by rw [e]; rfl) (by rw [e]; rfl) (by rw [e]; rfl) (FI_a5 w) (d_a5 M.l M.b q0 q1) ?_
  exact (by refine rg_ext ?_ ?_ ?_ ?_ ?_ ?_ ?_ ?_ ?_ ?_ <;> first | rfl | (dsimp only [nz]; first | rfl | omega | (simp only [Int.add_zero]; done)))
theorem st_a9 {w : World} {I : Im} {g g2 : Rg} {ex : Int} {ad : Value} {t : Tk} {vs : List Value} {ns ns2 : List Int} {ct : Array Value} (ap : Apart I) (hi : IntsAre vs ns) (M : Mem ns) (W : Wf g) (e : rd ns g.pc = 169) (hm : mstep g ns = some (g2, ns2)) :
    Steps w 10 I g ex ad t vs ct (fun g' vs' => g' = g2 ∧ IntsAre vs' ns2) := by
  obtain ⟨cyc, pc, sp, a, x, y, C, Z, V, N⟩ := g
  have hp : 0 ≤ pc ∧ pc < 1000 := mstep_pc hm
  have h := at_op hm e rfl
  have q0 : 0 ≤ pc + 1 := by omega
  have q1 : pc + 1 < 1023 := by omega
  obtain ⟨rfl, rfl⟩ := pair_of (show some (_, _) = some _ from h)
  refine step_of2 ap hi M hp (by rw [e]; rfl) (by rw [e]; rfl) (by rw [e]; rfl) (FI_a9 w) (d_a9 M.l M.b q0 q1) ?_
  exact (by refine rg_ext ?_ ?_ ?_ ?_ ?_ ?_ ?_ ?_ ?_ ?_ <;> first | rfl | (dsimp only [nz]; first | rfl | omega | (simp only [Int.add_zero]; done)))
theorem st_29 {w : World} {I : Im} {g g2 : Rg} {ex : Int} {ad : Value} {t : Tk} {vs : List Value} {ns ns2 : List Int} {ct : Array Value} (ap : Apart I) (hi : IntsAre vs ns) (M : Mem ns) (W : Wf g) (e : rd ns g.pc = 41) (hm : mstep g ns = some (g2, ns2)) :
    Steps w 10 I g ex ad t vs ct (fun g' vs' => g' = g2 ∧ IntsAre vs' ns2) := by
  obtain ⟨cyc, pc, sp, a, x, y, C, Z, V, N⟩ := g
  have hp : 0 ≤ pc ∧ pc < 1000 := mstep_pc hm
  have h := at_op hm e rfl
  have q0 : 0 ≤ pc + 1 := by omega
  have q1 : pc + 1 < 1023 := by omega
  obtain ⟨rfl, rfl⟩ := pair_of (show some (_, _) = some _ from h)
  refine step_of2 ap hi M hp (by rw [e]; rfl) (by rw [e]; rfl) (by rw [e]; rfl) (FI_29 w) (d_29 M.l M.b q0 q1) ?_
  exact (by refine rg_ext ?_ ?_ ?_ ?_ ?_ ?_ ?_ ?_ ?_ ?_ <;> first | rfl | (dsimp only [nz]; first | rfl | omega | (simp only [Int.add_zero]; done)))
theorem st_49 {w : World} {I : Im} {g g2 : Rg} {ex : Int} {ad : Value} {t : Tk} {vs : List Value} {ns ns2 : List Int} {ct : Array Value} (ap : Apart I) (hi : IntsAre vs ns) (M : Mem ns) (W : Wf g) (e : rd ns g.pc = 73) (hm : mstep g ns = some (g2, ns2)) :
    Steps w 10 I g ex ad t vs ct (fun g' vs' => g' = g2 ∧ IntsAre vs' ns2) := by
  obtain ⟨cyc, pc, sp, a, x, y, C, Z, V, N⟩ := g
  have hp : 0 ≤ pc ∧ pc < 1000 := mstep_pc hm
  have h := at_op hm e rfl
  have q0 : 0 ≤ pc + 1 := by omega
  have q1 : pc + 1 < 1023 := by omega
  obtain ⟨rfl, rfl⟩ := pair_of (show some (_, _) = some _ from h)
  refine step_of2 ap hi M hp (by rw [e]; rfl) (by rw [e]; rfl) (by rw [e]; rfl) (FI_49 w) (d_49 M.l M.b q0 q1 W.a0 W.a1) ?_
  exact (by refine rg_ext ?_ ?_ ?_ ?_ ?_ ?_ ?_ ?_ ?_ ?_ <;> first | rfl | (dsimp only [nz]; first | rfl | omega | (simp only [Int.add_zero]; done)))
theorem st_75 {w : World} {I : Im} {g g2 : Rg} {ex : Int} {ad : Value} {t : Tk} {vs : List Value} {ns ns2 : List Int} {ct : Array Value} (ap : Apart I) (hi : IntsAre vs ns) (M : Mem ns) (W : Wf g) (e : rd ns g.pc = 117) (hm : mstep g ns = some (g2, ns2)) :
    Steps w 10 I g ex ad t vs ct (fun g' vs' => g' = g2 ∧ IntsAre vs' ns2) := by
  obtain ⟨cyc, pc, sp, a, x, y, C, Z, V, N⟩ := g
  have hp : 0 ≤ pc ∧ pc < 1000 := mstep_pc hm
  have h := at_op hm e rfl
  have q0 : 0 ≤ pc + 1 := by omega
  have q1 : pc + 1 < 1023 := by omega
  obtain ⟨hc, h⟩ := if_some (show (if _ then _ else none) = some _ from h)
  dsimp only at hc
  obtain ⟨rfl, rfl⟩ := pair_of (show some (_, _) = some _ from h)
  obtain rfl : C = false := hc
  refine step_of2 ap hi M hp (by rw [e]; rfl) (by rw [e]; rfl) (by rw [e]; rfl) (FI_75 w) (d_75 M.l M.b q0 q1 W.a0 W.a1) ?_
  exact (by refine rg_ext ?_ ?_ ?_ ?_ ?_ ?_ ?_ ?_ ?_ ?_ <;> first | rfl | (dsimp only [nz]; first | rfl | omega | (simp only [Int.add_zero]; done)))
theorem st_f5 {w : World} {I : Im} {g g2 : Rg} {ex : Int} {ad : Value} {t : Tk} {vs : List Value} {ns ns2 : List Int} {ct : Array Value} (ap : Apart I) (hi : IntsAre vs ns) (M : Mem ns) (W : Wf g) (e : rd ns g.pc = 245) (hm : mstep g ns = some (g2, ns2)) :
    Steps w 10 I g ex ad t vs ct (fun g' vs' => g' = g2 ∧ IntsAre vs' ns2) := by
  obtain ⟨cyc, pc, sp, a, x, y, C, Z, V, N⟩ := g
  have hp : 0 ≤ pc ∧ pc < 1000 := mstep_pc hm
  have h := at_op hm e rfl
  have q0 : 0 ≤ pc + 1 := by omega
  have q1 : pc + 1 < 1023 := by omega
  obtain ⟨hc, h⟩ := if_some (show (if _ then _ else none) = some _ from h)
  dsimp only at hc
  obtain ⟨rfl, rfl⟩ := pair_of (show some (_, _) = some _ from h)
  obtain rfl : C = true := hc
  refine step_of2 ap hi M hp (by rw [e]; rfl) (by rw [e]; rfl) (by rw [e]; rfl) (FI_f5 w) (d_f5 M.l M.b q0 q1 W.a0 W.a1) ?_
  exact (by refine rg_ext ?_ ?_ ?_ ?_ ?_ ?_ ?_ ?_ ?_ ?_ <;> first | rfl | (dsimp only [nz]; first | rfl | omega | (simp only [Int.add_zero]; done)))
theorem st_d5 {w : World} {I : Im} {g g2 : Rg} {ex : Int} {ad : Value} {t : Tk} {vs : List Value} {ns ns2 : List Int} {ct : Array Value} (ap : Apart I) (hi : IntsAre vs ns) (M : Mem ns) (W : Wf g) (e : rd ns g.pc = 213) (hm : mstep g ns = some (g2, ns2)) :
    Steps w 10 I g ex ad t vs ct (fun g' vs' => g' = g2 ∧ IntsAre vs' ns2) := by
  obtain ⟨cyc, pc, sp, a, x, y, C, Z, V, N⟩ := g
  have hp : 0 ≤ pc ∧ pc < 1000 := mstep_pc hm
  have h := at_op hm e rfl
  have q0 : 0 ≤ pc + 1 := by omega
  have q1 : pc + 1 < 1023 := by omega
  obtain ⟨rfl, rfl⟩ := pair_of (show some (_, _) = some _ from h)
  refine step_of2 ap hi M hp (by rw [e]; rfl) (by rw [e]; rfl) (by rw [e]; rfl) (FI_d5 w) (d_d5 M.l M.b q0 q1 W.a0 W.a1) ?_
  exact (by refine rg_ext ?_ ?_ ?_ ?_ ?_ ?_ ?_ ?_ ?_ ?_ <;> first | rfl | (dsimp only [nz]; first | rfl | omega | (simp only [Int.add_zero]; done)))
theorem st_8d {w : World} {I : Im} {g g2 : Rg} {ex : Int} {ad : Value} {t : Tk} {vs : List Value} {ns ns2 : List Int} {ct : Array Value} (ap : Apart I) (hi : IntsAre vs ns) (M : Mem ns) (W : Wf g) (e : rd ns g.pc = 141) (hm : mstep g ns = some (g2, ns2)) :
    Steps w 10 I g ex ad t vs ct (fun g' vs' => g' = g2 ∧ IntsAre vs' ns2) := by
  obtain ⟨cyc, pc, sp, a, x, y, C, Z, V, N⟩ := g
  have hp : 0 ≤ pc ∧ pc < 1000 := mstep_pc hm
  have h := at_op hm e rfl
  have q0 : 0 ≤ pc + 1 := by omega
  have q1 : pc + 1 < 1023 := by omega
  obtain ⟨hc, h⟩ := if_some (show (if _ then _ else none) = some _ from h)
  dsimp only at hc
  obtain ⟨rfl, rfl⟩ := pair_of (show some (_, _) = some _ from h)
  refine step_of2 ap hi M hp (by rw [e]; rfl) (by rw [e]; rfl) (by rw [e]; rfl) (FI_8d w) (d_8d M.l M.b q0 q1 hc) ?_
  exact (by refine rg_ext ?_ ?_ ?_ ?_ ?_ ?_ ?_ ?_ ?_ ?_ <;> first | rfl | (dsimp only [nz]; first | rfl | omega | (simp only [Int.add_zero]; done)))
theorem st_95 {w : World} {I : Im} {g g2 : Rg} {ex : Int} {ad : Value} {t : Tk} {vs : List Value} {ns ns2 : List Int} {ct : Array Value} (ap : Apart I) (hi : IntsAre vs ns) (M : Mem ns) (W : Wf g) (e : rd ns g.pc = 149) (hm : mstep g ns = some (g2, ns2)) :
    Steps w 10 I g ex ad t vs ct (fun g' vs' => g' = g2 ∧ IntsAre vs' ns2) := by
  obtain ⟨cyc, pc, sp, a, x, y, C, Z, V, N⟩ := g
  have hp : 0 ≤ pc ∧ pc < 1000 := mstep_pc hm
  have h := at_op hm e rfl
  have q0 : 0 ≤ pc + 1 := by omega
  have q1 : pc + 1 < 1023 := by omega
  obtain ⟨rfl, rfl⟩ := pair_of (show some (_, _) = some _ from h)
  refine step_of2 ap hi M hp (by rw [e]; rfl) (by rw [e]; rfl) (by rw [e]; rfl) (FI_95 w) (d_95 M.l M.b q0 q1) ?_
  exact (by refine rg_ext ?_ ?_ ?_ ?_ ?_ ?_ ?_ ?_ ?_ ?_ <;> first | rfl | (dsimp only [nz]; first | rfl | omega | (simp only [Int.add_zero]; done)))
theorem st_85 {w : World} {I : Im} {g g2 : Rg} {ex : Int} {ad : Value} {t : Tk} {vs : List Value} {ns ns2 : List Int} {ct : Array Value} (ap : Apart I) (hi : IntsAre vs ns) (M : Mem ns) (W : Wf g) (e : rd ns g.pc = 133) (hm : mstep g ns = some (g2, ns2)) :
    Steps w 10 I g ex ad t vs ct (fun g' vs' => g' = g2 ∧ IntsAre vs' ns2) := by
  obtain ⟨cyc, pc, sp, a, x, y, C, Z, V, N⟩ := g
  have hp : 0 ≤ pc ∧ pc < 1000 := mstep_pc hm
  have h := at_op hm e rfl
  have q0 : 0 ≤ pc + 1 := by omega
  have q1 : pc + 1 < 1023 := by omega
  obtain ⟨rfl, rfl⟩ := pair_of (show some (_, _) = some _ from h)
  refine step_of2 ap hi M hp (by rw [e]; rfl) (by rw [e]; rfl) (by rw [e]; rfl) (FI_85 w) (d_85 M.l M.b q0 q1) ?_
  exact (by refine rg_ext ?_ ?_ ?_ ?_ ?_ ?_ ?_ ?_ ?_ ?_ <;> first | rfl | (dsimp only [nz]; first | rfl | omega | (simp only [Int.add_zero]; done)))
theorem st_76 {w : World} {I : Im} {g g2 : Rg} {ex : Int} {ad : Value} {t : Tk} {vs : List Value} {ns ns2 : List Int} {ct : Array Value} (ap : Apart I) (hi : IntsAre vs ns) (M : Mem ns) (W : Wf g) (e : rd ns g.pc = 118) (hm : mstep g ns = some (g2, ns2)) :
    Steps w 10 I g ex ad t vs ct (fun g' vs' => g' = g2 ∧ IntsAre vs' ns2) := by
  obtain ⟨cyc, pc, sp, a, x, y, C, Z, V, N⟩ := g
  have hp : 0 ≤ pc ∧ pc < 1000 := mstep_pc hm
  have h := at_op hm e rfl
  have q0 : 0 ≤ pc + 1 := by omega
  have q1 : pc + 1 < 1023 := by omega
  obtain ⟨rfl, rfl⟩ := pair_of (show some (_, _) = some _ from h)
  refine step_of2 ap hi M hp (by rw [e]; rfl) (by rw [e]; rfl) (by rw [e]; rfl) (FI_76 w) (d_76 M.l M.b q0 q1) ?_
  exact (by refine rg_ext ?_ ?_ ?_ ?_ ?_ ?_ ?_ ?_ ?_ ?_ <;> first | rfl | (dsimp only [nz]; first | rfl | omega | (simp only [Int.add_zero]; done)))
theorem st_d6 {w : World} {I : Im} {g g2 : Rg} {ex : Int} {ad : Value} {t : Tk} {vs : List Value} {ns ns2 : List Int} {ct : Array Value} (ap : Apart I) (hi : IntsAre vs ns) (M : Mem ns) (W : Wf g) (e : rd ns g.pc = 214) (hm : mstep g ns = some (g2, ns2)) :
    Steps w 10 I g ex ad t vs ct (fun g' vs' => g' = g2 ∧ IntsAre vs' ns2) := by
  obtain ⟨cyc, pc, sp, a, x, y, C, Z, V, N⟩ := g
  have hp : 0 ≤ pc ∧ pc < 1000 := mstep_pc hm
  have h := at_op hm e rfl
  have q0 : 0 ≤ pc + 1 := by omega
  have q1 : pc + 1 < 1023 := by omega
  obtain ⟨rfl, rfl⟩ := pair_of (show some (_, _) = some _ from h)
  refine step_of2 ap hi M hp (by rw [e]; rfl) (by rw [e]; rfl) (by rw [e]; rfl) (FI_d6 w) (d_d6 M.l M.b q0 q1) ?_
  exact (by refine rg_ext ?_ ?_ ?_ ?_ ?_ ?_ ?_ ?_ ?_ ?_ <;> first | rfl | (dsimp only [nz]; first | rfl | omega | (simp only [Int.add_zero]; done)))
theorem st_a8 {w : World} {I : Im} {g g2 : Rg} {ex : Int} {ad : Value} {t : Tk} {vs : List Value} {ns ns2 : List Int} {ct : Array Value} (ap : Apart I) (hi : IntsAre vs ns) (M : Mem ns) (W : Wf g) (e : rd ns g.pc = 168) (hm : mstep g ns = some (g2, ns2)) :
    Steps w 10 I g ex ad t vs ct (fun g' vs' => g' = g2 ∧ IntsAre vs' ns2) := by
  obtain ⟨cyc, pc, sp, a, x, y, C, Z, V, N⟩ := g
  have hp : 0 ≤ pc ∧ pc < 1000 := mstep_pc hm
  have h := at_op hm e rfl
  have q0 : 0 ≤ pc + 1 := by omega
  have q1 : pc + 1 < 1023 := by omega
  obtain ⟨rfl, rfl⟩ := pair_of (show some (_, _) = some _ from h)
  refine step_of2 ap hi M hp (by rw [e]; rfl) (by rw [e]; rfl) (by rw [e]; rfl) (FI_a8 w) (d_a8 W.a0 W.a1) ?_
  exact (by refine rg_ext ?_ ?_ ?_ ?_ ?_ ?_ ?_ ?_ ?_ ?_ <;> first | rfl | (dsimp only [nz]; first | rfl | omega | (simp only [Int.add_zero]; done)))
theorem st_98 {w : World} {I : Im} {g g2 : Rg} {ex : Int} {ad : Value} {t : Tk} {vs : List Value} {ns ns2 : List Int} {ct : Array Value} (ap : Apart I) (hi : IntsAre vs ns) (M : Mem ns) (W : Wf g) (e : rd ns g.pc = 152) (hm : mstep g ns = some (g2, ns2)) :
    Steps w 10 I g ex ad t vs ct (fun g' vs' => g' = g2 ∧ IntsAre vs' ns2) := by
  obtain ⟨cyc, pc, sp, a, x, y, C, Z, V, N⟩ := g
  have hp : 0 ≤ pc ∧ pc < 1000 := mstep_pc hm
  have h := at_op hm e rfl
  have q0 : 0 ≤ pc + 1 := by omega
  have q1 : pc + 1 < 1023 := by omega
  obtain ⟨rfl, rfl⟩ := pair_of (show some (_, _) = some _ from h)
  refine step_of2 ap hi M hp (by rw [e]; rfl) (by rw [e]; rfl) (by rw [e]; rfl) (FI_98 w) (d_98 W.y0 W.y1) ?_
  exact (by refine rg_ext ?_ ?_ ?_ ?_ ?_ ?_ ?_ ?_ ?_ ?_ <;> first | rfl | (dsimp only [nz]; first | rfl | omega | (simp only [Int.add_zero]; done)))
theorem st_c8 {w : World} {I : Im} {g g2 : Rg} {ex : Int} {ad : Value} {t : Tk} {vs : List Value} {ns ns2 : List Int} {ct : Array Value} (ap : Apart I) (hi : IntsAre vs ns) (M : Mem ns) (W : Wf g) (e : rd ns g.pc = 200) (hm : mstep g ns = some (g2, ns2)) :
    Steps w 10 I g ex ad t vs ct (fun g' vs' => g' = g2 ∧ IntsAre vs' ns2) := by
  obtain ⟨cyc, pc, sp, a, x, y, C, Z, V, N⟩ := g
  have hp : 0 ≤ pc ∧ pc < 1000 := mstep_pc hm
  have h := at_op hm e rfl
  have q0 : 0 ≤ pc + 1 := by omega
  have q1 : pc + 1 < 1023 := by omega
  obtain ⟨rfl, rfl⟩ := pair_of (show some (_, _) = some _ from h)
  refine step_of2 ap hi M hp (by rw [e]; rfl) (by rw [e]; rfl) (by rw [e]; rfl) (FI_c8 w) (d_c8) ?_
  exact (by refine rg_ext ?_ ?_ ?_ ?_ ?_ ?_ ?_ ?_ ?_ ?_ <;> first | rfl | (dsimp only [nz]; first | rfl | omega | (simp only [Int.add_zero]; done)))
theorem st_e8 {w : World} {I : Im} {g g2 : Rg} {ex : Int} {ad : Value} {t : Tk} {vs : List Value} {ns ns2 : List Int} {ct : Array Value} (ap : Apart I) (hi : IntsAre vs ns) (M : Mem ns) (W : Wf g) (e : rd ns g.pc = 232) (hm : mstep g ns = some (g2, ns2)) :
    Steps w 10 I g ex ad t vs ct (fun g' vs' => g' = g2 ∧ IntsAre vs' ns2) := by
  obtain ⟨cyc, pc, sp, a, x, y, C, Z, V, N⟩ := g
  have hp : 0 ≤ pc ∧ pc < 1000 := mstep_pc hm
  have h := at_op hm e rfl
  have q0 : 0 ≤ pc + 1 := by omega
  have q1 : pc + 1 < 1023 := by omega
  obtain ⟨rfl, rfl⟩ := pair_of (show some (_, _) = some _ from h)
  refine step_of2 ap hi M hp (by rw [e]; rfl) (by rw [e]; rfl) (by rw [e]; rfl) (FI_e8 w) (d_e8) ?_
  exact (by refine rg_ext ?_ ?_ ?_ ?_ ?_ ?_ ?_ ?_ ?_ ?_ <;> first | rfl | (dsimp only [nz]; first | rfl | omega | (simp only [Int.add_zero]; done)))
theorem st_88 {w : World} {I : Im} {g g2 : Rg} {ex : Int} {ad : Value} {t : Tk} {vs : List Value} {ns ns2 : List Int} {ct : Array Value} (ap : Apart I) (hi : IntsAre vs ns) (M : Mem ns) (W : Wf g) (e : rd ns g.pc = 136) (hm : mstep g ns = some (g2, ns2)) :
    Steps w 10 I g ex ad t vs ct (fun g' vs' => g' = g2 ∧ IntsAre vs' ns2) := by
  obtain ⟨cyc, pc, sp, a, x, y, C, Z, V, N⟩ := g
  have hp : 0 ≤ pc ∧ pc < 1000 := mstep_pc hm
  have h := at_op hm e rfl
  have q0 : 0 ≤ pc + 1 := by omega
  have q1 : pc + 1 < 1023 := by omega
  obtain ⟨rfl, rfl⟩ := pair_of (show some (_, _) = some _ from h)
  refine step_of2 ap hi M hp (by rw [e]; rfl) (by rw [e]; rfl) (by rw [e]; rfl) (FI_88 w) (d_88) ?_
  exact (by refine rg_ext ?_ ?_ ?_ ?_ ?_ ?_ ?_ ?_ ?_ ?_ <;> first | rfl | (dsimp only [nz]; first | rfl | omega | (simp only [Int.add_zero]; done)))
theorem st_ca {w : World} {I : Im} {g g2 : Rg} {ex : Int} {ad : Value} {t : Tk} {vs : List Value} {ns ns2 : List Int} {ct : Array Value} (ap : Apart I) (hi : IntsAre vs ns) (M : Mem ns) (W : Wf g) (e : rd ns g.pc = 202) (hm : mstep g ns = some (g2, ns2)) :
    Steps w 10 I g ex ad t vs ct (fun g' vs' => g' = g2 ∧ IntsAre vs' ns2) := by
  obtain ⟨cyc, pc, sp, a, x, y, C, Z, V, N⟩ := g
  have hp : 0 ≤ pc ∧ pc < 1000 := mstep_pc hm
  have h := at_op hm e rfl
  have q0 : 0 ≤ pc + 1 := by omega
  have q1 : pc + 1 < 1023 := by omega
  obtain ⟨rfl, rfl⟩ := pair_of (show some (_, _) = some _ from h)
  refine step_of2 ap hi M hp (by rw [e]; rfl) (by rw [e]; rfl) (by rw [e]; rfl) (FI_ca w) (d_ca) ?_
  exact (by refine rg_ext ?_ ?_ ?_ ?_ ?_ ?_ ?_ ?_ ?_ ?_ <;> first | rfl | (dsimp only [nz]; first | rfl | omega | (simp only [Int.add_zero]; done)))
theorem st_18 {w : World} {I : Im} {g g2 : Rg} {ex : Int} {ad : Value} {t : Tk} {vs : List Value} {ns ns2 : List Int} {ct : Array Value} (ap : Apart I) (hi : IntsAre vs ns) (M : Mem ns) (W : Wf g) (e : rd ns g.pc = 24) (hm : mstep g ns = some (g2, ns2)) :
    Steps w 10 I g ex ad t vs ct (fun g' vs' => g' = g2 ∧ IntsAre vs' ns2) := by
  obtain ⟨cyc, pc, sp, a, x, y, C, Z, V, N⟩ := g
  have hp : 0 ≤ pc ∧ pc < 1000 := mstep_pc hm
  have h := at_op hm e rfl
  have q0 : 0 ≤ pc + 1 := by omega
  have q1 : pc + 1 < 1023 := by omega
  obtain ⟨rfl, rfl⟩ := pair_of (show some (_, _) = some _ from h)
  refine step_of2 ap hi M hp (by rw [e]; rfl) (by rw [e]; rfl) (by rw [e]; rfl) (FI_18 w) (d_18) ?_
  exact (by refine rg_ext ?_ ?_ ?_ ?_ ?_ ?_ ?_ ?_ ?_ ?_ <;> first | rfl | (dsimp only [nz]; first | rfl | omega | (simp only [Int.add_zero]; done)))
theorem st_38 {w : World} {I : Im} {g g2 : Rg} {ex : Int} {ad : Value} {t : Tk} {vs : List Value} {ns ns2 : List Int} {ct : Array Value} (ap : Apart I) (hi : IntsAre vs ns) (M : Mem ns) (W : Wf g) (e : rd ns g.pc = 56) (hm : mstep g ns = some (g2, ns2)) :
    Steps w 10 I g ex ad t vs ct (fun g' vs' => g' = g2 ∧ IntsAre vs' ns2) := by
  obtain ⟨cyc, pc, sp, a, x, y, C, Z, V, N⟩ := g
  have hp : 0 ≤ pc ∧ pc < 1000 := mstep_pc hm
  have h := at_op hm e rfl
  have q0 : 0 ≤ pc + 1 := by omega
  have q1 : pc + 1 < 1023 := by omega
  obtain ⟨rfl, rfl⟩ := pair_of (show some (_, _) = some _ from h)
  refine step_of2 ap hi M hp (by rw [e]; rfl) (by rw [e]; rfl) (by rw [e]; rfl) (FI_38 w) (d_38) ?_
  exact (by refine rg_ext ?_ ?_ ?_ ?_ ?_ ?_ ?_ ?_ ?_ ?_ <;> first | rfl | (dsimp only [nz]; first | rfl | omega | (simp only [Int.add_zero]; done)))
theorem st_0a {w : World} {I : Im} {g g2 : Rg} {ex : Int} {ad : Value} {t : Tk} {vs : List Value} {ns ns2 : List Int} {ct : Array Value} (ap : Apart I) (hi : IntsAre vs ns) (M : Mem ns) (W : Wf g) (e : rd ns g.pc = 10) (hm : mstep g ns = some (g2, ns2)) :
    Steps w 10 I g ex ad t vs ct (fun g' vs' => g' = g2 ∧ IntsAre vs' ns2) := by
  obtain ⟨cyc, pc, sp, a, x, y, C, Z, V, N⟩ := g
  have hp : 0 ≤ pc ∧ pc < 1000 := mstep_pc hm
  have h := at_op hm e rfl
  have q0 : 0 ≤ pc + 1 := by omega
  have q1 : pc + 1 < 1023 := by omega
  obtain ⟨rfl, rfl⟩ := pair_of (show some (_, _) = some _ from h)
  refine step_of2 ap hi M hp (by rw [e]; rfl) (by rw [e]; rfl) (by rw [e]; rfl) (FI_0a w) (d_0a W.a0 W.a1) ?_
  exact (by refine rg_ext ?_ ?_ ?_ ?_ ?_ ?_ ?_ ?_ ?_ ?_ <;> first | rfl | (dsimp only [nz]; first | rfl | omega | (simp only [Int.add_zero]; done)))
theorem st_2a {w : World} {I : Im} {g g2 : Rg} {ex : Int} {ad : Value} {t : Tk} {vs : List Value} {ns ns2 : List Int} {ct : Array Value} (ap : Apart I) (hi : IntsAre vs ns) (M : Mem ns) (W : Wf g) (e : rd ns g.pc = 42) (hm : mstep g ns = some (g2, ns2)) :
    Steps w 10 I g ex ad t vs ct (fun g' vs' => g' = g2 ∧ IntsAre vs' ns2) := by
  obtain ⟨cyc, pc, sp, a, x, y, C, Z, V, N⟩ := g
  have hp : 0 ≤ pc ∧ pc < 1000 := mstep_pc hm
  have h := at_op hm e rfl
  have q0 : 0 ≤ pc + 1 := by omega
  have q1 : pc + 1 < 1023 := by omega
  obtain ⟨hc, h⟩ := if_some (show (if _ then _ else none) = some _ from h)
  dsimp only at hc
  obtain ⟨rfl, rfl⟩ := pair_of (show some (_, _) = some _ from h)
  obtain rfl : a = 0 := hc
  refine step_of2 ap hi M hp (by rw [e]; rfl) (by rw [e]; rfl) (by rw [e]; rfl) (FI_2a w) (d_2a) ?_
  exact (by refine rg_ext ?_ ?_ ?_ ?_ ?_ ?_ ?_ ?_ ?_ ?_ <;> first | rfl | (dsimp only [nz]; first | rfl | omega | (simp only [Int.add_zero]; done)))
theorem st_4c {w : World} {I : Im} {g g2 : Rg} {ex : Int} {ad : Value} {t : Tk} {vs : List Value} {ns ns2 : List Int} {ct : Array Value} (ap : Apart I) (hi : IntsAre vs ns) (M : Mem ns) (W : Wf g) (e : rd ns g.pc = 76) (hm : mstep g ns = some (g2, ns2)) :
    Steps w 10 I g ex ad t vs ct (fun g' vs' => g' = g2 ∧ IntsAre vs' ns2) := by
  obtain ⟨cyc, pc, sp, a, x, y, C, Z, V, N⟩ := g
  have hp : 0 ≤ pc ∧ pc < 1000 := mstep_pc hm
  have h := at_op hm e rfl
  have q0 : 0 ≤ pc + 1 := by omega
  have q1 : pc + 1 < 1023 := by omega
  obtain ⟨hc, h⟩ := if_some (show (if _ then _ else none) = some _ from h)
  dsimp only at hc
  obtain ⟨rfl, rfl⟩ := pair_of (show some (_, _) = some _ from h)
  have b1 := bytes M.b (pc + 1)
  have b2 := bytes M.b (pc + 1 + 1)
  refine step_of2 ap hi M hp (by rw [e]; rfl) (by rw [e]; rfl) (by rw [e]; rfl) (FI_4c w) (d_4c M.l M.b q0 q1) ?_
  exact (by refine rg_ext ?_ ?_ ?_ ?_ ?_ ?_ ?_ ?_ ?_ ?_ <;> first | rfl | (dsimp only [nz]; first | rfl | omega | (simp only [Int.add_zero]; done)))
theorem st_48 {w : World} {I : Im} {g g2 : Rg} {ex : Int} {ad : Value} {t : Tk} {vs : List Value} {ns ns2 : List Int} {ct : Array Value} (ap : Apart I) (hi : IntsAre vs ns) (M : Mem ns) (W : Wf g) (e : rd ns g.pc = 72) (hm : mstep g ns = some (g2, ns2)) :
    Steps w 10 I g ex ad t vs ct (fun g' vs' => g' = g2 ∧ IntsAre vs' ns2) := by
  obtain ⟨cyc, pc, sp, a, x, y, C, Z, V, N⟩ := g
  have hp : 0 ≤ pc ∧ pc < 1000 := mstep_pc hm
  have h := at_op hm e rfl
  have q0 : 0 ≤ pc + 1 := by omega
  have q1 : pc + 1 < 1023 := by omega
  obtain ⟨rfl, rfl⟩ := pair_of (show some (_, _) = some _ from h)
  refine step_of2 ap hi M hp (by rw [e]; rfl) (by rw [e]; rfl) (by rw [e]; rfl) (FI_48 w) (DV.mem (d_48 M.l W.s0 W.s1) (by rw [show a % 256 = a from Int.emod_eq_of_lt W.a0 W.a1])) ?_
  exact (by refine rg_ext ?_ ?_ ?_ ?_ ?_ ?_ ?_ ?_ ?_ ?_ <;> first | rfl | (dsimp only [nz]; first | rfl | omega | (simp only [Int.add_zero]; done)))
theorem st_68 {w : World} {I : Im} {g g2 : Rg} {ex : Int} {ad : Value} {t : Tk} {vs : List Value} {ns ns2 : List Int} {ct : Array Value} (ap : Apart I) (hi : IntsAre vs ns) (M : Mem ns) (W : Wf g) (e : rd ns g.pc = 104) (hm : mstep g ns = some (g2, ns2)) :
    Steps w 10 I g ex ad t vs ct (fun g' vs' => g' = g2 ∧ IntsAre vs' ns2) := by
  obtain ⟨cyc, pc, sp, a, x, y, C, Z, V, N⟩ := g
  have hp : 0 ≤ pc ∧ pc < 1000 := mstep_pc hm
  have h := at_op hm e rfl
  have q0 : 0 ≤ pc + 1 := by omega
  have q1 : pc + 1 < 1023 := by omega
  obtain ⟨rfl, rfl⟩ := pair_of (show some (_, _) = some _ from h)
  refine step_of2 ap hi M hp (by rw [e]; rfl) (by rw [e]; rfl) (by rw [e]; rfl) (FI_68 w) (d_68 M.l M.b W.s0 W.s1) ?_
  exact (by refine rg_ext ?_ ?_ ?_ ?_ ?_ ?_ ?_ ?_ ?_ ?_ <;> first | rfl | (dsimp only [nz]; first | rfl | omega | (simp only [Int.add_zero]; done)))
theorem st_6c {w : World} {I : Im} {g g2 : Rg} {ex : Int} {ad : Value} {t : Tk} {vs : List Value} {ns ns2 : List Int} {ct : Array Value} (ap : Apart I) (hi : IntsAre vs ns) (M : Mem ns) (W : Wf g) (e : rd ns g.pc = 108) (hm : mstep g ns = some (g2, ns2)) :
    Steps w 10 I g ex ad t vs ct (fun g' vs' => g' = g2 ∧ IntsAre vs' ns2) := by
  have hp := mstep_pc hm
  replace hm := at_op hm e rfl
  unfold f_108 at hm
  dsimp only at hm
  have b1 := bytes M.b (rd ns (g.pc + 1) + rd ns (g.pc + 1 + 1) * 256)
  have b2 := bytes M.b (rd ns (g.pc + 1) + rd ns (g.pc + 1 + 1) * 256 + 1)
  obtain ⟨hc, hm⟩ := if_some hm
  obtain ⟨hc2, hm⟩ := if_some hm
  simp only [Option.some.injEq, Prod.mk.injEq] at hm
  obtain ⟨rfl, rfl⟩ := hm
  refine step_of ap hi M hp (by rw [e]; rfl) (by rw [e]; rfl) (by rw [e]; rfl) (FI_6c w) (fun t' => ci_6c (g := { g with pc := g.pc + 1 }) ap hi M.l M.b (by dsimp only; omega) (by dsimp only; omega) hc.1 hc.2) ?_
  rintro g1 ex1 vs' ⟨rfl, rfl, rfl⟩
  exact ⟨(by first | rfl | (refine rg_ext ?_ ?_ ?_ ?_ ?_ ?_ ?_ ?_ ?_ ?_ <;> ((try dsimp only); first | rfl | omega | (simp only [Int.add_zero]; done) | skip))), hi⟩
theorem st_d0_go {w : World} {I : Im} {g g2 : Rg} {ex : Int} {ad : Value} {t : Tk} {vs : List Value} {ns ns2 : List Int} {ct : Array Value} (ap : Apart I) (hi : IntsAre vs ns) (M : Mem ns) (W : Wf g) (e : rd ns g.pc = 208) (hz : g.Z = false) (hm : mstep g ns = some (g2, ns2)) :
    Steps w 10 I g ex ad t vs ct (fun g' vs' => g' = g2 ∧ IntsAre vs' ns2) := by
  obtain ⟨cyc, pc, sp, a, x, y, C, Z, V, N⟩ := g
  have hp : 0 ≤ pc ∧ pc < 1000 := mstep_pc hm
  have h := at_op hm e rfl
  have q0 : 0 ≤ pc + 1 := by omega
  have q1 : pc + 1 < 1023 := by omega
  obtain rfl : Z = false := hz
  obtain ⟨hc, h⟩ := if_some (show (if _ then _ else none) = some _ from h)
  dsimp only at hc
  obtain ⟨rfl, rfl⟩ := pair_of (show some (_, _) = some _ from h)
  refine step_of2 ap hi M hp (by rw [e]; rfl) (by rw [e]; rfl) (by rw [e]; rfl) (FI_d0 w) (d_d0_go M.l M.b hc.1 (by omega) (by omega) (by omega) (by omega)) ?_
  exact (by refine rg_ext ?_ ?_ ?_ ?_ ?_ ?_ ?_ ?_ ?_ ?_ <;> first | rfl | (dsimp only [nz]; first | rfl | omega | (simp only [Int.add_zero]; done)))
theorem st_d0_no {w : World} {I : Im} {g g2 : Rg} {ex : Int} {ad : Value} {t : Tk} {vs : List Value} {ns ns2 : List Int} {ct : Array Value} (ap : Apart I) (hi : IntsAre vs ns) (M : Mem ns) (W : Wf g) (e : rd ns g.pc = 208) (hz : g.Z = true) (hm : mstep g ns = some (g2, ns2)) :
    Steps w 10 I g ex ad t vs ct (fun g' vs' => g' = g2 ∧ IntsAre vs' ns2) := by
  obtain ⟨cyc, pc, sp, a, x, y, C, Z, V, N⟩ := g
  have hp : 0 ≤ pc ∧ pc < 1000 := mstep_pc hm
  have h := at_op hm e rfl
  have q0 : 0 ≤ pc + 1 := by omega
  have q1 : pc + 1 < 1023 := by omega
  obtain rfl : Z = true := hz
  obtain ⟨rfl, rfl⟩ := pair_of (show some (_, _) = some _ from h)
  refine step_of2 ap hi M hp (by rw [e]; rfl) (by rw [e]; rfl) (by rw [e]; rfl) (FI_d0 w) (d_d0_no) ?_
  exact (by refine rg_ext ?_ ?_ ?_ ?_ ?_ ?_ ?_ ?_ ?_ ?_ <;> first | rfl | (dsimp only [nz]; first | rfl | omega | (simp only [Int.add_zero]; done)))
theorem st_f0_go {w : World} {I : Im} {g g2 : Rg} {ex : Int} {ad : Value} {t : Tk} {vs : List Value} {ns ns2 : List Int} {ct : Array Value} (ap : Apart I) (hi : IntsAre vs ns) (M : Mem ns) (W : Wf g) (e : rd ns g.pc = 240) (hz : g.Z = true) (hm : mstep g ns = some (g2, ns2)) :
    Steps w 10 I g ex ad t vs ct (fun g' vs' => g' = g2 ∧ IntsAre vs' ns2) := by
  obtain ⟨cyc, pc, sp, a, x, y, C, Z, V, N⟩ := g
  have hp : 0 ≤ pc ∧ pc < 1000 := mstep_pc hm
  have h := at_op hm e rfl
  have q0 : 0 ≤ pc + 1 := by omega
  have q1 : pc + 1 < 1023 := by omega
  obtain rfl : Z = true := hz
  obtain ⟨hc, h⟩ := if_some (show (if _ then _ else none) = some _ from h)
  dsimp only at hc
  obtain ⟨rfl, rfl⟩ := pair_of (show some (_, _) = some _ from h)
  refine step_of2 ap hi M hp (by rw [e]; rfl) (by rw [e]; rfl) (by rw [e]; rfl) (FI_f0 w) (d_f0_go M.l M.b hc.1 (by omega) (by omega) (by omega) (by omega)) ?_
  exact (by refine rg_ext ?_ ?_ ?_ ?_ ?_ ?_ ?_ ?_ ?_ ?_ <;> first | rfl | (dsimp only [nz]; first | rfl | omega | (simp only [Int.add_zero]; done)))
theorem st_f0_no {w : World} {I : Im} {g g2 : Rg} {ex : Int} {ad : Value} {t : Tk} {vs : List Value} {ns ns2 : List Int} {ct : Array Value} (ap : Apart I) (hi : IntsAre vs ns) (M : Mem ns) (W : Wf g) (e : rd ns g.pc = 240) (hz : g.Z = false) (hm : mstep g ns = some (g2, ns2)) :
    Steps w 10 I g ex ad t vs ct (fun g' vs' => g' = g2 ∧ IntsAre vs' ns2) := by
  obtain ⟨cyc, pc, sp, a, x, y, C, Z, V, N⟩ := g
  have hp : 0 ≤ pc ∧ pc < 1000 := mstep_pc hm
  have h := at_op hm e rfl
  have q0 : 0 ≤ pc + 1 := by omega
  have q1 : pc + 1 < 1023 := by omega
  obtain rfl : Z = false := hz
  obtain ⟨rfl, rfl⟩ := pair_of (show some (_, _) = some _ from h)
  refine step_of2 ap hi M hp (by rw [e]; rfl) (by rw [e]; rfl) (by rw [e]; rfl) (FI_f0 w) (d_f0_no) ?_
  exact (by refine rg_ext ?_ ?_ ?_ ?_ ?_ ?_ ?_ ?_ ?_ ?_ <;> first | rfl | (dsimp only [nz]; first | rfl | omega | (simp only [Int.add_zero]; done)))
theorem step_ok {w : World} {I : Im} {g g2 : Rg} {ex : Int} {ad : Value} {t : Tk} {vs : List Value} {ns ns2 : List Int} {ct : Array Value} (ap : Apart I) (hi : IntsAre vs ns) (M : Mem ns) (W : Wf g) (hm : mstep g ns = some (g2, ns2)) :
    Steps w 10 I g ex ad t vs ct (fun g' vs' => g' = g2 ∧ IntsAre vs' ns2) := by
  have hc : rd ns g.pc ∈ codes := mst_code ((mstep_eq (mstep_pc hm)).symm.trans hm)
  have key : ∀ c ∈ codes, rd ns g.pc = c → Steps w 10 I g ex ad t vs ct (fun g' vs' => g' = g2 ∧ IntsAre vs' ns2) := (fm_cons (fun e => st_b9 ap hi M W e hm) (fm_cons (fun e => st_c8 ap hi M W e hm) (fm_cons (fun e => st_29 ap hi M W e hm) (fm_cons (fun e => st_8d ap hi M W e hm) (fm_cons (fun e => st_6c ap hi M W e hm) (fm_cons (fun e => st_ca ap hi M W e hm) (fm_cons (fun e => st_95 ap hi M W e hm) (fm_cons (fun e => st_4c ap hi M W e hm) (fm_cons (fun e => st_b5 ap hi M W e hm) (fm_cons (fun e => st_18 ap hi M W e hm) (fm_cons (fun e => st_75 ap hi M W e hm) (fm_cons (fun e => st_e8 ap hi M W e hm) (fm_cons (fun e => st_38 ap hi M W e hm) (fm_cons (fun e => st_f5 ap hi M W e hm) (fm_cons (fun e => st_48 ap hi M W e hm) (fm_cons (fun e => st_68 ap hi M W e hm) (fm_cons (fun e => st_a8 ap hi M W e hm) (fm_cons (fun e => (Bool.eq_false_or_eq_true g.Z).elim (fun hz => st_f0_go ap hi M W e hz hm) fun hz => st_f0_no ap hi M W e hz hm) (fm_cons (fun e => (Bool.eq_false_or_eq_true g.Z).elim (fun hz => st_d0_no ap hi M W e hz hm) fun hz => st_d0_go ap hi M W e hz hm) (fm_cons (fun e => st_98 ap hi M W e hm) (fm_cons (fun e => st_88 ap hi M W e hm) (fm_cons (fun e => st_a5 ap hi M W e hm) (fm_cons (fun e => st_85 ap hi M W e hm) (fm_cons (fun e => st_d5 ap hi M W e hm) (fm_cons (fun e => st_a9 ap hi M W e hm) (fm_cons (fun e => st_2a ap hi M W e hm) (fm_cons (fun e => st_49 ap hi M W e hm) (fm_cons (fun e => st_0a ap hi M W e hm) (fm_cons (fun e => st_76 ap hi M W e hm) (fm_cons (fun e => st_d6 ap hi M W e hm) fm_nil))))))))))))))))))))))))))))))
  exact key _ hc rfl
end
section
open PySem PySem.W PySem.Calls PyProof.Rows
set_option maxRecDepth 100000
set_option maxHeartbeats 4000000
theorem bytes_set {ns : List Int} {n : Nat} {v : Int} (M : Mem ns) (h0 : 0 ≤ v) (h1 : v < 256) : Mem (ns.set n v) :=
  ⟨by rw [List.length_set]; exact M.l, fun b hb => by
    rcases List.mem_or_eq_of_mem_set hb with h | h
    · exact M.b b h
    · rw [h]; exact ⟨h0, h1⟩⟩
theorem bit01 (c : Bool) : (0 : Int) ≤ (if c = true then 1 else 0) ∧ (if c = true then (1 : Int) else 0) < 256 := by cases c <;> decide
theorem ror_b {b : Int} (c : Bool) (h0 : 0 ≤ b) (h1 : b < 256) : 0 ≤ b / 2 + (if c = true then 128 else 0) ∧ b / 2 + (if c = true then 128 else 0) < 256 := by cases c <;> simp <;> omega
noncomputable def OkR (r : Option (Rg × List Int)) : Prop := ∀ g2 ns2, r = some (g2, ns2) → Wf g2 ∧ Mem ns2
theorem ok_none : OkR none := fun _ _ h => nomatch h
theorem ok_some {g : Rg} {ns : List Int} (a0 : 0 ≤ g.a) (a1 : g.a < 256) (x0 : 0 ≤ g.x) (x1 : g.x < 256) (y0 : 0 ≤ g.y) (y1 : g.y < 256) (s0 : 0 ≤ g.sp) (s1 : g.sp < 256) (M : Mem ns) : OkR (some (g, ns)) := fun g2 ns2 h => by
  cases h
  exact ⟨⟨a0, a1, x0, x1, y0, y1, s0, s1⟩, M⟩
theorem ok_ite {c : Prop} [Decidable c] {x y : Option (Rg × List Int)} (h : OkR x) (k : OkR y) : OkR (if c then x else y) := by
  by_cases hc : c
  · rw [if_pos hc]; exact h
  · rw [if_neg hc]; exact k
theorem em0 (z : Int) : 0 ≤ z % 256 := Int.emod_nonneg z (by decide)
theorem em1 (z : Int) : z % 256 < 256 := Int.emod_lt_of_pos z (by decide)
theorem ok_185 {g : Rg} {ns : List Int} (W : Wf g) (M : Mem ns) : OkR (f_185 g ns) := by
  unfold f_185
  try dsimp only [nz]
  repeat' (first | exact ok_none | refine ok_ite ?_ ?_)
  all_goals (refine ok_some ?_ ?_ ?_ ?_ ?_ ?_ ?_ ?_ ?_ <;> first
    | exact W.a0 | exact W.a1 | exact W.x0 | exact W.x1 | exact W.y0 | exact W.y1 | exact W.s0 | exact W.s1 | exact M
    | exact em0 _ | exact em1 _ | exact (bytes M.b _).1 | exact (bytes M.b _).2
    | exact (bitAnd_range _ (bytes M.b _).1).1 | exact Int.lt_of_le_of_lt (bitAnd_range _ (bytes M.b _).1).2 (bytes M.b _).2
    | exact (xor_range W.a0 W.a1 (bytes M.b _).1 (bytes M.b _).2).1 | exact (xor_range W.a0 W.a1 (bytes M.b _).1 (bytes M.b _).2).2
    | exact (bit01 _).1 | exact (bit01 _).2 | exact bytes_set M W.a0 W.a1 | exact bytes_set M (em0 _) (em1 _)
    | exact bytes_set M (ror_b _ (bytes M.b _).1 (bytes M.b _).2).1 (ror_b _ (bytes M.b _).1 (bytes M.b _).2).2)
theorem ok_200 {g : Rg} {ns : List Int} (W : Wf g) (M : Mem ns) : OkR (f_200 g ns) := by
  unfold f_200
  try dsimp only [nz]
  repeat' (first | exact ok_none | refine ok_ite ?_ ?_)
  all_goals (refine ok_some ?_ ?_ ?_ ?_ ?_ ?_ ?_ ?_ ?_ <;> first
    | exact W.a0 | exact W.a1 | exact W.x0 | exact W.x1 | exact W.y0 | exact W.y1 | exact W.s0 | exact W.s1 | exact M
    | exact em0 _ | exact em1 _ | exact (bytes M.b _).1 | exact (bytes M.b _).2
    | exact (bitAnd_range _ (bytes M.b _).1).1 | exact Int.lt_of_le_of_lt (bitAnd_range _ (bytes M.b _).1).2 (bytes M.b _).2
    | exact (xor_range W.a0 W.a1 (bytes M.b _).1 (bytes M.b _).2).1 | exact (xor_range W.a0 W.a1 (bytes M.b _).1 (bytes M.b _).2).2
    | exact (bit01 _).1 | exact (bit01 _).2 | exact bytes_set M W.a0 W.a1 | exact bytes_set M (em0 _) (em1 _)
    | exact bytes_set M (ror_b _ (bytes M.b _).1 (bytes M.b _).2).1 (ror_b _ (bytes M.b _).1 (bytes M.b _).2).2)
theorem ok_41 {g : Rg} {ns : List Int} (W : Wf g) (M : Mem ns) : OkR (f_41 g ns) := by
  unfold f_41
  try dsimp only [nz]
  repeat' (first | exact ok_none | refine ok_ite ?_ ?_)
  all_goals (refine ok_some ?_ ?_ ?_ ?_ ?_ ?_ ?_ ?_ ?_ <;> first
    | exact W.a0 | exact W.a1 | exact W.x0 | exact W.x1 | exact W.y0 | exact W.y1 | exact W.s0 | exact W.s1 | exact M
    | exact em0 _ | exact em1 _ | exact (bytes M.b _).1 | exact (bytes M.b _).2
    | exact (bitAnd_range _ (bytes M.b _).1).1 | exact Int.lt_of_le_of_lt (bitAnd_range _ (bytes M.b _).1).2 (bytes M.b _).2
    | exact (xor_range W.a0 W.a1 (bytes M.b _).1 (bytes M.b _).2).1 | exact (xor_range W.a0 W.a1 (bytes M.b _).1 (bytes M.b _).2).2
    | exact (bit01 _).1 | exact (bit01 _).2 | exact bytes_set M W.a0 W.a1 | exact bytes_set M (em0 _) (em1 _)
    | exact bytes_set M (ror_b _ (bytes M.b _).1 (bytes M.b _).2).1 (ror_b _ (bytes M.b _).1 (bytes M.b _).2).2)
theorem ok_141 {g : Rg} {ns : List Int} (W : Wf g) (M : Mem ns) : OkR (f_141 g ns) := by
  unfold f_141
  try dsimp only [nz]
  repeat' (first | exact ok_none | refine ok_ite ?_ ?_)
  all_goals (refine ok_some ?_ ?_ ?_ ?_ ?_ ?_ ?_ ?_ ?_ <;> first
    | exact W.a0 | exact W.a1 | exact W.x0 | exact W.x1 | exact W.y0 | exact W.y1 | exact W.s0 | exact W.s1 | exact M
    | exact em0 _ | exact em1 _ | exact (bytes M.b _).1 | exact (bytes M.b _).2
    | exact (bitAnd_range _ (bytes M.b _).1).1 | exact Int.lt_of_le_of_lt (bitAnd_range _ (bytes M.b _).1).2 (bytes M.b _).2
    | exact (xor_range W.a0 W.a1 (bytes M.b _).1 (bytes M.b _).2).1 | exact (xor_range W.a0 W.a1 (bytes M.b _).1 (bytes M.b _).2).2
    | exact (bit01 _).1 | exact (bit01 _).2 | exact bytes_set M W.a0 W.a1 | exact bytes_set M (em0 _) (em1 _)
    | exact bytes_set M (ror_b _ (bytes M.b _).1 (bytes M.b _).2).1 (ror_b _ (bytes M.b _).1 (bytes M.b _).2).2)
theorem ok_108 {g : Rg} {ns : List Int} (W : Wf g) (M : Mem ns) : OkR (f_108 g ns) := by
  unfold f_108
  try dsimp only [nz]
  repeat' (first | exact ok_none | refine ok_ite ?_ ?_)
  all_goals (refine ok_some ?_ ?_ ?_ ?_ ?_ ?_ ?_ ?_ ?_ <;> first
    | exact W.a0 | exact W.a1 | exact W.x0 | exact W.x1 | exact W.y0 | exact W.y1 | exact W.s0 | exact W.s1 | exact M
    | exact em0 _ | exact em1 _ | exact (bytes M.b _).1 | exact (bytes M.b _).2
    | exact (bitAnd_range _ (bytes M.b _).1).1 | exact Int.lt_of_le_of_lt (bitAnd_range _ (bytes M.b _).1).2 (bytes M.b _).2
    | exact (xor_range W.a0 W.a1 (bytes M.b _).1 (bytes M.b _).2).1 | exact (xor_range W.a0 W.a1 (bytes M.b _).1 (bytes M.b _).2).2
    | exact (bit01 _).1 | exact (bit01 _).2 | exact bytes_set M W.a0 W.a1 | exact bytes_set M (em0 _) (em1 _)
    | exact bytes_set M (ror_b _ (bytes M.b _).1 (bytes M.b _).2).1 (ror_b _ (bytes M.b _).1 (bytes M.b _).2).2)
theorem ok_202 {g : Rg} {ns : List Int} (W : Wf g) (M : Mem ns) : OkR (f_202 g ns) := by
  unfold f_202
  try dsimp only [nz]
  repeat' (first | exact ok_none | refine ok_ite ?_ ?_)
  all_goals (refine ok_some ?_ ?_ ?_ ?_ ?_ ?_ ?_ ?_ ?_ <;> first
    | exact W.a0 | exact W.a1 | exact W.x0 | exact W.x1 | exact W.y0 | exact W.y1 | exact W.s0 | exact W.s1 | exact M
    | exact em0 _ | exact em1 _ | exact (bytes M.b _).1 | exact (bytes M.b _).2
    | exact (bitAnd_range _ (bytes M.b _).1).1 | exact Int.lt_of_le_of_lt (bitAnd_range _ (bytes M.b _).1).2 (bytes M.b _).2
    | exact (xor_range W.a0 W.a1 (bytes M.b _).1 (bytes M.b _).2).1 | exact (xor_range W.a0 W.a1 (bytes M.b _).1 (bytes M.b _).2).2
    | exact (bit01 _).1 | exact (bit01 _).2 | exact bytes_set M W.a0 W.a1 | exact bytes_set M (em0 _) (em1 _)
    | exact bytes_set M (ror_b _ (bytes M.b _).1 (bytes M.b _).2).1 (ror_b _ (bytes M.b _).1 (bytes M.b _).2).2)
theorem ok_149 {g : Rg} {ns : List Int} (W : Wf g) (M : Mem ns) : OkR (f_149 g ns) := by
  unfold f_149
  try dsimp only [nz]
  repeat' (first | exact ok_none | refine ok_ite ?_ ?_)
  all_goals (refine ok_some ?_ ?_ ?_ ?_ ?_ ?_ ?_ ?_ ?_ <;> first
    | exact W.a0 | exact W.a1 | exact W.x0 | exact W.x1 | exact W.y0 | exact W.y1 | exact W.s0 | exact W.s1 | exact M
    | exact em0 _ | exact em1 _ | exact (bytes M.b _).1 | exact (bytes M.b _).2
    | exact (bitAnd_range _ (bytes M.b _).1).1 | exact Int.lt_of_le_of_lt (bitAnd_range _ (bytes M.b _).1).2 (bytes M.b _).2
    | exact (xor_range W.a0 W.a1 (bytes M.b _).1 (bytes M.b _).2).1 | exact (xor_range W.a0 W.a1 (bytes M.b _).1 (bytes M.b _).2).2
    | exact (bit01 _).1 | exact (bit01 _).2 | exact bytes_set M W.a0 W.a1 | exact bytes_set M (em0 _) (em1 _)
    | exact bytes_set M (ror_b _ (bytes M.b _).1 (bytes M.b _).2).1 (ror_b _ (bytes M.b _).1 (bytes M.b _).2).2)
theorem ok_76 {g : Rg} {ns : List Int} (W : Wf g) (M : Mem ns) : OkR (f_76 g ns) := by
  unfold f_76
  try dsimp only [nz]
  repeat' (first | exact ok_none | refine ok_ite ?_ ?_)
  all_goals (refine ok_some ?_ ?_ ?_ ?_ ?_ ?_ ?_ ?_ ?_ <;> first
    | exact W.a0 | exact W.a1 | exact W.x0 | exact W.x1 | exact W.y0 | exact W.y1 | exact W.s0 | exact W.s1 | exact M
    | exact em0 _ | exact em1 _ | exact (bytes M.b _).1 | exact (bytes M.b _).2
    | exact (bitAnd_range _ (bytes M.b _).1).1 | exact Int.lt_of_le_of_lt (bitAnd_range _ (bytes M.b _).1).2 (bytes M.b _).2
    | exact (xor_range W.a0 W.a1 (bytes M.b _).1 (bytes M.b _).2).1 | exact (xor_range W.a0 W.a1 (bytes M.b _).1 (bytes M.b _).2).2
    | exact (bit01 _).1 | exact (bit01 _).2 | exact bytes_set M W.a0 W.a1 | exact bytes_set M (em0 _) (em1 _)
    | exact bytes_set M (ror_b _ (bytes M.b _).1 (bytes M.b _).2).1 (ror_b _ (bytes M.b _).1 (bytes M.b _).2).2)
theorem ok_181 {g : Rg} {ns : List Int} (W : Wf g) (M : Mem ns) : OkR (f_181 g ns) := by
  unfold f_181
  try dsimp only [nz]
  repeat' (first | exact ok_none | refine ok_ite ?_ ?_)
  all_goals (refine ok_some ?_ ?_ ?_ ?_ ?_ ?_ ?_ ?_ ?_ <;> first
    | exact W.a0 | exact W.a1 | exact W.x0 | exact W.x1 | exact W.y0 | exact W.y1 | exact W.s0 | exact W.s1 | exact M
    | exact em0 _ | exact em1 _ | exact (bytes M.b _).1 | exact (bytes M.b _).2
    | exact (bitAnd_range _ (bytes M.b _).1).1 | exact Int.lt_of_le_of_lt (bitAnd_range _ (bytes M.b _).1).2 (bytes M.b _).2
    | exact (xor_range W.a0 W.a1 (bytes M.b _).1 (bytes M.b _).2).1 | exact (xor_range W.a0 W.a1 (bytes M.b _).1 (bytes M.b _).2).2
    | exact (bit01 _).1 | exact (bit01 _).2 | exact bytes_set M W.a0 W.a1 | exact bytes_set M (em0 _) (em1 _)
    | exact bytes_set M (ror_b _ (bytes M.b _).1 (bytes M.b _).2).1 (ror_b _ (bytes M.b _).1 (bytes M.b _).2).2)
theorem ok_24 {g : Rg} {ns : List Int} (W : Wf g) (M : Mem ns) : OkR (f_24 g ns) := by
  unfold f_24
  try dsimp only [nz]
  repeat' (first | exact ok_none | refine ok_ite ?_ ?_)
  all_goals (refine ok_some ?_ ?_ ?_ ?_ ?_ ?_ ?_ ?_ ?_ <;> first
    | exact W.a0 | exact W.a1 | exact W.x0 | exact W.x1 | exact W.y0 | exact W.y1 | exact W.s0 | exact W.s1 | exact M
    | exact em0 _ | exact em1 _ | exact (bytes M.b _).1 | exact (bytes M.b _).2
    | exact (bitAnd_range _ (bytes M.b _).1).1 | exact Int.lt_of_le_of_lt (bitAnd_range _ (bytes M.b _).1).2 (bytes M.b _).2
    | exact (xor_range W.a0 W.a1 (bytes M.b _).1 (bytes M.b _).2).1 | exact (xor_range W.a0 W.a1 (bytes M.b _).1 (bytes M.b _).2).2
    | exact (bit01 _).1 | exact (bit01 _).2 | exact bytes_set M W.a0 W.a1 | exact bytes_set M (em0 _) (em1 _)
    | exact bytes_set M (ror_b _ (bytes M.b _).1 (bytes M.b _).2).1 (ror_b _ (bytes M.b _).1 (bytes M.b _).2).2)
theorem ok_117 {g : Rg} {ns : List Int} (W : Wf g) (M : Mem ns) : OkR (f_117 g ns) := by
  unfold f_117
  try dsimp only [nz]
  repeat' (first | exact ok_none | refine ok_ite ?_ ?_)
  all_goals (refine ok_some ?_ ?_ ?_ ?_ ?_ ?_ ?_ ?_ ?_ <;> first
    | exact W.a0 | exact W.a1 | exact W.x0 | exact W.x1 | exact W.y0 | exact W.y1 | exact W.s0 | exact W.s1 | exact M
    | exact em0 _ | exact em1 _ | exact (bytes M.b _).1 | exact (bytes M.b _).2
    | exact (bitAnd_range _ (bytes M.b _).1).1 | exact Int.lt_of_le_of_lt (bitAnd_range _ (bytes M.b _).1).2 (bytes M.b _).2
    | exact (xor_range W.a0 W.a1 (bytes M.b _).1 (bytes M.b _).2).1 | exact (xor_range W.a0 W.a1 (bytes M.b _).1 (bytes M.b _).2).2
    | exact (bit01 _).1 | exact (bit01 _).2 | exact bytes_set M W.a0 W.a1 | exact bytes_set M (em0 _) (em1 _)
    | exact bytes_set M (ror_b _ (bytes M.b _).1 (bytes M.b _).2).1 (ror_b _ (bytes M.b _).1 (bytes M.b _).2).2)
theorem ok_232 {g : Rg} {ns : List Int} (W : Wf g) (M : Mem ns) : OkR (f_232 g ns) := by
  unfold f_232
  try dsimp only [nz]
  repeat' (first | exact ok_none | refine ok_ite ?_ ?_)
  all_goals (refine ok_some ?_ ?_ ?_ ?_ ?_ ?_ ?_ ?_ ?_ <;> first
    | exact W.a0 | exact W.a1 | exact W.x0 | exact W.x1 | exact W.y0 | exact W.y1 | exact W.s0 | exact W.s1 | exact M
    | exact em0 _ | exact em1 _ | exact (bytes M.b _).1 | exact (bytes M.b _).2
    | exact (bitAnd_range _ (bytes M.b _).1).1 | exact Int.lt_of_le_of_lt (bitAnd_range _ (bytes M.b _).1).2 (bytes M.b _).2
    | exact (xor_range W.a0 W.a1 (bytes M.b _).1 (bytes M.b _).2).1 | exact (xor_range W.a0 W.a1 (bytes M.b _).1 (bytes M.b _).2).2
    | exact (bit01 _).1 | exact (bit01 _).2 | exact bytes_set M W.a0 W.a1 | exact bytes_set M (em0 _) (em1 _)
    | exact bytes_set M (ror_b _ (bytes M.b _).1 (bytes M.b _).2).1 (ror_b _ (bytes M.b _).1 (bytes M.b _).2).2)
theorem ok_56 {g : Rg} {ns : List Int} (W : Wf g) (M : Mem ns) : OkR (f_56 g ns) := by
  unfold f_56
  try dsimp only [nz]
  repeat' (first | exact ok_none | refine ok_ite ?_ ?_)
  all_goals (refine ok_some ?_ ?_ ?_ ?_ ?_ ?_ ?_ ?_ ?_ <;> first
    | exact W.a0 | exact W.a1 | exact W.x0 | exact W.x1 | exact W.y0 | exact W.y1 | exact W.s0 | exact W.s1 | exact M
    | exact em0 _ | exact em1 _ | exact (bytes M.b _).1 | exact (bytes M.b _).2
    | exact (bitAnd_range _ (bytes M.b _).1).1 | exact Int.lt_of_le_of_lt (bitAnd_range _ (bytes M.b _).1).2 (bytes M.b _).2
    | exact (xor_range W.a0 W.a1 (bytes M.b _).1 (bytes M.b _).2).1 | exact (xor_range W.a0 W.a1 (bytes M.b _).1 (bytes M.b _).2).2
    | exact (bit01 _).1 | exact (bit01 _).2 | exact bytes_set M W.a0 W.a1 | exact bytes_set M (em0 _) (em1 _)
    | exact bytes_set M (ror_b _ (bytes M.b _).1 (bytes M.b _).2).1 (ror_b _ (bytes M.b _).1 (bytes M.b _).2).2)
theorem ok_245 {g : Rg} {ns : List Int} (W : Wf g) (M : Mem ns) : OkR (f_245 g ns) := by
  unfold f_245
  try dsimp only [nz]
  repeat' (first | exact ok_none | refine ok_ite ?_ ?_)
  all_goals (refine ok_some ?_ ?_ ?_ ?_ ?_ ?_ ?_ ?_ ?_ <;> first
    | exact W.a0 | exact W.a1 | exact W.x0 | exact W.x1 | exact W.y0 | exact W.y1 | exact W.s0 | exact W.s1 | exact M
    | exact em0 _ | exact em1 _ | exact (bytes M.b _).1 | exact (bytes M.b _).2
    | exact (bitAnd_range _ (bytes M.b _).1).1 | exact Int.lt_of_le_of_lt (bitAnd_range _ (bytes M.b _).1).2 (bytes M.b _).2
    | exact (xor_range W.a0 W.a1 (bytes M.b _).1 (bytes M.b _).2).1 | exact (xor_range W.a0 W.a1 (bytes M.b _).1 (bytes M.b _).2).2
    | exact (bit01 _).1 | exact (bit01 _).2 | exact bytes_set M W.a0 W.a1 | exact bytes_set M (em0 _) (em1 _)
    | exact bytes_set M (ror_b _ (bytes M.b _).1 (bytes M.b _).2).1 (ror_b _ (bytes M.b _).1 (bytes M.b _).2).2)
theorem ok_72 {g : Rg} {ns : List Int} (W : Wf g) (M : Mem ns) : OkR (f_72 g ns) := by
  unfold f_72
  try dsimp only [nz]
  repeat' (first | exact ok_none | refine ok_ite ?_ ?_)
  all_goals (refine ok_some ?_ ?_ ?_ ?_ ?_ ?_ ?_ ?_ ?_ <;> first
    | exact W.a0 | exact W.a1 | exact W.x0 | exact W.x1 | exact W.y0 | exact W.y1 | exact W.s0 | exact W.s1 | exact M
    | exact em0 _ | exact em1 _ | exact (bytes M.b _).1 | exact (bytes M.b _).2
    | exact (bitAnd_range _ (bytes M.b _).1).1 | exact Int.lt_of_le_of_lt (bitAnd_range _ (bytes M.b _).1).2 (bytes M.b _).2
    | exact (xor_range W.a0 W.a1 (bytes M.b _).1 (bytes M.b _).2).1 | exact (xor_range W.a0 W.a1 (bytes M.b _).1 (bytes M.b _).2).2
    | exact (bit01 _).1 | exact (bit01 _).2 | exact bytes_set M W.a0 W.a1 | exact bytes_set M (em0 _) (em1 _)
    | exact bytes_set M (ror_b _ (bytes M.b _).1 (bytes M.b _).2).1 (ror_b _ (bytes M.b _).1 (bytes M.b _).2).2)
theorem ok_104 {g : Rg} {ns : List Int} (W : Wf g) (M : Mem ns) : OkR (f_104 g ns) := by
  unfold f_104
  try dsimp only [nz]
  repeat' (first | exact ok_none | refine ok_ite ?_ ?_)
  all_goals (refine ok_some ?_ ?_ ?_ ?_ ?_ ?_ ?_ ?_ ?_ <;> first
    | exact W.a0 | exact W.a1 | exact W.x0 | exact W.x1 | exact W.y0 | exact W.y1 | exact W.s0 | exact W.s1 | exact M
    | exact em0 _ | exact em1 _ | exact (bytes M.b _).1 | exact (bytes M.b _).2
    | exact (bitAnd_range _ (bytes M.b _).1).1 | exact Int.lt_of_le_of_lt (bitAnd_range _ (bytes M.b _).1).2 (bytes M.b _).2
    | exact (xor_range W.a0 W.a1 (bytes M.b _).1 (bytes M.b _).2).1 | exact (xor_range W.a0 W.a1 (bytes M.b _).1 (bytes M.b _).2).2
    | exact (bit01 _).1 | exact (bit01 _).2 | exact bytes_set M W.a0 W.a1 | exact bytes_set M (em0 _) (em1 _)
    | exact bytes_set M (ror_b _ (bytes M.b _).1 (bytes M.b _).2).1 (ror_b _ (bytes M.b _).1 (bytes M.b _).2).2)
theorem ok_168 {g : Rg} {ns : List Int} (W : Wf g) (M : Mem ns) : OkR (f_168 g ns) := by
  unfold f_168
  try dsimp only [nz]
  repeat' (first | exact ok_none | refine ok_ite ?_ ?_)
  all_goals (refine ok_some ?_ ?_ ?_ ?_ ?_ ?_ ?_ ?_ ?_ <;> first
    | exact W.a0 | exact W.a1 | exact W.x0 | exact W.x1 | exact W.y0 | exact W.y1 | exact W.s0 | exact W.s1 | exact M
    | exact em0 _ | exact em1 _ | exact (bytes M.b _).1 | exact (bytes M.b _).2
    | exact (bitAnd_range _ (bytes M.b _).1).1 | exact Int.lt_of_le_of_lt (bitAnd_range _ (bytes M.b _).1).2 (bytes M.b _).2
    | exact (xor_range W.a0 W.a1 (bytes M.b _).1 (bytes M.b _).2).1 | exact (xor_range W.a0 W.a1 (bytes M.b _).1 (bytes M.b _).2).2
    | exact (bit01 _).1 | exact (bit01 _).2 | exact bytes_set M W.a0 W.a1 | exact bytes_set M (em0 _) (em1 _)
    | exact bytes_set M (ror_b _ (bytes M.b _).1 (bytes M.b _).2).1 (ror_b _ (bytes M.b _).1 (bytes M.b _).2).2)
theorem ok_240 {g : Rg} {ns : List Int} (W : Wf g) (M : Mem ns) : OkR (f_240 g ns) := by
  unfold f_240
  try dsimp only [nz]
  repeat' (first | exact ok_none | refine ok_ite ?_ ?_)
  all_goals (refine ok_some ?_ ?_ ?_ ?_ ?_ ?_ ?_ ?_ ?_ <;> first
    | exact W.a0 | exact W.a1 | exact W.x0 | exact W.x1 | exact W.y0 | exact W.y1 | exact W.s0 | exact W.s1 | exact M
    | exact em0 _ | exact em1 _ | exact (bytes M.b _).1 | exact (bytes M.b _).2
    | exact (bitAnd_range _ (bytes M.b _).1).1 | exact Int.lt_of_le_of_lt (bitAnd_range _ (bytes M.b _).1).2 (bytes M.b _).2
    | exact (xor_range W.a0 W.a1 (bytes M.b _).1 (bytes M.b _).2).1 | exact (xor_range W.a0 W.a1 (bytes M.b _).1 (bytes M.b _).2).2
    | exact (bit01 _).1 | exact (bit01 _).2 | exact bytes_set M W.a0 W.a1 | exact bytes_set M (em0 _) (em1 _)
    | exact bytes_set M (ror_b _ (bytes M.b _).1 (bytes M.b _).2).1 (ror_b _ (bytes M.b _).1 (bytes M.b _).2).2)
theorem ok_208 {g : Rg} {ns : List Int} (W : Wf g) (M : Mem ns) : OkR (f_208 g ns) := by
  unfold f_208
  try dsimp only [nz]
  repeat' (first | exact ok_none | refine ok_ite ?_ ?_)
  all_goals (refine ok_some ?_ ?_ ?_ ?_ ?_ ?_ ?_ ?_ ?_ <;> first
    | exact W.a0 | exact W.a1 | exact W.x0 | exact W.x1 | exact W.y0 | exact W.y1 | exact W.s0 | exact W.s1 | exact M
    | exact em0 _ | exact em1 _ | exact (bytes M.b _).1 | exact (bytes M.b _).2
    | exact (bitAnd_range _ (bytes M.b _).1).1 | exact Int.lt_of_le_of_lt (bitAnd_range _ (bytes M.b _).1).2 (bytes M.b _).2
    | exact (xor_range W.a0 W.a1 (bytes M.b _).1 (bytes M.b _).2).1 | exact (xor_range W.a0 W.a1 (bytes M.b _).1 (bytes M.b _).2).2
    | exact (bit01 _).1 | exact (bit01 _).2 | exact bytes_set M W.a0 W.a1 | exact bytes_set M (em0 _) (em1 _)
    | exact bytes_set M (ror_b _ (bytes M.b _).1 (bytes M.b _).2).1 (ror_b _ (bytes M.b _).1 (bytes M.b _).2).2)
theorem ok_152 {g : Rg} {ns : List Int} (W : Wf g) (M : Mem ns) : OkR (f_152 g ns) := by
  unfold f_152
  try dsimp only [nz]
  repeat' (first | exact ok_none | refine ok_ite ?_ ?_)
  all_goals (refine ok_some ?_ ?_ ?_ ?_ ?_ ?_ ?_ ?_ ?_ <;> first
    | exact W.a0 | exact W.a1 | exact W.x0 | exact W.x1 | exact W.y0 | exact W.y1 | exact W.s0 | exact W.s1 | exact M
    | exact em0 _ | exact em1 _ | exact (bytes M.b _).1 | exact (bytes M.b _).2
    | exact (bitAnd_range _ (bytes M.b _).1).1 | exact Int.lt_of_le_of_lt (bitAnd_range _ (bytes M.b _).1).2 (bytes M.b _).2
    | exact (xor_range W.a0 W.a1 (bytes M.b _).1 (bytes M.b _).2).1 | exact (xor_range W.a0 W.a1 (bytes M.b _).1 (bytes M.b _).2).2
    | exact (bit01 _).1 | exact (bit01 _).2 | exact bytes_set M W.a0 W.a1 | exact bytes_set M (em0 _) (em1 _)
    | exact bytes_set M (ror_b _ (bytes M.b _).1 (bytes M.b _).2).1 (ror_b _ (bytes M.b _).1 (bytes M.b _).2).2)
theorem ok_136 {g : Rg} {ns : List Int} (W : Wf g) (M : Mem ns) : OkR (f_136 g ns) := by
  unfold f_136
  try dsimp only [nz]
  repeat' (first | exact ok_none | refine ok_ite ?_ ?_)
  all_goals (refine ok_some ?_ ?_ ?_ ?_ ?_ ?_ ?_ ?_ ?_ <;> first
    | exact W.a0 | exact W.a1 | exact W.x0 | exact W.x1 | exact W.y0 | exact W.y1 | exact W.s0 | exact W.s1 | exact M
    | exact em0 _ | exact em1 _ | exact (bytes M.b _).1 | exact (bytes M.b _).2
    | exact (bitAnd_range _ (bytes M.b _).1).1 | exact Int.lt_of_le_of_lt (bitAnd_range _ (bytes M.b _).1).2 (bytes M.b _).2
    | exact (xor_range W.a0 W.a1 (bytes M.b _).1 (bytes M.b _).2).1 | exact (xor_range W.a0 W.a1 (bytes M.b _).1 (bytes M.b _).2).2
    | exact (bit01 _).1 | exact (bit01 _).2 | exact bytes_set M W.a0 W.a1 | exact bytes_set M (em0 _) (em1 _)
    | exact bytes_set M (ror_b _ (bytes M.b _).1 (bytes M.b _).2).1 (ror_b _ (bytes M.b _).1 (bytes M.b _).2).2)
theorem ok_165 {g : Rg} {ns : List Int} (W : Wf g) (M : Mem ns) : OkR (f_165 g ns) := by
  unfold f_165
  try dsimp only [nz]
  repeat' (first | exact ok_none | refine ok_ite ?_ ?_)
  all_goals (refine ok_some ?_ ?_ ?_ ?_ ?_ ?_ ?_ ?_ ?_ <;> first
    | exact W.a0 | exact W.a1 | exact W.x0 | exact W.x1 | exact W.y0 | exact W.y1 | exact W.s0 | exact W.s1 | exact M
    | exact em0 _ | exact em1 _ | exact (bytes M.b _).1 | exact (bytes M.b _).2
    | exact (bitAnd_range _ (bytes M.b _).1).1 | exact Int.lt_of_le_of_lt (bitAnd_range _ (bytes M.b _).1).2 (bytes M.b _).2
    | exact (xor_range W.a0 W.a1 (bytes M.b _).1 (bytes M.b _).2).1 | exact (xor_range W.a0 W.a1 (bytes M.b _).1 (bytes M.b _).2).2
    | exact (bit01 _).1 | exact (bit01 _).2 | exact bytes_set M W.a0 W.a1 | exact bytes_set M (em0 _) (em1 _)
    | exact bytes_set M (ror_b _ (bytes M.b _).1 (bytes M.b _).2).1 (ror_b _ (bytes M.b _).1 (bytes M.b _).2).2)
theorem ok_133 {g : Rg} {ns : List Int} (W : Wf g) (M : Mem ns) : OkR (f_133 g ns) := by
  unfold f_133
  try dsimp only [nz]
  repeat' (first | exact ok_none | refine ok_ite ?_ ?_)
  all_goals (refine ok_some ?_ ?_ ?_ ?_ ?_ ?_ ?_ ?_ ?_ <;> first
    | exact W.a0 | exact W.a1 | exact W.x0 | exact W.x1 | exact W.y0 | exact W.y1 | exact W.s0 | exact W.s1 | exact M
    | exact em0 _ | exact em1 _ | exact (bytes M.b _).1 | exact (bytes M.b _).2
    | exact (bitAnd_range _ (bytes M.b _).1).1 | exact Int.lt_of_le_of_lt (bitAnd_range _ (bytes M.b _).1).2 (bytes M.b _).2
    | exact (xor_range W.a0 W.a1 (bytes M.b _).1 (bytes M.b _).2).1 | exact (xor_range W.a0 W.a1 (bytes M.b _).1 (bytes M.b _).2).2
    | exact (bit01 _).1 | exact (bit01 _).2 | exact bytes_set M W.a0 W.a1 | exact bytes_set M (em0 _) (em1 _)
    | exact bytes_set M (ror_b _ (bytes M.b _).1 (bytes M.b _).2).1 (ror_b _ (bytes M.b _).1 (bytes M.b _).2).2)
theorem ok_213 {g : Rg} {ns : List Int} (W : Wf g) (M : Mem ns) : OkR (f_213 g ns) := by
  unfold f_213
  try dsimp only [nz]
  repeat' (first | exact ok_none | refine ok_ite ?_ ?_)
  all_goals (refine ok_some ?_ ?_ ?_ ?_ ?_ ?_ ?_ ?_ ?_ <;> first
    | exact W.a0 | exact W.a1 | exact W.x0 | exact W.x1 | exact W.y0 | exact W.y1 | exact W.s0 | exact W.s1 | exact M
    | exact em0 _ | exact em1 _ | exact (bytes M.b _).1 | exact (bytes M.b _).2
    | exact (bitAnd_range _ (bytes M.b _).1).1 | exact Int.lt_of_le_of_lt (bitAnd_range _ (bytes M.b _).1).2 (bytes M.b _).2
    | exact (xor_range W.a0 W.a1 (bytes M.b _).1 (bytes M.b _).2).1 | exact (xor_range W.a0 W.a1 (bytes M.b _).1 (bytes M.b _).2).2
    | exact (bit01 _).1 | exact (bit01 _).2 | exact bytes_set M W.a0 W.a1 | exact bytes_set M (em0 _) (em1 _)
    | exact bytes_set M (ror_b _ (bytes M.b _).1 (bytes M.b _).2).1 (ror_b _ (bytes M.b _).1 (bytes M.b _).2).2)
theorem ok_169 {g : Rg} {ns : List Int} (W : Wf g) (M : Mem ns) : OkR (f_169 g ns) := by
  unfold f_169
  try dsimp only [nz]
  repeat' (first | exact ok_none | refine ok_ite ?_ ?_)
  all_goals (refine ok_some ?_ ?_ ?_ ?_ ?_ ?_ ?_ ?_ ?_ <;> first
    | exact W.a0 | exact W.a1 | exact W.x0 | exact W.x1 | exact W.y0 | exact W.y1 | exact W.s0 | exact W.s1 | exact M
    | exact em0 _ | exact em1 _ | exact (bytes M.b _).1 | exact (bytes M.b _).2
    | exact (bitAnd_range _ (bytes M.b _).1).1 | exact Int.lt_of_le_of_lt (bitAnd_range _ (bytes M.b _).1).2 (bytes M.b _).2
    | exact (xor_range W.a0 W.a1 (bytes M.b _).1 (bytes M.b _).2).1 | exact (xor_range W.a0 W.a1 (bytes M.b _).1 (bytes M.b _).2).2
    | exact (bit01 _).1 | exact (bit01 _).2 | exact bytes_set M W.a0 W.a1 | exact bytes_set M (em0 _) (em1 _)
    | exact bytes_set M (ror_b _ (bytes M.b _).1 (bytes M.b _).2).1 (ror_b _ (bytes M.b _).1 (bytes M.b _).2).2)
theorem ok_42 {g : Rg} {ns : List Int} (W : Wf g) (M : Mem ns) : OkR (f_42 g ns) := by
  unfold f_42
  try dsimp only [nz]
  repeat' (first | exact ok_none | refine ok_ite ?_ ?_)
  all_goals (refine ok_some ?_ ?_ ?_ ?_ ?_ ?_ ?_ ?_ ?_ <;> first
    | exact W.a0 | exact W.a1 | exact W.x0 | exact W.x1 | exact W.y0 | exact W.y1 | exact W.s0 | exact W.s1 | exact M
    | exact em0 _ | exact em1 _ | exact (bytes M.b _).1 | exact (bytes M.b _).2
    | exact (bitAnd_range _ (bytes M.b _).1).1 | exact Int.lt_of_le_of_lt (bitAnd_range _ (bytes M.b _).1).2 (bytes M.b _).2
    | exact (xor_range W.a0 W.a1 (bytes M.b _).1 (bytes M.b _).2).1 | exact (xor_range W.a0 W.a1 (bytes M.b _).1 (bytes M.b _).2).2
    | exact (bit01 _).1 | exact (bit01 _).2 | exact bytes_set M W.a0 W.a1 | exact bytes_set M (em0 _) (em1 _)
    | exact bytes_set M (ror_b _ (bytes M.b _).1 (bytes M.b _).2).1 (ror_b _ (bytes M.b _).1 (bytes M.b _).2).2)
theorem ok_73 {g : Rg} {ns : List Int} (W : Wf g) (M : Mem ns) : OkR (f_73 g ns) := by
  unfold f_73
  try dsimp only [nz]
  repeat' (first | exact ok_none | refine ok_ite ?_ ?_)
  all_goals (refine ok_some ?_ ?_ ?_ ?_ ?_ ?_ ?_ ?_ ?_ <;> first
    | exact W.a0 | exact W.a1 | exact W.x0 | exact W.x1 | exact W.y0 | exact W.y1 | exact W.s0 | exact W.s1 | exact M
    | exact em0 _ | exact em1 _ | exact (bytes M.b _).1 | exact (bytes M.b _).2
    | exact (bitAnd_range _ (bytes M.b _).1).1 | exact Int.lt_of_le_of_lt (bitAnd_range _ (bytes M.b _).1).2 (bytes M.b _).2
    | exact (xor_range W.a0 W.a1 (bytes M.b _).1 (bytes M.b _).2).1 | exact (xor_range W.a0 W.a1 (bytes M.b _).1 (bytes M.b _).2).2
    | exact (bit01 _).1 | exact (bit01 _).2 | exact bytes_set M W.a0 W.a1 | exact bytes_set M (em0 _) (em1 _)
    | exact bytes_set M (ror_b _ (bytes M.b _).1 (bytes M.b _).2).1 (ror_b _ (bytes M.b _).1 (bytes M.b _).2).2)
theorem ok_10 {g : Rg} {ns : List Int} (W : Wf g) (M : Mem ns) : OkR (f_10 g ns) := by
  unfold f_10
  try dsimp only [nz]
  repeat' (first | exact ok_none | refine ok_ite ?_ ?_)
  all_goals (refine ok_some ?_ ?_ ?_ ?_ ?_ ?_ ?_ ?_ ?_ <;> first
    | exact W.a0 | exact W.a1 | exact W.x0 | exact W.x1 | exact W.y0 | exact W.y1 | exact W.s0 | exact W.s1 | exact M
    | exact em0 _ | exact em1 _ | exact (bytes M.b _).1 | exact (bytes M.b _).2
    | exact (bitAnd_range _ (bytes M.b _).1).1 | exact Int.lt_of_le_of_lt (bitAnd_range _ (bytes M.b _).1).2 (bytes M.b _).2
    | exact (xor_range W.a0 W.a1 (bytes M.b _).1 (bytes M.b _).2).1 | exact (xor_range W.a0 W.a1 (bytes M.b _).1 (bytes M.b _).2).2
    | exact (bit01 _).1 | exact (bit01 _).2 | exact bytes_set M W.a0 W.a1 | exact bytes_set M (em0 _) (em1 _)
    | exact bytes_set M (ror_b _ (bytes M.b _).1 (bytes M.b _).2).1 (ror_b _ (bytes M.b _).1 (bytes M.b _).2).2)
theorem ok_118 {g : Rg} {ns : List Int} (W : Wf g) (M : Mem ns) : OkR (f_118 g ns) := by
  unfold f_118
  try dsimp only [nz]
  repeat' (first | exact ok_none | refine ok_ite ?_ ?_)
  all_goals (refine ok_some ?_ ?_ ?_ ?_ ?_ ?_ ?_ ?_ ?_ <;> first
    | exact W.a0 | exact W.a1 | exact W.x0 | exact W.x1 | exact W.y0 | exact W.y1 | exact W.s0 | exact W.s1 | exact M
    | exact em0 _ | exact em1 _ | exact (bytes M.b _).1 | exact (bytes M.b _).2
    | exact (bitAnd_range _ (bytes M.b _).1).1 | exact Int.lt_of_le_of_lt (bitAnd_range _ (bytes M.b _).1).2 (bytes M.b _).2
    | exact (xor_range W.a0 W.a1 (bytes M.b _).1 (bytes M.b _).2).1 | exact (xor_range W.a0 W.a1 (bytes M.b _).1 (bytes M.b _).2).2
    | exact (bit01 _).1 | exact (bit01 _).2 | exact bytes_set M W.a0 W.a1 | exact bytes_set M (em0 _) (em1 _)
    | exact bytes_set M (ror_b _ (bytes M.b _).1 (bytes M.b _).2).1 (ror_b _ (bytes M.b _).1 (bytes M.b _).2).2)
theorem ok_214 {g : Rg} {ns : List Int} (W : Wf g) (M : Mem ns) : OkR (f_214 g ns) := by
  unfold f_214
  try dsimp only [nz]
  repeat' (first | exact ok_none | refine ok_ite ?_ ?_)
  all_goals (refine ok_some ?_ ?_ ?_ ?_ ?_ ?_ ?_ ?_ ?_ <;> first
    | exact W.a0 | exact W.a1 | exact W.x0 | exact W.x1 | exact W.y0 | exact W.y1 | exact W.s0 | exact W.s1 | exact M
    | exact em0 _ | exact em1 _ | exact (bytes M.b _).1 | exact (bytes M.b _).2
    | exact (bitAnd_range _ (bytes M.b _).1).1 | exact Int.lt_of_le_of_lt (bitAnd_range _ (bytes M.b _).1).2 (bytes M.b _).2
    | exact (xor_range W.a0 W.a1 (bytes M.b _).1 (bytes M.b _).2).1 | exact (xor_range W.a0 W.a1 (bytes M.b _).1 (bytes M.b _).2).2
    | exact (bit01 _).1 | exact (bit01 _).2 | exact bytes_set M W.a0 W.a1 | exact bytes_set M (em0 _) (em1 _)
    | exact bytes_set M (ror_b _ (bytes M.b _).1 (bytes M.b _).2).1 (ror_b _ (bytes M.b _).1 (bytes M.b _).2).2)
theorem tbl_ok : ∀ q ∈ tbl, ∀ g ns, Wf g → Mem ns → OkR (q.2 g ns) := (fm_cons (fun _ _ W M => ok_185 W M) (fm_cons (fun _ _ W M => ok_200 W M) (fm_cons (fun _ _ W M => ok_41 W M) (fm_cons (fun _ _ W M => ok_141 W M) (fm_cons (fun _ _ W M => ok_108 W M) (fm_cons (fun _ _ W M => ok_202 W M) (fm_cons (fun _ _ W M => ok_149 W M) (fm_cons (fun _ _ W M => ok_76 W M) (fm_cons (fun _ _ W M => ok_181 W M) (fm_cons (fun _ _ W M => ok_24 W M) (fm_cons (fun _ _ W M => ok_117 W M) (fm_cons (fun _ _ W M => ok_232 W M) (fm_cons (fun _ _ W M => ok_56 W M) (fm_cons (fun _ _ W M => ok_245 W M) (fm_cons (fun _ _ W M => ok_72 W M) (fm_cons (fun _ _ W M => ok_104 W M) (fm_cons (fun _ _ W M => ok_168 W M) (fm_cons (fun _ _ W M => ok_240 W M) (fm_cons (fun _ _ W M => ok_208 W M) (fm_cons (fun _ _ W M => ok_152 W M) (fm_cons (fun _ _ W M => ok_136 W M) (fm_cons (fun _ _ W M => ok_165 W M) (fm_cons (fun _ _ W M => ok_133 W M) (fm_cons (fun _ _ W M => ok_213 W M) (fm_cons (fun _ _ W M => ok_169 W M) (fm_cons (fun _ _ W M => ok_42 W M) (fm_cons (fun _ _ W M => ok_73 W M) (fm_cons (fun _ _ W M => ok_10 W M) (fm_cons (fun _ _ W M => ok_118 W M) (fm_cons (fun _ _ W M => ok_214 W M) fm_nil))))))))))))))))))))))))))))))
theorem mstep_wf {g g2 : Rg} {ns ns2 : List Int} (W : Wf g) (M : Mem ns) (hm : mstep g ns = some (g2, ns2)) : Wf g2 ∧ Mem ns2 := by
  rw [mstep_eq (mstep_pc hm)] at hm
  obtain ⟨f, hf, h⟩ := mst_some hm
  exact tbl_ok _ hf _ _ W M _ _ h
end
section
open PySem PyProof.Rows
set_option maxRecDepth 100000
/-! ## the status octet, plainly -/
theorem bit7 {z : Int} (h : 0 ≤ z) : decide (Builtin.bitAnd z 128 ≠ 0) = z.toNat.testBit 7 := by
  rw [bitAnd_pp h (by decide)]
  have e : z.toNat &&& (128 : Int).toNat = _ := nand128 z.toNat
  rw [e]
  cases z.toNat.testBit 7 <;> decide
theorem nand_diff (X Y : Nat) : Y - (Y &&& X) = Y ^^^ (Y &&& X) := by
  have e := nat_or_add_and (Y &&& X) (Y ^^^ (Y &&& X))
  have e1 : (Y &&& X) ||| (Y ^^^ (Y &&& X)) = Y := by
    apply Nat.eq_of_testBit_eq
    intro i
    rw [Nat.testBit_or, Nat.testBit_xor, Nat.testBit_and]
    cases Y.testBit i <;> cases X.testBit i <;> rfl
  have e2 : (Y &&& X) &&& (Y ^^^ (Y &&& X)) = 0 := by
    apply Nat.eq_of_testBit_eq
    intro i
    rw [Nat.testBit_and, Nat.testBit_xor, Nat.testBit_and, Nat.zero_testBit]
    cases Y.testBit i <;> cases X.testBit i <;> rfl
  rw [e1, e2] at e
  omega
theorem toNat_cast (n : Nat) : ((n : Nat) : Int).toNat = n := rfl
theorem xor_nat {a b : Int} (ha : 0 ≤ a) (hb : 0 ≤ b) : Builtin.bitXor a b = ((a.toNat ^^^ b.toNat : Nat) : Int) := by
  have e := nat_or_add_and (a.toNat &&& b.toNat) (a.toNat ^^^ b.toNat)
  have e1 : (a.toNat &&& b.toNat) ||| (a.toNat ^^^ b.toNat) = a.toNat ||| b.toNat := by
    apply Nat.eq_of_testBit_eq
    intro i
    rw [Nat.testBit_or, Nat.testBit_xor, Nat.testBit_and, Nat.testBit_or]
    cases a.toNat.testBit i <;> cases b.toNat.testBit i <;> rfl
  have e2 : (a.toNat &&& b.toNat) &&& (a.toNat ^^^ b.toNat) = 0 := by
    apply Nat.eq_of_testBit_eq
    intro i
    rw [Nat.testBit_and, Nat.testBit_xor, Nat.testBit_and, Nat.zero_testBit]
    cases a.toNat.testBit i <;> cases b.toNat.testBit i <;> rfl
  rw [e1, e2] at e
  have e3 := nat_or_add_and a.toNat b.toNat
  rw [bitXor_and, bitAnd_pp ha hb]
  omega
theorem t7 (n : Nat) : n.testBit 7 = decide (n / 128 % 2 = 1) := by rw [Nat.testBit_eq_decide_div_mod_eq]
theorem and7 {x y : Int} (hx : 0 ≤ x) (hy : 0 ≤ y) : decide (Builtin.bitAnd (Builtin.bitAnd x y) 128 ≠ 0) = (x.toNat.testBit 7 && y.toNat.testBit 7) := by
  rw [bit7 (bitAnd_range x hy).1, bitAnd_pp hx hy, toNat_cast, Nat.testBit_and]
theorem andn7 {x y : Int} (hx : 0 ≤ x) (hy : 0 ≤ y) : decide (Builtin.bitAnd (Builtin.bitAnd (Builtin.bitNot x) y) 128 ≠ 0) = (!x.toNat.testBit 7 && y.toNat.testBit 7) := by
  have hn : ¬ 0 ≤ Builtin.bitNot x := by unfold Builtin.bitNot; omega
  have l : y.toNat &&& x.toNat ≤ y.toNat := Nat.and_le_left
  have e : Builtin.bitAnd (Builtin.bitNot x) y = ((y.toNat - (y.toNat &&& x.toNat) : Nat) : Int) := by
    rw [bitAnd_np hn hy, bitNot_bitNot]; omega
  rw [bit7 (by rw [e]; omega), e, toNat_cast, nand_diff, Nat.testBit_xor, Nat.testBit_and]
  cases y.toNat.testBit 7 <;> cases x.toNat.testBit 7 <;> rfl
theorem bool_of {p q : Prop} [Decidable p] [Decidable q] (h : p ↔ q) : decide p = decide q := decide_eq_decide.mpr h
theorem half {n : Nat} (h : n < 256) : ∃ p r : Nat, n = 128 * p + r ∧ p ≤ 1 ∧ r < 128 := ⟨n / 128, n % 128, (Nat.div_add_mod n 128).symm, Nat.le_of_lt_succ (Nat.div_lt_of_lt_mul h), Nat.mod_lt _ (by decide)⟩
theorem le1 {p : Nat} (h : p ≤ 1) : p = 0 ∨ p = 1 := by omega
theorem sg_half {p r : Nat} (hp : p ≤ 1) (hr : r < 128) : sg ((128 * p + r : Nat) : Int) = (r : Int) - 128 * p := by
  unfold sg
  rcases le1 hp with rfl | rfl
  · rw [if_neg (by omega)]; omega
  · rw [if_pos (by omega)]; omega
theorem bit_half {p r : Nat} (hp : p ≤ 1) (hr : r < 128) : (128 * p + r) / 128 % 2 = p := by omega
theorem toNat_half {n : Nat} : ((n : Int)).toNat = n := rfl
theorem adcN {p q r t : Nat} (hp : p ≤ 1) (hq : q ≤ 1) (hr : r < 128) (ht : t < 128) :
    (!(decide (p = 1) ^^ decide (q = 1)) && (decide (p = 1) ^^ decide ((128 * q + t + (128 * p + r)) / 128 % 2 = 1))) = decide (¬ (-128 ≤ ((t : Int) - 128 * q) + (r - 128 * p) ∧ ((t : Int) - 128 * q) + (r - 128 * p) ≤ 127)) := by
  by_cases h : t + r < 128
  · rw [show (128 * q + t + (128 * p + r)) / 128 % 2 = (q + p) % 2 by omega]
    rcases le1 hp with rfl | rfl <;> rcases le1 hq with rfl | rfl <;> first | exact (decide_eq_true (by omega)).symm | exact (decide_eq_false (by omega)).symm
  · rw [show (128 * q + t + (128 * p + r)) / 128 % 2 = (q + p + 1) % 2 by omega]
    rcases le1 hp with rfl | rfl <;> rcases le1 hq with rfl | rfl <;> first | exact (decide_eq_true (by omega)).symm | exact (decide_eq_false (by omega)).symm
theorem sbcN {p q r t : Nat} (hp : p ≤ 1) (hq : q ≤ 1) (hr : r < 128) (ht : t < 128) :
    ((decide (q = 1) ^^ decide (p = 1)) && (decide (q = 1) ^^ decide ((128 * q + t + 256 - (128 * p + r)) / 128 % 2 = 1))) = decide (¬ (-128 ≤ ((t : Int) - 128 * q) - (r - 128 * p) ∧ ((t : Int) - 128 * q) - (r - 128 * p) ≤ 127)) := by
  by_cases h : t < r
  · rw [show (128 * q + t + 256 - (128 * p + r)) / 128 % 2 = (q + p + 1) % 2 by omega]
    rcases le1 hp with rfl | rfl <;> rcases le1 hq with rfl | rfl <;> first | exact (decide_eq_true (by omega)).symm | exact (decide_eq_false (by omega)).symm
  · rw [show (128 * q + t + 256 - (128 * p + r)) / 128 % 2 = (q + p) % 2 by omega]
    rcases le1 hp with rfl | rfl <;> rcases le1 hq with rfl | rfl <;> first | exact (decide_eq_true (by omega)).symm | exact (decide_eq_false (by omega)).symm
theorem nat_half {a : Int} (a0 : 0 ≤ a) (a1 : a < 256) : ∃ p r : Nat, a = ((128 * p + r : Nat) : Int) ∧ p ≤ 1 ∧ r < 128 := by
  obtain ⟨n, rfl⟩ := Int.eq_ofNat_of_zero_le a0
  obtain ⟨p, r, rfl, h⟩ := half (Int.ofNat_lt.mp a1)
  exact ⟨p, r, rfl, h⟩
theorem adcV {a b : Int} (a0 : 0 ≤ a) (a1 : a < 256) (b0 : 0 ≤ b) (b1 : b < 256) :
    decide (Builtin.bitAnd (Builtin.bitAnd (Builtin.bitNot (Builtin.bitXor a b)) (Builtin.bitXor a (b + a))) 128 ≠ 0) = decide (¬ (-128 ≤ sg b + sg a ∧ sg b + sg a ≤ 127)) := by
  have s0 : 0 ≤ b + a := Int.add_nonneg b0 a0
  rw [andn7 (by rw [xor_nat a0 b0]; exact Int.natCast_nonneg _) (by rw [xor_nat a0 s0]; exact Int.natCast_nonneg _), xor_nat a0 b0, xor_nat a0 s0, toNat_cast, toNat_cast, Nat.testBit_xor, Nat.testBit_xor, t7, t7, t7]
  obtain ⟨p, r, rfl, hp, hr⟩ := nat_half a0 a1
  obtain ⟨q, t, rfl, hq, ht⟩ := nat_half b0 b1
  rw [show (((128 * q + t : Nat) : Int) + ((128 * p + r : Nat) : Int)).toNat = 128 * q + t + (128 * p + r) from rfl, toNat_half, toNat_half, bit_half hp hr, bit_half hq ht, sg_half hp hr, sg_half hq ht]
  exact adcN hp hq hr ht
theorem sbcV {a b : Int} (a0 : 0 ≤ a) (a1 : a < 256) (b0 : 0 ≤ b) (b1 : b < 256) :
    decide (Builtin.bitAnd (Builtin.bitAnd (Builtin.bitXor b a) (Builtin.bitXor b (b + (255 - a) + 1))) 128 ≠ 0) = decide (¬ (-128 ≤ sg b - sg a ∧ sg b - sg a ≤ 127)) := by
  have s0 : 0 ≤ b + (255 - a) + 1 := by omega
  have e : (b + (255 - a) + 1).toNat = b.toNat + 256 - a.toNat := by omega
  rw [and7 (by rw [xor_nat b0 a0]; exact Int.natCast_nonneg _) (by rw [xor_nat b0 s0]; exact Int.natCast_nonneg _), xor_nat b0 a0, xor_nat b0 s0, toNat_cast, toNat_cast, Nat.testBit_xor, Nat.testBit_xor, t7, t7, t7, e]
  clear e s0
  obtain ⟨p, r, rfl, hp, hr⟩ := nat_half a0 a1
  obtain ⟨q, t, rfl, hq, ht⟩ := nat_half b0 b1
  rw [toNat_half, toNat_half, bit_half hp hr, bit_half hq ht, sg_half hp hr, sg_half hq ht]
  exact sbcN hp hq hr ht
theorem and30_all : ∀ k : Nat, k < 256 → k &&& 30 = 2 * (k / 2 % 16) := by decide +kernel
theorem and30 {b : Int} (h0 : 0 ≤ b) (h1 : b < 256) : Builtin.bitAnd b 30 = 2 * (b / 2 % 16) := by
  rw [bitAnd_pp h0 (by decide)]
  have e := and30_all b.toNat (by omega)
  have e2 : b.toNat &&& (30 : Int).toNat = 2 * (b.toNat / 2 % 16) := e
  rw [e2]; omega
end
section
open PySem PySem.W PySem.Calls PyProof.Rows
set_option maxRecDepth 100000
set_option maxHeartbeats 4000000
structure MachAt (I : Im) (g : Rg) (ns : List Int) (vs : List Value) (ct : Array Value) (rest : List (Addr × Obj)) : Prop where
  hi : IntsAre vs ns
  M : Mem ns
  W : Wf g
  off : OwnOff rest [I.x, I.d, I.r, 80]
  tab : Tab ct rest
theorem mrun_zero {g : Rg} {ns : List Int} {r : Rg × List Int} (h : mrun 0 g ns = some r) : False := by
  unfold mrun at h; cases h
theorem mrun_step {n : Nat} {g gF : Rg} {ns nsF : List Int} (h : mrun (n + 1) g ns = some (gF, nsF)) : ∃ g1 ns1, mstep g ns = some (g1, ns1) ∧ ((g1.pc ≠ 544 ∧ mrun n g1 ns1 = some (gF, nsF)) ∨ (g1.pc = 544 ∧ g1 = gF ∧ ns1 = nsF)) := by
  unfold mrun at h
  split at h
  · cases h
  · rename_i g1 ns1 e
    refine ⟨g1, ns1, e, ?_⟩
    split at h
    · rename_i hp
      simp only [Option.some.injEq, Prod.mk.injEq] at h
      exact .inr ⟨hp, h.1, h.2⟩
    · rename_i hp
      exact .inl ⟨hp, h⟩
/-- the frame's names within the machine's loop -/
noncomputable def mW (I : Im) (m : Str → Option Value) (j : Int) (tk : Tok) : Str → Option Value := fun y => if y = "steps" then some (.int j tk) else if y = "mpu" then some (.ref I.x) else m y
theorem mW_of {I : Im} {m m₁ : Str → Option Value} {j : Int} {tk : Tok} (h1 : m₁ "steps" = some (.int j tk)) (h2 : m₁ "mpu" = some (.ref I.x)) (h3 : ∀ y : Str, y ≠ "steps" → y ≠ "mpu" → m₁ y = m y) : m₁ = mW I m j tk := by
  funext y
  unfold mW
  by_cases e1 : y = "steps"
  · rw [if_pos e1, e1, h1]
  · rw [if_neg e1]
    by_cases e2 : y = "mpu"
    · rw [if_pos e2, e2, h2]
    · rw [if_neg e2, h3 y e1 e2]
/-- within the machine's loop -/
inductive WInv (I : Im) (m : Str → Option Value) (rest : List (Addr × Obj)) (gF : Rg) (nsF : List Int) : Nat → (Str → Option Value) → List (Addr × Obj) → Prop
  | mk (j : Nat) (g' : Rg) (ns' : List Int) (vs' : List Value) (ex' : Int) (ad' : Value) (te tc tpc tsp ta tx ty tp : Tok) (ct' : Array Value) (more : List (Addr × Obj)) (tj : Tok) (hj : j ≤ 14) (C : MachAt I g' ns' vs' ct' (more ++ rest))
    (hcase : ((j = 0 ∨ g'.pc ≠ 544) ∧ mrun (14 - j) g' ns' = some (gF, nsF)) ∨ (j ≠ 0 ∧ g'.pc = 544 ∧ g' = gF ∧ ns' = nsF)) : WInv I m rest gF nsF (15 - j) (mW I m (j : Int) tj) (led I g' ex' ad' ⟨te, tc, tpc, tsp, ta, tx, ty, tp⟩ vs' ++ (80, tabObj ct') :: (more ++ rest))
theorem winv_up {I : Im} {m : Str → Option Value} {rest more more2 : List (Addr × Obj)} {gF g2 : Rg} {nsF ns2 : List Int} {j : Nat} {ex2 : Int} {ad2 : Value} {te tc tpc tsp ta tx ty tp : Tok} {vs2 : List Value} {ct2 : Array Value} {m2 : Str → Option Value} {tj2 : Tok} (hj : j < 14) (W2 : Wf g2) (M2 : Mem ns2) (hc : (g2.pc ≠ 544 ∧ mrun (13 - j) g2 ns2 = some (gF, nsF)) ∨ (g2.pc = 544 ∧ g2 = gF ∧ ns2 = nsF))
    (hi2 : IntsAre vs2 ns2) (off2 : OwnOff (more2 ++ (more ++ rest)) [I.x, I.d, I.r, 80]) (tab2 : Tab ct2 (more2 ++ (more ++ rest))) (q1 : m2 "steps" = some (.int ((j : Int) + 1) tj2)) (q2 : m2 "mpu" = some (.ref I.x)) (q3 : ∀ y : Str, y ≠ "steps" → y ≠ "mpu" → m2 y = m y) :
    WInv I m rest gF nsF (15 - (j + 1)) m2 (led I g2 ex2 ad2 ⟨te, tc, tpc, tsp, ta, tx, ty, tp⟩ vs2 ++ (80, tabObj ct2) :: (more2 ++ (more ++ rest))) := by
  rw [mW_of (j := ((j + 1 : Nat) : Int)) q1 q2 q3]
  rw [← List.append_assoc] at off2 tab2 ⊢
  exact .mk (j + 1) g2 ns2 vs2 ex2 ad2 te tc tpc tsp ta tx ty tp ct2 (more2 ++ more) tj2 hj ⟨hi2, M2, W2, off2, tab2⟩ (hc.elim (fun c => .inl ⟨.inr c.1, by rw [show 14 - (j + 1) = 13 - j by omega]; exact c.2⟩) fun c => .inr ⟨Nat.succ_ne_zero j, c⟩)
section
local macro_rules | `(tactic| kn_code) => `(tactic| k_extra "q11")
local macro_rules | `(tactic| k_is) => `(tactic| k_extra "q22")
local macro_rules | `(tactic| k_enter) => `(tactic| (k_extra "q23"; intro g' ex' ad' te' tc' tpc' tsp' ta' tx' ty' tp' vs' h' tk' ct' more' P' F' O' Tb' N'; obtain ⟨e1', hi'⟩ := P'; subst e1'; dsimp only [led, mm, List.cons_append, List.nil_append] at N'; (try dsimp only); (try k_sweep)))
theorem while_ok {w : World} {h₀ : Heap} {L fa : Addr} {cd : Value} {mg mb : Str → Option Value} {p : Program} {loose : List Str} {mean : ExcName → Option Value} {s : Shared} {I : Im} {g gF : Rg} {ns nsF : List Int} {vs : List Value} {ct : Array Value} {rest : List (Addr × Obj)} {ex : Int} {ad : Value} {t : Tk} {m : Str → Option Value} {tk0 : Tok} {Q : Flow → Shared → Prop} {E : Value → Shared → Prop}
    (S : Sur w h₀ mg mb p loose mean) (ap : Apart I) (n80 : (80 : Nat) ≠ I.x ∧ (80 : Nat) ≠ I.d ∧ (80 : Nat) ≠ I.r) (C : MachAt I g ns vs ct rest) (hrun : mrun 14 g ns = some (gF, nsF)) (hE : PassesOwn (model PySem.Challenge.rw_im0103_01.row.prog w) (lawA L fa cd) (lawEnv L fa cd) E)
    (F : Fr h₀ L s.heap m) (hs : m "steps" = some (.int 0 tk0)) (hmp : m "mpu" = some (.ref I.x)) (N : News h₀ L s.heap (led I g ex ad t vs ++ (80, tabObj ct) :: rest))
    (k : ∀ ex' ad' t' vs' ct' more j tj h' tk, MachAt I gF nsF vs' ct' (more ++ rest) → Fr h₀ L h' (mW I m j tj) → News h₀ L h' (led I gF ex' ad' t' vs' ++ (80, tabObj ct') :: (more ++ rest)) → Q .next { s with heap := h', toks := tk }) :
    wpAny (model PySem.Challenge.rw_im0103_01.row.prog w) (lawA L fa cd) (exec theWhile (lawEnv L fa cd)) Q E s := by
  obtain ⟨B, X, T, hch⟩ := S
  have hA := lawA_frames L fa cd
  have hroom := lawA_room L fa cd
  have hu := lawA_units L fa cd
  have hdx := ap.dx
  have hrd := ap.rd
  have n80x := n80.1
  have n80d := n80.2.1
  have n80r := n80.2.2
  have e0 : m = mW I m 0 tk0 := mW_of hs hmp fun _ _ _ => rfl
  rw [e0] at F
  show wpAny _ _ (exec (.While _ _ [] _) _) _ _ _
  refine While_inv2 (WInv I m rest gF nsF) (n₀ := 15) F N (WInv.mk 0 g ns vs ex ad _ _ _ _ _ _ _ _ ct [] tk0 (Nat.zero_le _) C (.inl ⟨.inl rfl, hrun⟩)) ?_ hE
  clear F N hs hmp e0 C hrun
  rintro n m₁ news₁ h₁ tk₁ F N ⟨j, g', ns', vs', ex', ad', te, tc, tpc, tsp, ta, tx, ty, tp, ct', more, tj, hj, C, hcase⟩
  obtain ⟨hi, M, W, off, htab⟩ := C
  unfold mW at F
  dsimp only [led, mm, List.cons_append, List.nil_append] at N
  rcases hcase with ⟨hgo, hrun⟩ | ⟨hj0, hpc, rfl, rfl⟩
  · have hj14 : j < 14 := by
      rcases Nat.lt_or_ge j 14 with h | h
      · exact h
      · rw [show 14 - j = 0 from by omega] at hrun
        exact (mrun_zero hrun).elim
    rw [show 14 - j = (13 - j) + 1 from by omega] at hrun
    obtain ⟨g2, ns2, hms, hcase2⟩ := mrun_step hrun
    obtain ⟨W2, M2⟩ := mstep_wf W M hms
    have hst : Steps w 10 I g' ex' ad' ⟨te, tc, tpc, tsp, ta, tx, ty, tp⟩ vs' ct' (fun g' vs' => g' = g2 ∧ IntsAre vs' ns2) := step_ok ap hi M W hms
    have fin : ∀ {ex2 : Int} {ad2 : Value} {te tc tpc tsp ta tx ty tp : Tok} {vs2 : List Value} {ct2 : Array Value} {more2 : List (Addr × Obj)} {h2 : Heap} {tk2 : Nat} {m2 : Str → Option Value} {tj2 : Tok}, IntsAre vs2 ns2 → OwnOff (more2 ++ (more ++ rest)) [I.x, I.d, I.r, 80] → Tab ct2 (more2 ++ (more ++ rest)) → Fr h₀ L h2 m2 → m2 "steps" = some (.int ((j : Int) + 1) tj2) → m2 "mpu" = some (.ref I.x) → (∀ y : Str, y ≠ "steps" → y ≠ "mpu" → m2 y = m y) →
        News h₀ L h2 (led I g2 ex2 ad2 ⟨te, tc, tpc, tsp, ta, tx, ty, tp⟩ vs2 ++ (80, tabObj ct2) :: (more2 ++ (more ++ rest))) →
        WhileStep2 h₀ L s (WInv I m rest gF nsF) Q (15 - j) .next { s with heap := h2, toks := tk2 } := fun {ex2 ad2 te tc tpc tsp ta tx ty tp vs2 ct2 more2 h2 tk2 m2 tj2} hi2 off2 tab2 F2 q1 q2 q3 N2 =>
      ⟨h2, tk2, m2, _, 15 - (j + 1), rfl, F2, N2, Nat.sub_lt_sub_left (Nat.lt_succ_of_lt hj14) (Nat.lt_succ_self j), winv_up hj14 W2 M2 hcase2 hi2 off2 tab2 q1 q2 q3⟩
    rcases Nat.eq_zero_or_pos j with rfl | hj1
    · have hb1 : (((0 : Nat) : Int) == 0) = true := rfl
      w_strict (skip; k_steps)
      rename News h₀ L _ _ => kN
      rename Fr h₀ L _ _ => kF
      rename Tab _ _ => kT
      rename IntsAre _ ns2 => kI
      rename OwnOff _ _ => kO
      exact fin kI kO kT kF rfl rfl (fun y e1 e2 => by dsimp only; rw [if_neg e1, if_neg e1, if_neg e2]) kN
    · have hpc : g'.pc ≠ 544 := hgo.resolve_left (by omega)
      have hj2 : (j : Int) ≠ 0 := by omega
      have hb1 : ((j : Int) == 0) = false := by rw [beq_eq_false_iff_ne]; exact hj2
      have hb2 : (g'.pc != 544) = true := bne_iff_ne.mpr hpc
      have hb3 : decide ((j : Int) < 14) = true := decide_eq_true (by omega)
      w_strict (skip; k_steps)
      rename News h₀ L _ _ => kN
      rename Fr h₀ L _ _ => kF
      rename Tab _ _ => kT
      rename IntsAre _ ns2 => kI
      rename OwnOff _ _ => kO
      exact fin kI kO kT kF rfl rfl (fun y e1 e2 => by dsimp only; rw [if_neg e1, if_neg e1, if_neg e2]) kN
  · have hj2 : (j : Int) ≠ 0 := by omega
    have hb1 : ((j : Int) == 0) = false := by rw [beq_eq_false_iff_ne]; exact hj2
    have hb2 : (g'.pc != 544) = false := by rw [hpc]; rfl
    w_strict (skip; k_steps)
    rename News h₀ L _ _ => kN
    rename Fr h₀ L _ _ => kF
    exact k ex' ad' ⟨te, tc, tpc, tsp, ta, tx, ty, tp⟩ vs' ct' more _ _ _ _ ⟨hi, M, W, off, htab⟩ kF kN
end
end
section
open PySem PySem.W PySem.Calls PyProof.Rows
set_option maxRecDepth 100000
set_option maxHeartbeats 4000000
theorem kstB_self {m : Str → Option Value} {ps : List (Str × Value)} (h : ∀ q ∈ ps, m q.1 = some q.2) : kstB m ps = m := by
  funext z
  exact kstB_eq h fun _ => rfl
theorem told_div {v : Int} (h0 : 0 ≤ v) (h1 : v < 256) : v / 128 = if 128 ≤ v then 1 else 0 := by
  by_cases h : 128 ≤ v
  · rw [if_pos h]; omega
  · rw [if_neg h]; omega
theorem news_tl {h₀ h : Heap} {L : Addr} {q : Addr × Obj} {l : List (Addr × Obj)} (N : News h₀ L h (q :: l)) : News h₀ L h l := fun p hp => N p (.tail _ hp)
noncomputable def tailStmts : List Stmt := turnBody.drop 11
section
local macro_rules | `(tactic| kn_code) => `(tactic| k_extra "q11")
local macro_rules | `(tactic| k_is) => `(tactic| k_extra "q24")
theorem tail_ok {w : World} {h₀ : Heap} {L fa : Addr} {cd : Value} {mg mb : Str → Option Value} {p : Program} {loose : List Str} {mean : ExcName → Option Value} {s : Shared} {I : Im} {g : Rg} {ex : Int} {ad : Value} {t : Tk} {vs : List Value} {rest : List (Addr × Obj)} {m : Str → Option Value} {carry told over : Int} {t1 t2 t3 t4 t5 t6 t7 t8 : Tok} {Q : Flow → Shared → Prop} {E : Value → Shared → Prop}
    (S : Sur w h₀ mg mb p loose mean) (ap : Apart I) (off : OwnOff rest [I.x, I.d, I.r]) (F : Fr h₀ L s.heap m)
    (hm : ∀ q ∈ ([("carry", .int carry t1), ("told", .int told t2), ("over", .int over t3), ("mpu", .ref I.x), ("a", .int g.a t4), ("x", .int g.x t5), ("y", .int g.y t6), ("sp", .int g.sp t7), ("cycles", .int g.cyc t8)] : List (Str × Value)), m q.1 = some q.2)
    (hC : carry = if g.C then 1 else 0) (hV : over = if g.V then 1 else 0) (hZ : g.Z = decide (told = 0)) (hN : g.N = decide (128 ≤ told)) (hpc : g.pc = 544) (h0 : 0 ≤ told) (h1 : told < 256)
    (N : News h₀ L s.heap (led I g ex ad t vs ++ rest))
    (k : ∀ m' h' tk, (∀ y : Str, y ≠ "p" → m' y = m y) → Fr h₀ L h' m' → News h₀ L h' (led I g ex ad t vs ++ rest) → Q .next { s with heap := h', toks := tk }) :
    wpAny (model PySem.Challenge.rw_im0103_01.row.prog w) (lawA L fa cd) (execs tailStmts (lawEnv L fa cd)) Q E s := by
  obtain ⟨B, X, T, hch⟩ := S
  have hA := lawA_frames L fa cd
  have hroom := lawA_room L fa cd
  have hu := lawA_units L fa cd
  have hdx := ap.dx
  have hrd := ap.rd
  have e0 := kstB_self hm
  rw [← e0] at F
  dsimp only [kstB] at F
  dsimp only [led, mm, List.cons_append, List.nil_append] at N
  have ef : told.fdiv 128 = told / 128 := Int.fdiv_eq_ediv_of_nonneg _ (by decide)
  have ed := told_div h0 h1
  rcases Decidable.em (told = 0) with hz | hz
  · have hz1 : (told == 0) = true := beq_iff_eq.mpr hz
    have hE1 : (fl g.C g.Z g.V g.N == 48 + carry + 2 + 64 * over + 128 * told.fdiv 128 && g.pc == 544) = true := by
      rw [ef, ed, hC, hV, hZ, hN, hpc, hz]
      cases g.C <;> cases g.V <;> rfl
    show wpAny _ (callerA.deeper (envOf _ ⟨_, _, _, _, _⟩ _ _ _)) (execs (_ :: _) (envOf _ ⟨_, _, _, _, _⟩ _ _ _)) _ _ _
    w_strict (skip; k_steps)
    rename News h₀ L _ _ => kN
    rename Fr h₀ L _ _ => kF
    exact k _ _ _ (fun y hy => by dsimp only; rw [if_neg hy]; exact congrFun e0 y) kF (news_tl (news_tl kN))
  · have hz1 : (told == 0) = false := by rw [beq_eq_false_iff_ne]; exact hz
    have hE1 : (fl g.C g.Z g.V g.N == 48 + carry + 0 + 64 * over + 128 * told.fdiv 128 && g.pc == 544) = true := by
      rw [ef, ed, hC, hV, hZ, hN, hpc, decide_eq_false hz]
      by_cases h8 : 128 ≤ told
      · rw [decide_eq_true h8, if_pos h8]
        cases g.C <;> cases g.V <;> rfl
      · rw [decide_eq_false h8, if_neg h8]
        cases g.C <;> cases g.V <;> rfl
    show wpAny _ (callerA.deeper (envOf _ ⟨_, _, _, _, _⟩ _ _ _)) (execs (_ :: _) (envOf _ ⟨_, _, _, _, _⟩ _ _ _)) _ _ _
    w_strict (skip; k_steps)
    rename News h₀ L _ _ => kN
    rename Fr h₀ L _ _ => kF
    exact k _ _ _ (fun y hy => by dsimp only; rw [if_neg hy]; exact congrFun e0 y) kF (news_tl (news_tl kN))
end
end
section
open PySem PySem.W PySem.Calls PyProof.Rows
set_option maxRecDepth 100000
set_option maxHeartbeats 4000000
noncomputable def chg : List Str := ["a", "x", "y", "sp", "carry", "over", "cycles", "told", "left"]
structure Out where
  a : Int
  x : Int
  y : Int
  sp : Int
  carry : Int
  over : Int
  cycles : Int
  told : Int
  cells : List Int
  calls : List Int
  first : List Int
/-- what a branch of the turn does -/
noncomputable def BrS (w : World) (kind given under above top second x y sp carry over cycles a : Int) (page first cells calls : List Int) (o : Out) : Prop :=
  ∀ ⦃h₀ : Heap⦄ ⦃L fa : Addr⦄ ⦃cd : Value⦄ ⦃mg mb : Str → Option Value⦄ ⦃p : Program⦄ ⦃loose : List Str⦄ ⦃mean : ExcName → Option Value⦄ ⦃s : Shared⦄ ⦃I : Im⦄ ⦃J : Lw⦄ ⦃g : Rg⦄ ⦃ex : Int⦄ ⦃ad : Value⦄ ⦃t : Tk⦄ ⦃vs pvs fvs cvs avs : List Value⦄ ⦃rest : List (Addr × Obj)⦄ ⦃m : Str → Option Value⦄ ⦃i0 i1 i2 i3 i4 i5 i6 i7 i8 i9 i10 i11 i12 : Tok⦄ ⦃Q : Flow → Shared → Prop⦄ ⦃E : Value → Shared → Prop⦄,
    Sur w h₀ mg mb p loose mean → LwOff I J → OwnOff rest [I.x, I.d, I.r, J.pg, J.fs, J.cl, J.ca] → Fr h₀ L s.heap m →
    (∀ q ∈ ([("kind", .int kind i0), ("a", .int a i1), ("x", .int x i2), ("y", .int y i3), ("sp", .int sp i4), ("given", .int given i5), ("under", .int under i6), ("above", .int above i7), ("top", .int top i8), ("second", .int second i9), ("cycles", .int cycles i10), ("carry", .int carry i11), ("over", .int over i12), ("page", .ref J.pg), ("first", .ref J.fs), ("cells", .ref J.cl), ("calls", .ref J.ca)] : List (Str × Value)), m q.1 = some q.2) →
    IntsAre pvs page → IntsAre fvs first → IntsAre cvs cells → IntsAre avs calls → page.length = 256 → first.length = 256 → cells.length = 256 → calls.length = 256 →
    0 ≤ x → x < 256 → 0 ≤ y → y < 256 → 0 ≤ sp → sp < 256 → 0 ≤ under → under < 256 → 0 ≤ above → above < 256 → 0 ≤ top → top < 256 → 0 ≤ second → second < 256 →
    News h₀ L s.heap (led I g ex ad t vs ++ (lwl J pvs fvs cvs avs ++ rest)) →
    (∀ m' h' tk t' pvs' fvs' cvs' avs' o0 o1 o2 o3 o4 o5 o6 o7, IntsAre pvs' page → IntsAre fvs' o.first → IntsAre cvs' o.cells → IntsAre avs' o.calls →
      (∀ q ∈ ([("a", .int o.a o0), ("x", .int o.x o1), ("y", .int o.y o2), ("sp", .int o.sp o3), ("carry", .int o.carry o4), ("over", .int o.over o5), ("cycles", .int o.cycles o6), ("told", .int o.told o7)] : List (Str × Value)), m' q.1 = some q.2) →
      (∀ z : Str, chg.contains z = false → m' z = m z) → Fr h₀ L h' m' → News h₀ L h' (led I g ex ad t' vs ++ (lwl J pvs' fvs' cvs' avs' ++ rest)) → Q .next { s with heap := h', toks := tk }) →
    wpAny (model PySem.Challenge.rw_im0103_01.row.prog w) (lawA L fa cd) (exec ifStmt (lawEnv L fa cd)) Q E s
theorem kitC {K : AV → Sg → Prop} {loc : List (Str × AV)} {r : Raw} {ls : List (Addr × List Int)} {D : Addr} {ns : List Int} {k : Int} (j : Nat) (h : ls[j]? = some (D, ns)) (hl : ns.length = 256) (h0 : 0 ≤ k) (h1 : k < 256) (hK : K (.int (rd ns k)) ⟨loc, r, ls⟩) : KIt K (.val (.ref D)) (.int k) ⟨loc, r, ls⟩ := kit j h h0 (by omega) (by omega) hK
noncomputable abbrev ls4 (J : Lw) (first cells calls page : List Int) : List (Addr × List Int) := [(J.fs, first), (J.cl, cells), (J.ca, calls), (J.pg, page)]
theorem km0 {Kn : Sg → Prop} {loc : List (Str × AV)} {r : Raw} {A B C G : Addr} {na nb nc ng : List Int} {k x : Int} (hl : na.length = 256) (h0 : 0 ≤ k) (h1 : k < 256) (hK : Kn ⟨loc, r, [(A, na.set k.toNat x), (B, nb), (C, nc), (G, ng)]⟩) : KM Kn (.int x) (.val (.ref A)) (.int k) ⟨loc, r, [(A, na), (B, nb), (C, nc), (G, ng)]⟩ := km 0 rfl h0 (by omega) (by omega) hK
theorem km1 {Kn : Sg → Prop} {loc : List (Str × AV)} {r : Raw} {A B C G : Addr} {na nb nc ng : List Int} {k x : Int} (hl : nb.length = 256) (h0 : 0 ≤ k) (h1 : k < 256) (hK : Kn ⟨loc, r, [(A, na), (B, nb.set k.toNat x), (C, nc), (G, ng)]⟩) : KM Kn (.int x) (.val (.ref B)) (.int k) ⟨loc, r, [(A, na), (B, nb), (C, nc), (G, ng)]⟩ := km 1 rfl h0 (by omega) (by omega) hK
theorem km2 {Kn : Sg → Prop} {loc : List (Str × AV)} {r : Raw} {A B C G : Addr} {na nb nc ng : List Int} {k x : Int} (hl : nc.length = 256) (h0 : 0 ≤ k) (h1 : k < 256) (hK : Kn ⟨loc, r, [(A, na), (B, nb), (C, nc.set k.toNat x), (G, ng)]⟩) : KM Kn (.int x) (.val (.ref C)) (.int k) ⟨loc, r, [(A, na), (B, nb), (C, nc), (G, ng)]⟩ := km 2 rfl h0 (by omega) (by omega) hK
noncomputable def lawSc : Scope := sOwn (pTop 8)
noncomputable def avI : Option AV → Int → Prop
  | some (.int i), v => i = v
  | some (.val (.int i _)), v => i = v
  | _, _ => False
theorem avI_get {m0 m : Str → Option Value} {loc : List (Str × AV)} (lo : LocOk m0 loc m) {x : Str} {v : Int} (h : avI (loc.lookup x) v) : ∃ t, m x = some (.int v t) := by
  cases e : loc.lookup x with
  | none => rw [e] at h; exact h.elim
  | some a =>
    rw [e] at h
    obtain ⟨u, hu, hi⟩ := lo.1 _ _ e
    cases a with
    | int i => obtain ⟨t, rfl⟩ := hi; obtain rfl : i = v := h; exact ⟨t, hu⟩
    | val y =>
      cases y with
      | int i t => obtain rfl : u = .int i t := hi; obtain rfl : i = v := h; exact ⟨t, hu⟩
      | _ => exact h.elim
noncomputable abbrev loc0 (J : Lw) (kind a x y sp given under above top second cycles carry over : Int) (i0 i1 i2 i3 i4 i5 i6 i7 i8 i9 i10 i11 i12 : Tok) : List (Str × AV) :=
  [("kind", .val (.int kind i0)), ("a", .val (.int a i1)), ("x", .val (.int x i2)), ("y", .val (.int y i3)), ("sp", .val (.int sp i4)), ("given", .val (.int given i5)), ("under", .val (.int under i6)), ("above", .val (.int above i7)), ("top", .val (.int top i8)), ("second", .val (.int second i9)), ("cycles", .val (.int cycles i10)), ("carry", .val (.int carry i11)), ("over", .val (.int over i12)), ("page", .val (.ref J.pg)), ("first", .val (.ref J.fs)), ("cells", .val (.ref J.cl)), ("calls", .val (.ref J.ca))]
structure BrPost (J : Lw) (page : List Int) (l0 : List (Str × AV)) (r : Raw) (o : Out) (σ : Sg) : Prop where
  loc : ∃ pre : List (Str × AV), σ.loc = pre ++ l0 ∧ (pre.all fun p => chg.contains p.1) = true
  r : σ.r = r
  ls : σ.ls = ls4 J o.first o.cells o.calls page
  a : avI (σ.loc.lookup ("a" : Str)) o.a
  x : avI (σ.loc.lookup ("x" : Str)) o.x
  y : avI (σ.loc.lookup ("y" : Str)) o.y
  sp : avI (σ.loc.lookup ("sp" : Str)) o.sp
  carry : avI (σ.loc.lookup ("carry" : Str)) o.carry
  over : avI (σ.loc.lookup ("over" : Str)) o.over
  cycles : avI (σ.loc.lookup ("cycles" : Str)) o.cycles
  told : avI (σ.loc.lookup ("told" : Str)) o.told
noncomputable def BrV (w : World) (kind given under above top second x y sp carry over cycles a : Int) (page first cells calls : List Int) (o : Out) : Prop :=
  ∀ ⦃I : Im⦄ ⦃J : Lw⦄ ⦃r : Raw⦄ ⦃rest : List (Addr × Obj)⦄ ⦃c : Cx⦄ ⦃i0 i1 i2 i3 i4 i5 i6 i7 i8 i9 i10 i11 i12 : Tok⦄, c.Ok w lawSc 10 → c.A.handled = none → page.length = 256 → first.length = 256 → cells.length = 256 → calls.length = 256 →
    0 ≤ x → x < 256 → 0 ≤ y → y < 256 → 0 ≤ sp → sp < 256 → 0 ≤ under → under < 256 → 0 ≤ above → above < 256 → 0 ≤ top → top < 256 → 0 ≤ second → second < 256 →
    Ex w I rest lawSc c ifStmt ⟨loc0 J kind a x y sp given under above top second cycles carry over i0 i1 i2 i3 i4 i5 i6 i7 i8 i9 i10 i11 i12, r, ls4 J first cells calls page⟩
      (BrPost J page (loc0 J kind a x y sp given under above top second cycles carry over i0 i1 i2 i3 i4 i5 i6 i7 i8 i9 i10 i11 i12) r o) (fun _ _ => False)
theorem LAll.mem {l : List (Str × AV)} {l' : List (Str × Value)} (h : LAll l l') {m m0 : Str → Option Value} (hm : ∀ q ∈ l', m q.1 = some q.2) (h0 : ∀ x, l.lookup x = none → m x = m0 x) : LocOk m0 l m := by
  refine ⟨?_, h0⟩
  clear h0
  induction h with
  | nil => intro x a hx; cases hx
  | @cons x a v l l' ha _ ih =>
    intro y b hy
    rw [List.lookup_cons] at hy
    cases hq : y == x with
    | true =>
      rw [hq] at hy
      obtain rfl := Option.some.inj hy
      rw [beq_iff_eq.mp hq]
      exact ⟨v, hm _ (.head _), ha⟩
    | false => rw [hq] at hy; exact ih (fun q hq => hm q (.tail _ hq)) _ _ hy
theorem lookup_pre {pre l : List (Str × AV)} {z : Str} (h : ∀ p ∈ pre, p.1 ≠ z) : (pre ++ l).lookup z = l.lookup z := by
  induction pre with
  | nil => rfl
  | cons p r ih =>
    rw [List.cons_append, List.lookup_cons, beq_eq_false_iff_ne.mpr (Ne.symm (h p (.head _)))]
    exact ih fun q hq => h q (.tail _ hq)
theorem lall_val {l : List (Str × Value)} : LAll (l.map fun p => (p.1, .val p.2)) l := by
  induction l with
  | nil => exact .nil
  | cons p r ih => exact .cons rfl ih
theorem lookup_val {l : List (Str × Value)} {z : Str} : (l.map fun p => (p.1, AV.val p.2)).lookup z = (l.lookup z).map AV.val := by
  induction l with
  | nil => rfl
  | cons p r ih =>
    rw [List.map_cons, List.lookup_cons]
    show _ = Option.map AV.val (List.lookup z ((p.1, p.2) :: r))
    rw [List.lookup_cons]
    cases z == p.1 <;> simp [ih]
theorem mem_of_lookup {l : List (Str × Value)} {z : Str} {v : Value} (h : l.lookup z = some v) : (z, v) ∈ l := by
  induction l with
  | nil => cases h
  | cons p r ih =>
    obtain ⟨x, u⟩ := p
    rw [List.lookup_cons] at h
    cases hq : z == x with
    | true => rw [hq] at h; obtain rfl := Option.some.inj h; rw [beq_iff_eq.mp hq]; exact .head _
    | false => rw [hq] at h; exact .tail _ (ih h)
/-- names not stored stay as they were -/
theorem kept {m m' : Str → Option Value} {l : List (Str × Value)} {pre loc : List (Str × AV)} (hm : ∀ q ∈ l, m q.1 = some q.2) (e : loc = pre ++ l.map fun p => (p.1, AV.val p.2)) (lo : LocOk m loc m') {z : Str} (hz : ∀ p ∈ pre, p.1 ≠ z) : m' z = m z := by
  have hl : loc.lookup z = (l.lookup z).map AV.val := by rw [e, lookup_pre hz, lookup_val]
  cases q : l.lookup z with
  | none => rw [q] at hl; exact lo.2 _ hl
  | some v =>
    rw [q] at hl
    obtain ⟨u, hu, hv⟩ := lo.1 _ _ hl
    obtain rfl : u = v := hv
    rw [hu, hm _ (mem_of_lookup q)]
theorem LsAre.split {b : List (Addr × List Int)} : ∀ {a : List (Addr × List Int)} {os : List (Addr × Obj)}, LsAre (a ++ b) os → ∃ o1 o2, os = o1 ++ o2 ∧ LsAre b o2
  | [], os, h => ⟨[], os, rfl, h⟩
  | (x, ns) :: a, _, h => by
    rw [List.cons_append] at h
    cases h with
    | cons hi h =>
      obtain ⟨o1, o2, rfl, h2⟩ := LsAre.split h
      exact ⟨_ :: o1, o2, rfl, h2⟩
theorem sub_off {I : Im} {J : Lw} : ∀ b ∈ [I.x, I.d, J.fs, J.cl, J.ca, J.pg], b ∈ [I.x, I.d, I.r, J.pg, J.fs, J.cl, J.ca] := fm_cons (.head _) (fm_cons (.tail _ (.head _)) (fm_cons (.tail _ (.tail _ (.tail _ (.tail _ (.head _))))) (fm_cons (.tail _ (.tail _ (.tail _ (.tail _ (.tail _ (.head _)))))) (fm_cons (.tail _ (.tail _ (.tail _ (.tail _ (.tail _ (.tail _ (.head _))))))) (fm_cons (.tail _ (.tail _ (.tail _ (.head _)))) fm_nil)))))
theorem law_use {w : World} {h₀ : Heap} {L fa : Addr} {cd : Value} {mg mb : Str → Option Value} {p : Program} {loose : List Str} {mean : ExcName → Option Value} {s : Shared} {I : Im} {J : Lw} {g : Rg} {ex : Int} {ad : Value} {t : Tk} {vs pvs fvs cvs avs : List Value} {rest : List (Addr × Obj)} {m : Str → Option Value} {l : List (Str × Value)} {page first cells calls first' cells' calls' : List Int} {X : Env → Sem Flow} {P : Sg → Prop} {Q : Flow → Shared → Prop} {E : Value → Shared → Prop}
    (S : Sur w h₀ mg mb p loose mean) (O : LwOff I J) (off : OwnOff rest [I.x, I.d, I.r, J.pg, J.fs, J.cl, J.ca]) (F : Fr h₀ L s.heap m) (hm : ∀ q ∈ l, m q.1 = some q.2) (ip : IntsAre pvs page) (jf : IntsAre fvs first) (ic : IntsAre cvs cells) (ia : IntsAre avs calls) (N : News h₀ L s.heap (led I g ex ad t vs ++ (lwl J pvs fvs cvs avs ++ rest)))
    (H : ∀ c : Cx, c.Ok w lawSc 10 → c.A.handled = none → ∀ (Q : Flow → Shared → Prop) (E : Value → Shared → Prop) (s : Shared), Rel I ((I.r, listOf vs.toArray 0) :: rest) c ⟨l.map fun p => (p.1, AV.val p.2), rw g ex (.val ad), ls4 J first cells calls page⟩ s → (∀ σ' s', P σ' → Rel I ((I.r, listOf vs.toArray 0) :: rest) c σ' s' → Q .next s') → (∀ v (a : AV) σ' s', False → a.Is v → Rel I ((I.r, listOf vs.toArray 0) :: rest) c σ' s' → Q (.ret v) s') → wpAny (MD w) c.A (X (c.env lawSc)) Q E s)
    (hP : ∀ σ', P σ' → σ'.r = rw g ex (.val ad) ∧ ∃ more, σ'.ls = more ++ ls4 J first' cells' calls' page)
    (k : ∀ σ' m' h' tk t' pvs' fvs' cvs' avs', P σ' → LocOk m σ'.loc m' → IntsAre pvs' page → IntsAre fvs' first' → IntsAre cvs' cells' → IntsAre avs' calls' → Fr h₀ L h' m' → News h₀ L h' (led I g ex ad t' vs ++ (lwl J pvs' fvs' cvs' avs' ++ rest)) → Q .next { s with heap := h', toks := tk }) :
    wpAny (MD w) (lawA L fa cd) (X (lawEnv L fa cd)) Q E s := by
  refine H ⟨h₀, L, callerA, lawA L fa cd, h₀, [], lawEnv L fa cd, "law", fa, cd, p, loose, mean, mg, mb, s.gens, s.drawn, s.os, m⟩ ⟨S.B, S.X, S.T, lawA_frames L fa cd, rfl, rfl, rfl, by have := lawA_room L fa cd; show (lawA L fa cd).depth + 10 < _; omega⟩ rfl Q E s ⟨rfl, rfl, rfl, ⟨m, F, (lall_val (l := _)).mem hm fun z _ => rfl⟩, ⟨lw_nodup O, own_cons (lw_r O) (own_sub off sub_off)⟩, t, ad, _, rfl, .cons jf (.cons ic (.cons ia (.cons ip .nil))), news_perm N⟩ (fun σ' s' Pσ R' => ?_) (fun _ _ _ _ h => h.elim)
  · obtain ⟨m', F', lo⟩ := R'.fr
    obtain ⟨_, t', ad', os, had, hl, N'⟩ := R'.led
    obtain ⟨hr, more, hls⟩ := hP _ Pσ
    rw [hr] at had N'
    obtain rfl : ad' = ad := had
    rw [hls] at hl
    obtain ⟨u1, u2, rfl, hk⟩ := LsAre.split (a := more) hl
    cases hk with
    | cons jf' hk =>
      cases hk with
      | cons ic' hk =>
        cases hk with
        | cons ia' hk =>
          cases hk with
          | cons ip' hk =>
            cases hk
            have e : s' = { s with heap := s'.heap, toks := s'.toks } := by
              obtain ⟨h1, h2, h3, h4, h5⟩ := s'
              obtain rfl : h2 = _ := R'.gens
              obtain rfl : h3 = _ := R'.drawn
              obtain rfl : h5 = _ := R'.os
              rfl
            rw [e]
            exact k σ' m' s'.heap s'.toks t' _ _ _ _ Pσ lo ip' jf' ic' ia' F' (news_back N')
theorem not_chg {pre : List (Str × AV)} {ch : List Str} (h : (pre.all fun p => ch.contains p.1) = true) {z : Str} (hz : ch.contains z = false) : ∀ p ∈ pre, p.1 ≠ z := by
  rintro q hq rfl
  have hc := List.all_eq_true.mp h q hq
  rw [hz] at hc
  cases hc
theorem brs_of {w : World} {kind given under above top second x y sp carry over cycles a : Int} {page first cells calls : List Int} {o : Out} (H : BrV w kind given under above top second x y sp carry over cycles a page first cells calls o) : BrS w kind given under above top second x y sp carry over cycles a page first cells calls o := by
  intro h₀ L fa cd mg mb p loose mean s I J g ex ad t vs pvs fvs cvs avs rest m i0 i1 i2 i3 i4 i5 i6 i7 i8 i9 i10 i11 i12 Q E S O off F hm ip jf ic ia lp lf lc la x0 x1 y0 y1 s0 s1 u0 u1 v0 v1 p0 p1 c0 c1 N k
  refine law_use (X := exec ifStmt) S O off F hm ip jf ic ia N (fun c hc hh => H hc hh lp lf lc la x0 x1 y0 y1 s0 s1 u0 u1 v0 v1 p0 p1 c0 c1) (fun σ' P => ⟨P.r, [], P.ls⟩) (fun σ' m' h' tk t' pvs' fvs' cvs' avs' P lo ip' jf' ic' ia' F' N' => ?_)
  obtain ⟨u0, z0⟩ := avI_get lo P.a
  obtain ⟨u1, z1⟩ := avI_get lo P.x
  obtain ⟨u2, z2⟩ := avI_get lo P.y
  obtain ⟨u3, z3⟩ := avI_get lo P.sp
  obtain ⟨u4, z4⟩ := avI_get lo P.carry
  obtain ⟨u5, z5⟩ := avI_get lo P.over
  obtain ⟨u6, z6⟩ := avI_get lo P.cycles
  obtain ⟨u7, z7⟩ := avI_get lo P.told
  obtain ⟨pre, hpre, hall⟩ := P.loc
  exact k m' h' tk t' _ _ _ _ u0 u1 u2 u3 u4 u5 u6 u7 ip' jf' ic' ia' (fm_cons z0 (fm_cons z1 (fm_cons z2 (fm_cons z3 (fm_cons z4 (fm_cons z5 (fm_cons z6 (fm_cons z7 fm_nil)))))))) (fun z hz => kept hm hpre lo (not_chg hall hz)) F' N'
end
section
open PySem PySem.W PySem.Calls PyProof.Rows
set_option maxRecDepth 100000
set_option maxHeartbeats 4000000
theorem fm256 (z : Int) : z.fmod 256 = z % 256 := Int.fmod_eq_emod_of_nonneg z (by decide)
theorem ki_mul {K : AV → Sg → Prop} {σ : Sg} {i j : Int} (a0 : 0 ≤ i) (a1 : i < 65536) (b0 : 0 ≤ j) (b1 : j < 65536) (h : K (.int (i * j)) σ) : KI IntMulOk HMul.hMul K (.int i) (.int j) σ := ki (IntMulOk.of_le (m := 16) (n := 16) (intBits_le_iff.mpr (by omega)) (intBits_le_iff.mpr (by omega)) (by decide)) h
theorem g_signed (w : World) : nsIn (KF w.params) mainGlobals "_law_signed" = some (some (.ref 1454)) := by kernel_rfl
theorem kp_signed (w : World) : keepIn (KF w.params) (.ref 1454) = true := by kernel_rfl
theorem t_signed {w : World} {I : Im} {rest : List (Addr × Obj)} {sc : Scope} {c : Cx} {n : Nat} {σ : Sg} {K : AV → Sg → Prop} {v : Int} (hK : K (.int (sg v)) σ) (O : c.Ok w sc n) (hn : 1 ≤ n) : Cal w I rest c 1454 [.int v] σ K := by
  replace O := O.low hn
  k_extra "ve"
  repeat' k_extra "v"
  refine ev_ife ?_
  repeat' k_extra "v"
  refine dif (fun q => ?_) fun q => ?_
  · repeat' k_extra "v"
    rw [show sg v = v - 256 from if_pos (of_decide_eq_true q)] at hK
    exact hK
  · repeat' k_extra "v"
    rw [show sg v = v from if_neg (of_decide_eq_false q)] at hK
    exact hK
theorem mlwords : True := by
  (k_with "vL" => with_reducible (show Ev _ _ _ _ _ _ _ _; first
    | refine ev_ife ?_
    | refine ev_mod ?_
    | refine ev_mul ?_
    | refine ev_fdiv ?_))
  (k_with "vL" => with_reducible (show Ex _ _ _ _ _ (.Assign _ _ _) _ _ _; first
    | refine ex_let2 (by assumption) ?_ (by with_unfolding_all rfl) (by with_unfolding_all rfl) (by k_dflt rfl) (by k_dflt rfl)
    | refine ex_let3 (by assumption) ?_ (by with_unfolding_all rfl) (by with_unfolding_all rfl) (by with_unfolding_all rfl) (by k_dflt rfl) (by k_dflt rfl)))
  (k_with "vL" => with_reducible first | refine kl2 ?_ | refine kl3 ?_)
  (k_with "vL" => with_reducible refine ts_lele ?_ (by with_unfolding_all rfl))
  (k_with "v1" => first | k_extra "v" | k_extra "vL")
  (k_with "vL" => with_reducible refine ki (P := fun _ n => n ≠ 0) (by decide) ?_)
  (k_with "vL" => ((with_reducible refine ki_mul ?_ ?_ ?_ ?_ ?_); (focus first | omega | k_extra "bd"); (focus first | omega | k_extra "bd"); (focus first | omega | k_extra "bd"); (focus first | omega | k_extra "bd")))
  (k_with "vL" => with_reducible refine ki (P := fun a b => b ≠ 0 ∧ Builtin.divisionGoesByPylong a b = false) ⟨by decide, PyProof.noPylong_of_log2 (by decide +kernel)⟩ ?_)
  (k_with "fin" => first | refine ⟨⟨[_, _], rfl, rfl⟩, rfl, ?_, ?_, ?_, ?_, ?_, ?_, ?_, ?_, ?_⟩ | refine ⟨⟨[_, _, _], rfl, rfl⟩, rfl, ?_, ?_, ?_, ?_, ?_, ?_, ?_, ?_, ?_⟩ | refine ⟨⟨[_, _, _, _], rfl, rfl⟩, rfl, ?_, ?_, ?_, ?_, ?_, ?_, ?_, ?_, ?_⟩ | refine ⟨⟨[_, _, _, _, _], rfl, rfl⟩, rfl, ?_, ?_, ?_, ?_, ?_, ?_, ?_, ?_, ?_⟩ | refine ⟨⟨[_, _, _, _, _, _], rfl, rfl⟩, rfl, ?_, ?_, ?_, ?_, ?_, ?_, ?_, ?_, ?_⟩ | refine ⟨⟨[_, _, _, _, _, _, _], rfl, rfl⟩, rfl, ?_, ?_, ?_, ?_, ?_, ?_, ?_, ?_, ?_⟩ | refine ⟨⟨[_, _, _, _, _, _, _, _], rfl, rfl⟩, rfl, ?_, ?_, ?_, ?_, ?_, ?_, ?_, ?_, ?_⟩)
  (k_with "cl" => first | rfl | exact (if_pos (by omega)).symm | exact (if_neg (by omega)).symm | (rw [if_pos (by omega)] <;> rfl) | (rw [if_neg (by omega)] <;> rfl))
  (k_with "len" => first | assumption | (rw [List.length_set]; assumption))
  (k_with "bd" => first | assumption | omega | (rw [fm256]; omega))
  (k_with "vL" => (show KM _ (.int _) (.val (.ref _)) (.int _) _; first
    | ((with_reducible refine km1 (by k_extra "len") ?_ ?_ ?_); (focus k_extra "bd"); (focus k_extra "bd"))
    | ((with_reducible refine km0 (by k_extra "len") ?_ ?_ ?_); (focus k_extra "bd"); (focus k_extra "bd"))
    | ((with_reducible refine km2 (by k_extra "len") ?_ ?_ ?_); (focus k_extra "bd"); (focus k_extra "bd"))
    | fail))
  (k_with "vL" => (show KIt _ (.val (.ref _)) (.int _) _; first
    | (refine kitC 1 (by exact rfl) (by k_extra "len") ?_ ?_ ?_; (focus k_extra "bd"); (focus k_extra "bd"))
    | (refine kitC 0 (by exact rfl) (by k_extra "len") ?_ ?_ ?_; (focus k_extra "bd"); (focus k_extra "bd"))
    | (refine kitC 2 (by exact rfl) (by k_extra "len") ?_ ?_ ?_; (focus k_extra "bd"); (focus k_extra "bd"))
    | fail))
  (k_with "vL" => (with_reducible refine ev_g1 (by assumption) (g_signed _) (kp_signed _) ?_ (by with_unfolding_all rfl) (by with_unfolding_all rfl) (by with_unfolding_all rfl) (by with_unfolding_all rfl)))
  (k_with "vL" => (with_reducible refine (t_signed ?_) (by assumption) (by decide)))
  trivial
theorem bv_0 {w : World} {given under above top second x y sp carry over cycles a : Int} {page first cells calls : List Int}  : BrV w 0 given under above top second x y sp carry over cycles a page first cells calls ⟨given, above, ((y + 1).fmod 256), sp, carry, over, cycles, above, (cells.set above.toNat given), calls, first⟩ := by
  intro I J r rest c i0 i1 i2 i3 i4 i5 i6 i7 i8 i9 i10 i11 i12 O hh lp lf lc la x0 x1 y0 y1 s0 s1 u0 u1 v0 v1 p0 p1 c0 c1
  show Ex _ _ _ _ _ (.If _ _ _ _) ⟨_, _, [_, _, _, _]⟩ _ _
  repeat' k_extra "v1"
  all_goals (
    k_extra "fin"
    all_goals k_extra "cl")
theorem bv_3 {w : World} {given under above top second x y sp carry over cycles a : Int} {page first cells calls : List Int}  : BrV w 3 given under above top second x y sp carry over cycles a page first cells calls ⟨top, above, y, sp, carry, over, cycles, above, (cells.set above.toNat top), calls, first⟩ := by
  intro I J r rest c i0 i1 i2 i3 i4 i5 i6 i7 i8 i9 i10 i11 i12 O hh lp lf lc la x0 x1 y0 y1 s0 s1 u0 u1 v0 v1 p0 p1 c0 c1
  show Ex _ _ _ _ _ (.If _ _ _ _) ⟨_, _, [_, _, _, _]⟩ _ _
  repeat' k_extra "v1"
  all_goals (
    k_extra "fin"
    all_goals k_extra "cl")
theorem bv_5 {w : World} {given under above top second x y sp carry over cycles a : Int} {page first cells calls : List Int}  : BrV w 5 given under above top second x y sp carry over cycles a page first cells calls ⟨a, under, y, sp, carry, over, cycles, under, cells, calls, first⟩ := by
  intro I J r rest c i0 i1 i2 i3 i4 i5 i6 i7 i8 i9 i10 i11 i12 O hh lp lf lc la x0 x1 y0 y1 s0 s1 u0 u1 v0 v1 p0 p1 c0 c1
  show Ex _ _ _ _ _ (.If _ _ _ _) ⟨_, _, [_, _, _, _]⟩ _ _
  repeat' k_extra "v1"
  all_goals (
    k_extra "fin"
    all_goals k_extra "cl")
theorem bv_6 {w : World} {given under above top second x y sp carry over cycles a : Int} {page first cells calls : List Int}  : BrV w 6 given under above top second x y sp carry over cycles a page first cells calls ⟨second, above, y, sp, carry, over, cycles, above, (cells.set above.toNat second), calls, first⟩ := by
  intro I J r rest c i0 i1 i2 i3 i4 i5 i6 i7 i8 i9 i10 i11 i12 O hh lp lf lc la x0 x1 y0 y1 s0 s1 u0 u1 v0 v1 p0 p1 c0 c1
  show Ex _ _ _ _ _ (.If _ _ _ _) ⟨_, _, [_, _, _, _]⟩ _ _
  repeat' k_extra "v1"
  all_goals (
    k_extra "fin"
    all_goals k_extra "cl")
theorem bv_7 {w : World} {given under above top second x y sp carry over cycles a : Int} {page first cells calls : List Int}  : BrV w 7 given under above top second x y sp carry over cycles a page first cells calls ⟨given, x, given, sp, carry, over, cycles, given, cells, calls, first⟩ := by
  intro I J r rest c i0 i1 i2 i3 i4 i5 i6 i7 i8 i9 i10 i11 i12 O hh lp lf lc la x0 x1 y0 y1 s0 s1 u0 u1 v0 v1 p0 p1 c0 c1
  show Ex _ _ _ _ _ (.If _ _ _ _) ⟨_, _, [_, _, _, _]⟩ _ _
  repeat' k_extra "v1"
  all_goals (
    k_extra "fin"
    all_goals k_extra "cl")
theorem bv_8t {w : World} {given under above top second x y sp carry over cycles a : Int} {page first cells calls : List Int} (h8 : (top == 0) = true) : BrV w 8 given under above top second x y sp carry over cycles a page first cells calls ⟨given, under, given, sp, carry, over, (cycles + 5), given, cells, calls, first⟩ := by
  intro I J r rest c i0 i1 i2 i3 i4 i5 i6 i7 i8 i9 i10 i11 i12 O hh lp lf lc la x0 x1 y0 y1 s0 s1 u0 u1 v0 v1 p0 p1 c0 c1
  show Ex _ _ _ _ _ (.If _ _ _ _) ⟨_, _, [_, _, _, _]⟩ _ _
  repeat' k_extra "v1"
  refine dif_t h8 ?_
  repeat' k_extra "v1"
  all_goals (
    k_extra "fin"
    all_goals k_extra "cl")
theorem bv_8f {w : World} {given under above top second x y sp carry over cycles a : Int} {page first cells calls : List Int} (h8 : (top == 0) = false) : BrV w 8 given under above top second x y sp carry over cycles a page first cells calls ⟨top, under, ((y + 1).fmod 256), sp, carry, over, cycles, ((y + 1).fmod 256), cells, calls, first⟩ := by
  intro I J r rest c i0 i1 i2 i3 i4 i5 i6 i7 i8 i9 i10 i11 i12 O hh lp lf lc la x0 x1 y0 y1 s0 s1 u0 u1 v0 v1 p0 p1 c0 c1
  show Ex _ _ _ _ _ (.If _ _ _ _) ⟨_, _, [_, _, _, _]⟩ _ _
  repeat' k_extra "v1"
  refine dif_f h8 ?_
  repeat' k_extra "v1"
  all_goals (
    k_extra "fin"
    all_goals k_extra "cl")
theorem bv_9 {w : World} {given under above top second x y sp carry over cycles a : Int} {page first cells calls : List Int}  : BrV w 9 given under above top second x y sp carry over cycles a page first cells calls ⟨given, x, given, ((sp - 1).fmod 256), carry, over, cycles, given, cells, (calls.set sp.toNat ((y + 1).fmod 256)), first⟩ := by
  intro I J r rest c i0 i1 i2 i3 i4 i5 i6 i7 i8 i9 i10 i11 i12 O hh lp lf lc la x0 x1 y0 y1 s0 s1 u0 u1 v0 v1 p0 p1 c0 c1
  show Ex _ _ _ _ _ (.If _ _ _ _) ⟨_, _, [_, _, _, _]⟩ _ _
  repeat' k_extra "v1"
  all_goals (
    k_extra "fin"
    all_goals k_extra "cl")
theorem bv_10 {w : World} {given under above top second x y sp carry over cycles a : Int} {page first cells calls : List Int}  : BrV w 10 given under above top second x y sp carry over cycles a page first cells calls ⟨(rd calls ((sp + 1).fmod 256)), x, (rd calls ((sp + 1).fmod 256)), ((sp + 1).fmod 256), carry, over, cycles, (rd calls ((sp + 1).fmod 256)), cells, calls, first⟩ := by
  intro I J r rest c i0 i1 i2 i3 i4 i5 i6 i7 i8 i9 i10 i11 i12 O hh lp lf lc la x0 x1 y0 y1 s0 s1 u0 u1 v0 v1 p0 p1 c0 c1
  show Ex _ _ _ _ _ (.If _ _ _ _) ⟨_, _, [_, _, _, _]⟩ _ _
  repeat' k_extra "v1"
  all_goals (
    k_extra "fin"
    all_goals k_extra "cl")
theorem bv_11 {w : World} {given under above top second x y sp carry over cycles a : Int} {page first cells calls : List Int}  : BrV w 11 given under above top second x y sp carry over cycles a page first cells calls ⟨(rd cells top), x, y, sp, carry, over, cycles, (rd cells top), (cells.set x.toNat (rd cells top)), calls, (first.set 147 top)⟩ := by
  intro I J r rest c i0 i1 i2 i3 i4 i5 i6 i7 i8 i9 i10 i11 i12 O hh lp lf lc la x0 x1 y0 y1 s0 s1 u0 u1 v0 v1 p0 p1 c0 c1
  show Ex _ _ _ _ _ (.If _ _ _ _) ⟨_, _, [_, _, _, _]⟩ _ _
  repeat' k_extra "v1"
  all_goals (
    k_extra "fin"
    all_goals k_extra "cl")
theorem bv_12 {w : World} {given under above top second x y sp carry over cycles a : Int} {page first cells calls : List Int}  : BrV w 12 given under above top second x y sp carry over cycles a page first cells calls ⟨second, ((x + 2).fmod 256), y, sp, carry, over, cycles, ((x + 2).fmod 256), (cells.set top.toNat second), calls, (first.set 161 top)⟩ := by
  intro I J r rest c i0 i1 i2 i3 i4 i5 i6 i7 i8 i9 i10 i11 i12 O hh lp lf lc la x0 x1 y0 y1 s0 s1 u0 u1 v0 v1 p0 p1 c0 c1
  show Ex _ _ _ _ _ (.If _ _ _ _) ⟨_, _, [_, _, _, _]⟩ _ _
  repeat' k_extra "v1"
  all_goals (
    k_extra "fin"
    all_goals k_extra "cl")
theorem bv_13 {w : World} {given under above top second x y sp carry over cycles a : Int} {page first cells calls : List Int}  : BrV w 13 given under above top second x y sp carry over cycles a page first cells calls ⟨(if second < top then 1 else 0), under, y, sp, 0, over, cycles, under, (cells.set under.toNat (if second < top then 1 else 0)), calls, first⟩ := by
  intro I J r rest c i0 i1 i2 i3 i4 i5 i6 i7 i8 i9 i10 i11 i12 O hh lp lf lc la x0 x1 y0 y1 s0 s1 u0 u1 v0 v1 p0 p1 c0 c1
  show Ex _ _ _ _ _ (.If _ _ _ _) ⟨_, _, [_, _, _, _]⟩ _ _
  repeat' k_extra "v1"
  refine dif (fun q => ?_) fun q => ?_
  all_goals (
    repeat' k_extra "v1"
    simp only [decide_eq_true_eq, decide_eq_false_iff_not] at q)
  all_goals (
    k_extra "fin"
    all_goals k_extra "cl")
theorem bv_14 {w : World} {given under above top second x y sp carry over cycles a : Int} {page first cells calls : List Int}  : BrV w 14 given under above top second x y sp carry over cycles a page first cells calls ⟨((2 * top).fmod 256), x, y, sp, (top.fmod 2), over, cycles, (((sg top).fdiv 2).fmod 256), (cells.set x.toNat (((sg top).fdiv 2).fmod 256)), calls, first⟩ := by
  intro I J r rest c i0 i1 i2 i3 i4 i5 i6 i7 i8 i9 i10 i11 i12 O hh lp lf lc la x0 x1 y0 y1 s0 s1 u0 u1 v0 v1 p0 p1 c0 c1
  show Ex _ _ _ _ _ (.If _ _ _ _) ⟨_, _, [_, _, _, _]⟩ _ _
  repeat' k_extra "v1"
  all_goals (
    k_extra "fin"
    all_goals k_extra "cl")
theorem bv_15t {w : World} {given under above top second x y sp carry over cycles a : Int} {page first cells calls : List Int} (h15 : ((top - 1).fmod 256 != 0) = true) : BrV w 15 given under above top second x y sp carry over cycles a page first cells calls ⟨given, x, given, sp, carry, over, (cycles + 3), given, (cells.set x.toNat ((top - 1).fmod 256)), calls, first⟩ := by
  intro I J r rest c i0 i1 i2 i3 i4 i5 i6 i7 i8 i9 i10 i11 i12 O hh lp lf lc la x0 x1 y0 y1 s0 s1 u0 u1 v0 v1 p0 p1 c0 c1
  show Ex _ _ _ _ _ (.If _ _ _ _) ⟨_, _, [_, _, _, _]⟩ _ _
  repeat' k_extra "v1"
  refine dif_t h15 ?_
  repeat' k_extra "v1"
  all_goals (
    k_extra "fin"
    all_goals k_extra "cl")
theorem bv_15f {w : World} {given under above top second x y sp carry over cycles a : Int} {page first cells calls : List Int} (h15 : ((top - 1).fmod 256 != 0) = false) : BrV w 15 given under above top second x y sp carry over cycles a page first cells calls ⟨a, under, ((y + 1).fmod 256), sp, carry, over, cycles, under, (cells.set x.toNat ((top - 1).fmod 256)), calls, first⟩ := by
  intro I J r rest c i0 i1 i2 i3 i4 i5 i6 i7 i8 i9 i10 i11 i12 O hh lp lf lc la x0 x1 y0 y1 s0 s1 u0 u1 v0 v1 p0 p1 c0 c1
  show Ex _ _ _ _ _ (.If _ _ _ _) ⟨_, _, [_, _, _, _]⟩ _ _
  repeat' k_extra "v1"
  refine dif_f h15 ?_
  repeat' k_extra "v1"
  all_goals (
    k_extra "fin"
    all_goals k_extra "cl")
theorem bv_1 {w : World} {given under above top second x y sp carry over cycles a : Int} {page first cells calls : List Int}  : BrV w 1 given under above top second x y sp carry over cycles a page first cells calls ⟨((top + second).fmod 256), under, y, sp, (if top + second > 255 then 1 else 0), (if -128 ≤ sg second + sg top ∧ sg second + sg top ≤ 127 then 0 else 1), cycles, under, (cells.set under.toNat ((top + second).fmod 256)), calls, first⟩ := by
  intro I J r rest c i0 i1 i2 i3 i4 i5 i6 i7 i8 i9 i10 i11 i12 O hh lp lf lc la x0 x1 y0 y1 s0 s1 u0 u1 v0 v1 p0 p1 c0 c1
  show Ex _ _ _ _ _ (.If _ _ _ _) ⟨_, _, [_, _, _, _]⟩ _ _
  repeat' k_extra "v1"
  refine dif (fun q => ?_) fun q => ?_
  all_goals (
    repeat' k_extra "v1"
    simp only [decide_eq_true_eq, decide_eq_false_iff_not] at q
    refine dif (fun q2 => ?_) fun q2 => ?_)
  all_goals (
    repeat' k_extra "v1"
    simp only [decide_eq_true_eq, decide_eq_false_iff_not] at q2
    try (refine dif (fun q3 => ?_) fun q3 => ?_)
    all_goals (
      repeat' k_extra "v1"
      try simp only [decide_eq_true_eq, decide_eq_false_iff_not] at q3))
  all_goals (
    k_extra "fin"
    all_goals k_extra "cl")
theorem bv_2 {w : World} {given under above top second x y sp carry over cycles a : Int} {page first cells calls : List Int}  : BrV w 2 given under above top second x y sp carry over cycles a page first cells calls ⟨((second - top).fmod 256), under, y, sp, (if second ≥ top then 1 else 0), (if -128 ≤ sg second - sg top ∧ sg second - sg top ≤ 127 then 0 else 1), cycles, under, (cells.set under.toNat ((second - top).fmod 256)), calls, first⟩ := by
  intro I J r rest c i0 i1 i2 i3 i4 i5 i6 i7 i8 i9 i10 i11 i12 O hh lp lf lc la x0 x1 y0 y1 s0 s1 u0 u1 v0 v1 p0 p1 c0 c1
  show Ex _ _ _ _ _ (.If _ _ _ _) ⟨_, _, [_, _, _, _]⟩ _ _
  repeat' k_extra "v1"
  refine dif (fun q => ?_) fun q => ?_
  all_goals (
    repeat' k_extra "v1"
    simp only [decide_eq_true_eq, decide_eq_false_iff_not] at q
    refine dif (fun q2 => ?_) fun q2 => ?_)
  all_goals (
    repeat' k_extra "v1"
    simp only [decide_eq_true_eq, decide_eq_false_iff_not] at q2
    try (refine dif (fun q3 => ?_) fun q3 => ?_)
    all_goals (
      repeat' k_extra "v1"
      try simp only [decide_eq_true_eq, decide_eq_false_iff_not] at q3))
  all_goals (
    k_extra "fin"
    all_goals k_extra "cl")
end
section
open PySem PySem.W PySem.Calls PyProof.Rows
set_option maxRecDepth 100000
set_option maxHeartbeats 4000000
section
variable {w : World} {I : Im} {rest : List (Addr × Obj)} {sc : Scope} {c : Cx} {n : Nat} {σ : Sg}
theorem LsAre.fst {ls : List (Addr × List Int)} {os : List (Addr × Obj)} (h : LsAre ls os) : os.map (·.1) = ls.map (·.1) := by
  induction h with
  | nil => rfl
  | cons _ _ ih => rw [List.map_cons, List.map_cons, ih]
/-- the heap has grown by one object -/
theorem Rel.grow {s : Shared} {p : Addr × Obj} {D : Addr} {h' : Heap} {m : Str → Option Value} {t : Tk} {ad : Value} {os : List (Addr × Obj)} (R : Rel I rest c σ s) (F : Fr c.h₀ c.L h' m) (lo : LocOk c.m0 σ.loc m) (had : σ.r.ad.Is ad) (hl : LsAre σ.ls os)
    (N : News c.h₀ c.L h' (p :: (I.x, instObj 1428 I.d) :: (I.d, dictOf (mq I σ.r ad t) 16) :: (os ++ rest))) : Rel I rest c σ { s with heap := h' } :=
  ⟨R.gens, R.drawn, R.os, ⟨m, F, lo⟩, R.led.1, t, ad, os, had, hl, news_sub N fun q hq => .tail _ hq⟩
theorem Rel.list {s : Shared} {D : Addr} {h' : Heap} {m : Str → Option Value} {t : Tk} {ad : Value} {os : List (Addr × Obj)} {vs : List Value} {ns : List Int} (R : Rel I rest c σ s) (F : Fr c.h₀ c.L h' m) (lo : LocOk c.m0 σ.loc m) (had : σ.r.ad.Is ad) (hl : LsAre σ.ls os) (hi : IntsAre vs ns)
    (hlt : ∀ p ∈ (I.x, instObj 1428 I.d) :: (I.d, dictOf (mq I σ.r ad t) 16) :: (os ++ rest), p.1 < D)
    (N : News c.h₀ c.L h' ((D, listOf vs.toArray 0) :: (I.x, instObj 1428 I.d) :: (I.d, dictOf (mq I σ.r ad t) 16) :: (os ++ rest))) : Rel I rest c ⟨σ.loc, σ.r, (D, ns) :: σ.ls⟩ { s with heap := h' } := by
  have hx := hlt _ (.head _)
  have hd := hlt _ (.tail _ (.head _))
  have ho : ∀ a ∈ σ.ls.map (·.1), a < D := fun a ha => by
    rw [← hl.fst] at ha
    obtain ⟨q, hq, rfl⟩ := List.mem_map.mp ha
    exact hlt _ (.tail _ (.tail _ (List.mem_append_left _ hq)))
  have nd := R.led.1.1
  rw [List.nodup_cons, List.nodup_cons] at nd
  refine ⟨R.gens, R.drawn, R.os, ⟨m, F, lo⟩, ⟨?_, ?_⟩, t, ad, _, had, .cons hi hl, news_sub N fun q hq => ?_⟩
  · show (I.x :: I.d :: D :: σ.ls.map (·.1)).Nodup
    rw [List.nodup_cons, List.nodup_cons, List.nodup_cons]
    refine ⟨fun h => ?_, fun h => ?_, fun h => Nat.lt_irrefl _ (ho _ h), nd.2.2⟩
    · rcases List.mem_cons.mp h with h | h
      · exact nd.1 (h ▸ .head _)
      · rcases List.mem_cons.mp h with h | h
        · exact Nat.lt_irrefl _ (h ▸ hx)
        · exact nd.1 (.tail _ h)
    · rcases List.mem_cons.mp h with h | h
      · exact Nat.lt_irrefl _ (h ▸ hd)
      · exact nd.2.1 h
  · intro q hq b hb
    have h2 := hlt _ (.tail _ (.tail _ (List.mem_append_right _ hq)))
    rcases List.mem_cons.mp hb with h | h
    · exact R.led.1.2 q hq b (h ▸ .head _)
    · rcases List.mem_cons.mp h with h | h
      · exact R.led.1.2 q hq b (h ▸ .tail _ (.head _))
      · rcases List.mem_cons.mp h with h | h
        · exact h ▸ Nat.ne_of_lt h2
        · exact R.led.1.2 q hq b (.tail _ (.tail _ h))
  · simp only [List.mem_cons, List.cons_append] at hq ⊢
    rcases hq with h | h | h | h <;> simp [h]
/-- the items of a display, all whole numbers -/
noncomputable def EvL (w : World) (I : Im) (rest : List (Addr × Obj)) (sc : Scope) (c : Cx) (pos : Pos) (es : List Expr) (σ : Sg) (K : List Int → Sg → Prop) : Prop := ∀ (Q : List Value → Shared → Prop) (E : Value → Shared → Prop) (s : Shared), Rel I rest c σ s →
  (∀ vs ns σ' s', K ns σ' → IntsAre vs ns → Rel I rest c σ' s' → Q vs s') → wpAny (MD w) c.A (spliced (backTo pos (starEach es (c.env sc)))) Q E s
theorem evl_nil {pos : Pos} {K : List Int → Sg → Prop} (h : K [] σ) : EvL w I rest sc c pos [] σ K := fun Q E s R k => spliced_none (k _ _ _ _ h .nil R)
theorem evl_int {pos p : Pos} {kk : Nat} {i : Int} {es : List Expr} {K : List Int → Sg → Prop} (h : EvL w I rest sc c pos es σ fun ns => K (i :: ns))
    (he : starEach (.Constant (.int i) kk p :: es) (c.env sc) = (false, eval (.Constant (.int i) kk p) (c.env sc)) :: starEach es (c.env sc) := by rfl) : EvL w I rest sc c pos (.Constant (.int i) kk p :: es) σ K := fun Q E s R k =>
  spliced_more (ev_int (K := fun a σ' => a = .int i ∧ σ' = σ) ⟨rfl, rfl⟩ _ _ _ R fun v a σ' s' q hv R' => by
    obtain ⟨rfl, rfl⟩ := q
    obtain ⟨t, rfl⟩ := hv
    exact h _ _ _ R' fun vs ns σ2 s2 h2 hi R2 => k _ _ _ _ h2 (.cons _ _ hi) R2) he
theorem ev_ilist {es : List Expr} {pos : Pos} {K : AV → Sg → Prop} (h : EvL w I rest sc c pos es σ fun ns σ1 => ns.length ≤ 1000 ∧ ∀ D, K (.val (.ref D)) ⟨σ1.loc, σ1.r, (D, ns) :: σ1.ls⟩) : Ev w I rest sc c (.List es pos) σ K := fun Q E s R k =>
  List_ (h _ _ _ R fun vs ns σ1 s1 h1 hi R1 => by
    obtain ⟨m, F, lo⟩ := R1.fr
    obtain ⟨hse, t, ad, os, had, hl, N⟩ := R1.led
    exact newList_N F N (fun h' F' N' => k _ _ _ _ (h1.2 _) rfl (R1.list F' lo had hl hi (fun p hp => Heap.lt_size (N p hp).1) N')) (by rw [hi.length]; exact Nat.le_trans h1.1 (by decide)))
noncomputable def KP (x y : Str) (Kn : Sg → Prop) (a b : AV) (σ : Sg) : Prop := Kn { σ with loc := (x, a) :: (y, b) :: σ.loc }
theorem kp {Kn : Sg → Prop} {x y : Str} {a b : AV} {loc : List (Str × AV)} {r : Raw} {ls : List (Addr × List Int)} (h : Kn ⟨(x, a) :: (y, b) :: loc, r, ls⟩) : KP x y Kn a b ⟨loc, r, ls⟩ := h
/-- the items of a pair -/
theorem tup2 {e1 e2 : Expr} {kk : Nat} {pos : Pos} {Q : Value → Shared → Prop} {E : Value → Shared → Prop} {s : Shared} {K : AV → AV → Sg → Prop} (R : Rel I rest c σ s) (h : Ev w I rest sc c e1 σ fun a σ1 => Ev w I rest sc c e2 σ1 fun b σ2 => K a b σ2)
    (k : ∀ v1 v2 a b σ2 s2 D h' p, K a b σ2 → a.Is v1 → b.Is v2 → Rel I rest c σ2 s2 → IsTup h' D #[v1, v2] → (∃ m t ad os, Fr c.h₀ c.L h' m ∧ LocOk c.m0 σ2.loc m ∧ σ2.r.ad.Is ad ∧ LsAre σ2.ls os ∧ News c.h₀ c.L h' (p :: (I.x, instObj 1428 I.d) :: (I.d, dictOf (mq I σ2.r ad t) 16) :: (os ++ rest))) → Q (.ref D) { s2 with heap := h' })
    (he : starEach [e1, e2] (c.env sc) = (false, eval e1 (c.env sc)) :: starEach [e2] (c.env sc) := by rfl) (he2 : starEach [e2] (c.env sc) = (false, eval e2 (c.env sc)) :: starEach [] (c.env sc) := by rfl) : wpAny (MD w) c.A (eval (.Tuple [e1, e2] kk pos) (c.env sc)) Q E s :=
  Tuple_ (spliced_more (h _ _ _ R fun v1 a σ1 s1 h1 hv1 R1 => spliced_more (h1 _ _ _ R1 fun v2 b σ2 s2 h2 hv2 R2 => spliced_none (by
    obtain ⟨m, F, lo⟩ := R2.fr
    obtain ⟨hse, t, ad, os, had, hl, N⟩ := R2.led
    exact newTuple_N F N (fun h' F' N' => k _ _ _ _ _ _ _ _ _ h2 hv1 hv2 R2 (News.isTup N' (.head _)) ⟨m, t, ad, os, F', lo, had, hl, N'⟩) (by show 2 ≤ _; decide))) he2) he)
theorem ex_pair {x y : Str} {p1 p2 p3 p4 pos : Pos} {k1 k2 : Nat} {e1 e2 : Expr} {Kn : Sg → Prop} {Kr : AV → Sg → Prop} (O : c.Ok w sc n) (hh : c.A.handled = none) (h : Ev w I rest sc c e1 σ fun a σ1 => Ev w I rest sc c e2 σ1 fun b σ2 => KP x y Kn a b σ2)
    (hk : (c.env sc).kindOf x = some .local := by rfl) (hk2 : (c.env sc).kindOf y = some .local := by rfl) (he : starEach [e1, e2] (c.env sc) = (false, eval e1 (c.env sc)) :: starEach [e2] (c.env sc) := by rfl) (he2 : starEach [e2] (c.env sc) = (false, eval e2 (c.env sc)) :: starEach [] (c.env sc) := by rfl)
    (hs : swapsWithSole [.Tuple [.Name x p1, .Name y p2] k1 p3] (.Tuple [e1, e2] k2 p4) pos.line (c.env sc) = pure false := by rfl) (hw : swappedStores [.Tuple [.Name x p1, .Name y p2] k1 p3] (.Tuple [e1, e2] k2 p4) (c.env sc) = pure (some [x, y]) := by rfl) :
    Ex w I rest sc c (.Assign [.Tuple [.Name x p1, .Name y p2] k1 p3] (.Tuple [e1, e2] k2 p4) pos) σ Kn Kr := fun Q E s R kn kr =>
  Assign_Tuple_swapped (names := [x, y]) (tup2 R h (fun v1 v2 a b σ2 s2 D h' p h2 hv1 hv2 R2 hT hN => by
    obtain ⟨m, t, ad, os, F', lo, had, hl, N'⟩ := hN
    exact unpackItemsN_ (s := { s2 with heap := h' }) F' N' hT hh rfl fun h3 F3 N3 => assignInOrder_cons (bindName_ (store_name O hk2 hv2 (R2.grow (D := D) F3 lo had hl N3) fun s4 R4 => assignInOrder_cons (bindName_ (store_name O hk hv1 R4 fun s5 R5 => assignInOrder_nil (kn _ _ h2 R5)))))) he he2) hs hw
noncomputable def KM2 (Kn : Sg → Prop) (a b d : AV) (σ : Sg) (k : Sg → Prop) : Prop := True
theorem ex_pairS {o1 i1 o2 i2 : Expr} {p1 p2 p3 p4 pos : Pos} {k1 k2 : Nat} {e1 e2 : Expr} {Kn : Sg → Prop} {Kr : AV → Sg → Prop} (O : c.Ok w sc n) (hh : c.A.handled = none)
    (h : Ev w I rest sc c e1 σ fun a σ1 => Ev w I rest sc c e2 σ1 fun b σ2 => Ev w I rest sc c o1 σ2 fun o σ3 => Ev w I rest sc c i1 σ3 fun i σ4 => KM (fun σ5 => Ev w I rest sc c o2 σ5 fun o' σ6 => Ev w I rest sc c i2 σ6 fun i' σ7 => KM Kn b o' i' σ7) a o i σ4)
    (he : starEach [e1, e2] (c.env sc) = (false, eval e1 (c.env sc)) :: starEach [e2] (c.env sc) := by rfl) (he2 : starEach [e2] (c.env sc) = (false, eval e2 (c.env sc)) :: starEach [] (c.env sc) := by rfl)
    (ha : assignEach [.Subscript o1 i1 p1, .Subscript o2 i2 p2] (c.env sc) = [(false, assign (.Subscript o1 i1 p1) (c.env sc)), (false, assign (.Subscript o2 i2 p2) (c.env sc))] := by rfl)
    (hs : swapsWithSole [.Tuple [.Subscript o1 i1 p1, .Subscript o2 i2 p2] k1 p3] (.Tuple [e1, e2] k2 p4) pos.line (c.env sc) = pure false := by rfl) (hw : swappedStores [.Tuple [.Subscript o1 i1 p1, .Subscript o2 i2 p2] k1 p3] (.Tuple [e1, e2] k2 p4) (c.env sc) = pure none := by rfl) :
    Ex w I rest sc c (.Assign [.Tuple [.Subscript o1 i1 p1, .Subscript o2 i2 p2] k1 p3] (.Tuple [e1, e2] k2 p4) pos) σ Kn Kr := fun Q E s R kn kr =>
  Assign_Tuple (tup2 R h (fun v1 v2 a b σ2 s2 D h' p h2 hv1 hv2 R2 hT hN => by
    obtain ⟨m, t, ad, os, F', lo, had, hl, N'⟩ := hN
    refine unpackN_ (s := { s2 with heap := h' }) F' N' hT hh (by rw [ha]; rfl) (by rw [ha]; rfl) fun h3 F3 N3 => ?_
    rw [ha]
    refine assignInOrder_cons (kas_sub (h2 _ _ _ (R2.grow (D := D) F3 lo had hl N3) fun u1 c1 σ3 s3 g3 hu1 R3 => g3 _ _ _ R3 fun u2 c2 σ4 s4 g4 hu2 R4 => ?_))
    obtain ⟨j, D1, ns, kq, xq, rfl, rfl, rfl, e, q0, q1, q2, hK⟩ := g4
    obtain ⟨tt, rfl⟩ := hv1
    obtain rfl : u1 = .ref D1 := hu1
    obtain ⟨uu, rfl⟩ := hu2
    refine set_item e q0 q1 q2 R4 fun s5 R5 => assignInOrder_cons (kas_sub (hK _ _ _ R5 fun u3 c3 σ6 s6 g6 hu3 R6 => g6 _ _ _ R6 fun u4 c4 σ7 s7 g7 hu4 R7 => ?_))
    obtain ⟨j2, D2, ns2, kq2, xq2, rfl, rfl, rfl, e2, q02, q12, q22, hK2⟩ := g7
    obtain ⟨tt2, rfl⟩ := hv2
    obtain rfl : u3 = .ref D2 := hu3
    obtain ⟨uu2, rfl⟩ := hu4
    exact set_item e2 q02 q12 q22 R7 fun s8 R8 => assignInOrder_nil (kn _ _ hK2 R8)) he he2) hs hw
theorem cal_def0 {fn : Addr} {name qual : Str} {params : Arguments} {body : List Stmt} {sc' : Scope} {dV kV doc pm cdv ct oc : Value} {an od : Option Addr} {osl : Array (Option Value)} {K : AV → Sg → Prop} (O : c.Ok w sc (n + 1))
    (ho : (KF w.params).lookup fn = some ⟨oc, od, .func (fnOf name qual params body sc' dV kV doc pm an cdv ct), osl⟩) (hcd : codeIn (KF w.params) cdv qual = true)
    (hbind : bindArgs (fnOf name qual params body sc' dV kV doc pm an cdv ct) ⟨[], []⟩ = pure [])
    (hco : sc'.isCoroutine = false) (hgen : sc'.isGenerator = false) (hk : sc'.kind = .function) (hcell : ∀ x ∈ sc'.names, x.2 ≠ .cell)
    (h : ∀ c' : Cx, c'.Ok w sc' n → Exs w I rest sc' c' body ⟨[], σ.r, σ.ls⟩ (fun σ' => K (.val .none) ⟨σ.loc, σ'.r, σ'.ls⟩) (fun a σ' => K a ⟨σ.loc, σ'.r, σ'.ls⟩)) : Cal w I rest c fn [] σ K :=
  cal_def [] O ho hcd rfl (fun s vs hv => match vs, hv with | [], _ => BindsTo.of_eq hbind) rfl hco hgen hk hcell h
end
end
section
open PySem PySem.W PySem.Calls PyProof.Rows
set_option maxRecDepth 100000
set_option maxHeartbeats 4000000
theorem fm16 (a : Int) : a.fmod 16 = a % 16 := Int.fmod_eq_emod_of_nonneg a (by decide)
theorem g_cycles (w : World) : nsIn (KF w.params) mainGlobals "_law_cycles" = some (some (.ref 1447)) := by kernel_rfl
theorem kp_cycles (w : World) : keepIn (KF w.params) (.ref 1447) = true := by kernel_rfl
theorem m5words : True := by
  (k_with "vL" => with_reducible refine ex_pair (by assumption) (by assumption) ?_ (by with_unfolding_all rfl) (by with_unfolding_all rfl) (by with_unfolding_all rfl) (by with_unfolding_all rfl) (by k_dflt rfl) (by k_dflt rfl))
  (k_with "vL" => with_reducible refine ex_pairS (by assumption) (by assumption) ?_ (by with_unfolding_all rfl) (by with_unfolding_all rfl) (by with_unfolding_all rfl) (by k_dflt rfl) (by k_dflt rfl))
  (k_with "vL" => with_reducible first | refine kp ?_ | refine evl_int ?_ (by with_unfolding_all rfl) | refine evl_nil ?_ | refine ev_ilist ?_)
  (k_with "vL" => with_reducible refine ev_g0 (by assumption) (g_cycles _) (kp_cycles _) ?_ (by with_unfolding_all rfl) (by with_unfolding_all rfl) (by with_unfolding_all rfl))
  (k_with "vL" => with_reducible refine (t_cycles fun D => ?_) (by assumption) (by decide))
  (k_with "vL" => (show KIt _ (.val (.ref _)) (.int _) _; first | (refine kitC 3 (by exact rfl) (by assumption) ?_ ?_ ?_; (focus k_extra "bd"); (focus k_extra "bd")) | fail))
  (k_with "vL" => (show KIt _ (.val (.ref _)) (.int _) ⟨_, _, (_, lawCyc) :: _⟩; first | (refine kit 0 (by exact rfl) ?_ ?_ (by decide) ?_; (focus k_extra "bd"); (focus k_extra "bd")) | fail))
  (k_with "bd" => first | (rw [fm16]; omega) | (show _ < (16 : Int); rw [fm16]; omega) | (rw [List.length_set]; assumption))
  trivial
theorem t_cycles {w : World} {I : Im} {rest : List (Addr × Obj)} {sc : Scope} {c : Cx} {n : Nat} {σ : Sg} {K : AV → Sg → Prop} (hK : ∀ D, K (.val (.ref D)) ⟨σ.loc, σ.r, (D, lawCyc) :: σ.ls⟩) (O : c.Ok w sc n) (hn : 1 ≤ n) : Cal w I rest c 1447 [] σ K := by
  replace O := O.low hn
  refine cal_def0 (body := _ :: _) (sc' := ⟨_, _, _, _, _⟩) (by assumption) (by exact rfl) (by exact rfl) (by exact rfl) rfl rfl rfl (by decide) ?_
  intro c' O'
  repeat' k_extra "v1"
  exact ⟨by decide, fun D => hK D⟩
noncomputable def chgP : List Str := ["kind", "a", "y", "given", "under", "above", "top", "second", "cycles"]
structure PrePost (J : Lw) (l0 : List (Str × AV)) (r : Raw) (x y cycles : Int) (first cells calls page : List Int) (σ : Sg) : Prop where
  loc : ∃ pre : List (Str × AV), σ.loc = pre ++ l0 ∧ (pre.all fun p => chgP.contains p.1) = true
  r : σ.r = r
  ls : ∃ D, σ.ls = (D, lawCyc) :: ls4 J (first.set 42 (2 * ((rd page y).fdiv 2).fmod 16)) cells calls page
  qkind : avI (σ.loc.lookup ("kind" : Str)) (((rd page y).fdiv 2).fmod 16)
  qa : avI (σ.loc.lookup ("a" : Str)) (2 * ((rd page y).fdiv 2).fmod 16)
  qy : avI (σ.loc.lookup ("y" : Str)) ((y + 1).fmod 256)
  qgiven : avI (σ.loc.lookup ("given" : Str)) (rd page ((y + 1).fmod 256))
  qunder : avI (σ.loc.lookup ("under" : Str)) ((x + 1).fmod 256)
  qabove : avI (σ.loc.lookup ("above" : Str)) ((x - 1).fmod 256)
  qtop : avI (σ.loc.lookup ("top" : Str)) (rd cells x)
  qsecond : avI (σ.loc.lookup ("second" : Str)) (rd cells ((x + 1).fmod 256))
  qcycles : avI (σ.loc.lookup ("cycles" : Str)) (cycles + (17 + rd lawCyc (((rd page y).fdiv 2).fmod 16)))
noncomputable abbrev locP (J : Lw) (x y cycles : Int) (t1 t2 t3 : Tok) : List (Str × AV) := [("page", .val (.ref J.pg)), ("first", .val (.ref J.fs)), ("cells", .val (.ref J.cl)), ("x", .val (.int x t1)), ("y", .val (.int y t2)), ("cycles", .val (.int cycles t3))]
theorem pre_v {w : World} {I : Im} {J : Lw} {r : Raw} {rest : List (Addr × Obj)} {c : Cx} {x y cycles : Int} {t1 t2 t3 : Tok} {first cells calls page : List Int} (O : c.Ok w lawSc 10) (hh : c.A.handled = none) (lp : page.length = 256) (lf : first.length = 256) (lc : cells.length = 256) (x0 : 0 ≤ x) (x1 : x < 256) (y0 : 0 ≤ y) (y1 : y < 256) :
    Exs w I rest lawSc c preStmts ⟨locP J x y cycles t1 t2 t3, r, ls4 J first cells calls page⟩ (PrePost J (locP J x y cycles t1 t2 t3) r x y cycles first cells calls page) (fun _ _ => False) := by
  show Exs _ _ _ _ _ [_, _, _, _, _, _, _, _] ⟨_, _, [_, _, _, _]⟩ _ _
  repeat' k_extra "v1"
  refine ⟨⟨[_, _, _, _, _, _, _, _, _], rfl, rfl⟩, rfl, ⟨_, rfl⟩, ?_, ?_, ?_, ?_, ?_, ?_, ?_, ?_, ?_⟩ <;> rfl
theorem pre_ok {w : World} {h₀ : Heap} {L fa : Addr} {cd : Value} {mg mb : Str → Option Value} {p : Program} {loose : List Str} {mean : ExcName → Option Value} {s : Shared} {I : Im} {J : Lw} {g : Rg} {ex : Int} {ad : Value} {t : Tk} {vs pvs fvs cvs avs : List Value} {page first cells calls : List Int} {rest : List (Addr × Obj)} {m : Str → Option Value} {x y cycles : Int} {t1 t2 t3 : Tok} {Q : Flow → Shared → Prop} {E : Value → Shared → Prop}
    (S : Sur w h₀ mg mb p loose mean) (O : LwOff I J) (off : OwnOff rest [I.x, I.d, I.r, J.pg, J.fs, J.cl, J.ca]) (F : Fr h₀ L s.heap m)
    (hm : ∀ q ∈ ([("page", .ref J.pg), ("first", .ref J.fs), ("cells", .ref J.cl), ("x", .int x t1), ("y", .int y t2), ("cycles", .int cycles t3)] : List (Str × Value)), m q.1 = some q.2)
    (ip : IntsAre pvs page) (jf : IntsAre fvs first) (ic : IntsAre cvs cells) (ia : IntsAre avs calls) (lp : page.length = 256) (lf : first.length = 256) (lc : cells.length = 256) (bp : ∀ b ∈ page, 0 ≤ b ∧ b < 256)
    (x0 : 0 ≤ x) (x1 : x < 256) (y0 : 0 ≤ y) (y1 : y < 256)
    (N : News h₀ L s.heap (led I g ex ad t vs ++ (lwl J pvs fvs cvs avs ++ rest)))
    (k : ∀ m' h' tk t' pvs' fvs' cvs' avs' u1 u2 u3 u4 u5 u6 u7 u8 u9, IntsAre pvs' page → IntsAre fvs' (first.set 42 (2 * ((rd page y).fdiv 2).fmod 16)) → IntsAre cvs' cells → IntsAre avs' calls →
      (∀ q ∈ ([("kind", .int (((rd page y).fdiv 2).fmod 16) u1), ("a", .int (2 * ((rd page y).fdiv 2).fmod 16) u2), ("y", .int ((y + 1).fmod 256) u3), ("given", .int (rd page ((y + 1).fmod 256)) u4), ("under", .int ((x + 1).fmod 256) u5), ("above", .int ((x - 1).fmod 256) u6), ("top", .int (rd cells x) u7), ("second", .int (rd cells ((x + 1).fmod 256)) u8), ("cycles", .int (cycles + (17 + rd lawCyc (((rd page y).fdiv 2).fmod 16))) u9)] : List (Str × Value)), m' q.1 = some q.2) →
      (∀ z : Str, chgP.contains z = false → m' z = m z) → Fr h₀ L h' m' → News h₀ L h' (led I g ex ad t' vs ++ (lwl J pvs' fvs' cvs' avs' ++ rest)) → Q .next { s with heap := h', toks := tk }) :
    wpAny (model PySem.Challenge.rw_im0103_01.row.prog w) (lawA L fa cd) (execs preStmts (lawEnv L fa cd)) Q E s := by
  refine law_use (X := execs preStmts) S O off F hm ip jf ic ia N (fun c hc hh => pre_v hc hh lp lf lc x0 x1 y0 y1) (fun σ' P => ⟨P.r, P.ls.elim fun D e => ⟨[(D, lawCyc)], e⟩⟩) (fun σ' m' h' tk t' pvs' fvs' cvs' avs' P lo ip' jf' ic' ia' F' N' => ?_)
  obtain ⟨u1, z1⟩ := avI_get lo P.qkind
  obtain ⟨u2, z2⟩ := avI_get lo P.qa
  obtain ⟨u3, z3⟩ := avI_get lo P.qy
  obtain ⟨u4, z4⟩ := avI_get lo P.qgiven
  obtain ⟨u5, z5⟩ := avI_get lo P.qunder
  obtain ⟨u6, z6⟩ := avI_get lo P.qabove
  obtain ⟨u7, z7⟩ := avI_get lo P.qtop
  obtain ⟨u8, z8⟩ := avI_get lo P.qsecond
  obtain ⟨u9, z9⟩ := avI_get lo P.qcycles
  obtain ⟨pre, hpre, hall⟩ := P.loc
  exact k m' h' tk t' _ _ _ _ u1 u2 u3 u4 u5 u6 u7 u8 u9 ip' jf' ic' ia' (fm_cons z1 (fm_cons z2 (fm_cons z3 (fm_cons z4 (fm_cons z5 (fm_cons z6 (fm_cons z7 (fm_cons z8 (fm_cons z9 fm_nil))))))))) (fun z hz => kept hm hpre lo (not_chg hall hz)) F' N'
theorem bv_4 {w : World} {given under above top second x y sp carry over cycles a : Int} {page first cells calls : List Int}  : BrV w 4 given under above top second x y sp carry over cycles a page first cells calls ⟨top, x, y, sp, carry, over, cycles, top, ((cells.set x.toNat second).set under.toNat top), (calls.set sp.toNat top), first⟩ := by
  intro I J r rest c i0 i1 i2 i3 i4 i5 i6 i7 i8 i9 i10 i11 i12 O hh lp lf lc la x0 x1 y0 y1 s0 s1 u0 u1 v0 v1 p0 p1 c0 c1
  show Ex _ _ _ _ _ (.If _ _ _ _) ⟨_, _, [_, _, _, _]⟩ _ _
  repeat' k_extra "v1"
  all_goals (
    k_extra "fin"
    all_goals k_extra "cl")
end
section
open PySem PySem.W PySem.Calls PyProof.Rows
set_option maxRecDepth 100000
set_option maxHeartbeats 4000000
theorem bs_0 {w : World} {given under above top second x y sp carry over cycles a : Int} {page first cells calls : List Int}  : BrS w 0 given under above top second x y sp carry over cycles a page first cells calls ⟨given, above, ((y + 1).fmod 256), sp, carry, over, cycles, above, (cells.set above.toNat given), calls, first⟩ := by
  exact brs_of (bv_0)
theorem bs_1 {w : World} {given under above top second x y sp carry over cycles a : Int} {page first cells calls : List Int}  : BrS w 1 given under above top second x y sp carry over cycles a page first cells calls ⟨((top + second).fmod 256), under, y, sp, (if top + second > 255 then 1 else 0), (if -128 ≤ sg second + sg top ∧ sg second + sg top ≤ 127 then 0 else 1), cycles, under, (cells.set under.toNat ((top + second).fmod 256)), calls, first⟩ := by
  exact brs_of (bv_1)
theorem bs_2 {w : World} {given under above top second x y sp carry over cycles a : Int} {page first cells calls : List Int}  : BrS w 2 given under above top second x y sp carry over cycles a page first cells calls ⟨((second - top).fmod 256), under, y, sp, (if second ≥ top then 1 else 0), (if -128 ≤ sg second - sg top ∧ sg second - sg top ≤ 127 then 0 else 1), cycles, under, (cells.set under.toNat ((second - top).fmod 256)), calls, first⟩ := by
  exact brs_of (bv_2)
theorem bs_3 {w : World} {given under above top second x y sp carry over cycles a : Int} {page first cells calls : List Int}  : BrS w 3 given under above top second x y sp carry over cycles a page first cells calls ⟨top, above, y, sp, carry, over, cycles, above, (cells.set above.toNat top), calls, first⟩ := by
  exact brs_of (bv_3)
theorem bs_4 {w : World} {given under above top second x y sp carry over cycles a : Int} {page first cells calls : List Int}  : BrS w 4 given under above top second x y sp carry over cycles a page first cells calls ⟨top, x, y, sp, carry, over, cycles, top, ((cells.set x.toNat second).set under.toNat top), (calls.set sp.toNat top), first⟩ := by
  exact brs_of (bv_4)
theorem bs_5 {w : World} {given under above top second x y sp carry over cycles a : Int} {page first cells calls : List Int}  : BrS w 5 given under above top second x y sp carry over cycles a page first cells calls ⟨a, under, y, sp, carry, over, cycles, under, cells, calls, first⟩ := by
  exact brs_of (bv_5)
theorem bs_6 {w : World} {given under above top second x y sp carry over cycles a : Int} {page first cells calls : List Int}  : BrS w 6 given under above top second x y sp carry over cycles a page first cells calls ⟨second, above, y, sp, carry, over, cycles, above, (cells.set above.toNat second), calls, first⟩ := by
  exact brs_of (bv_6)
theorem bs_7 {w : World} {given under above top second x y sp carry over cycles a : Int} {page first cells calls : List Int}  : BrS w 7 given under above top second x y sp carry over cycles a page first cells calls ⟨given, x, given, sp, carry, over, cycles, given, cells, calls, first⟩ := by
  exact brs_of (bv_7)
theorem bs_8t {w : World} {given under above top second x y sp carry over cycles a : Int} {page first cells calls : List Int} (h8 : (top == 0) = true) : BrS w 8 given under above top second x y sp carry over cycles a page first cells calls ⟨given, under, given, sp, carry, over, (cycles + 5), given, cells, calls, first⟩ := by
  exact brs_of (bv_8t h8)
theorem bs_8f {w : World} {given under above top second x y sp carry over cycles a : Int} {page first cells calls : List Int} (h8 : (top == 0) = false) : BrS w 8 given under above top second x y sp carry over cycles a page first cells calls ⟨top, under, ((y + 1).fmod 256), sp, carry, over, cycles, ((y + 1).fmod 256), cells, calls, first⟩ := by
  exact brs_of (bv_8f h8)
theorem bs_9 {w : World} {given under above top second x y sp carry over cycles a : Int} {page first cells calls : List Int}  : BrS w 9 given under above top second x y sp carry over cycles a page first cells calls ⟨given, x, given, ((sp - 1).fmod 256), carry, over, cycles, given, cells, (calls.set sp.toNat ((y + 1).fmod 256)), first⟩ := by
  exact brs_of (bv_9)
theorem bs_10 {w : World} {given under above top second x y sp carry over cycles a : Int} {page first cells calls : List Int}  : BrS w 10 given under above top second x y sp carry over cycles a page first cells calls ⟨(rd calls ((sp + 1).fmod 256)), x, (rd calls ((sp + 1).fmod 256)), ((sp + 1).fmod 256), carry, over, cycles, (rd calls ((sp + 1).fmod 256)), cells, calls, first⟩ := by
  exact brs_of (bv_10)
theorem bs_11 {w : World} {given under above top second x y sp carry over cycles a : Int} {page first cells calls : List Int}  : BrS w 11 given under above top second x y sp carry over cycles a page first cells calls ⟨(rd cells top), x, y, sp, carry, over, cycles, (rd cells top), (cells.set x.toNat (rd cells top)), calls, (first.set 147 top)⟩ := by
  exact brs_of (bv_11)
theorem bs_12 {w : World} {given under above top second x y sp carry over cycles a : Int} {page first cells calls : List Int}  : BrS w 12 given under above top second x y sp carry over cycles a page first cells calls ⟨second, ((x + 2).fmod 256), y, sp, carry, over, cycles, ((x + 2).fmod 256), (cells.set top.toNat second), calls, (first.set 161 top)⟩ := by
  exact brs_of (bv_12)
theorem bs_13 {w : World} {given under above top second x y sp carry over cycles a : Int} {page first cells calls : List Int}  : BrS w 13 given under above top second x y sp carry over cycles a page first cells calls ⟨(if second < top then 1 else 0), under, y, sp, 0, over, cycles, under, (cells.set under.toNat (if second < top then 1 else 0)), calls, first⟩ := by
  exact brs_of (bv_13)
theorem bs_14 {w : World} {given under above top second x y sp carry over cycles a : Int} {page first cells calls : List Int}  : BrS w 14 given under above top second x y sp carry over cycles a page first cells calls ⟨((2 * top).fmod 256), x, y, sp, (top.fmod 2), over, cycles, (((sg top).fdiv 2).fmod 256), (cells.set x.toNat (((sg top).fdiv 2).fmod 256)), calls, first⟩ := by
  exact brs_of (bv_14)
theorem bs_15t {w : World} {given under above top second x y sp carry over cycles a : Int} {page first cells calls : List Int} (h15 : ((top - 1).fmod 256 != 0) = true) : BrS w 15 given under above top second x y sp carry over cycles a page first cells calls ⟨given, x, given, sp, carry, over, (cycles + 3), given, (cells.set x.toNat ((top - 1).fmod 256)), calls, first⟩ := by
  exact brs_of (bv_15t h15)
theorem bs_15f {w : World} {given under above top second x y sp carry over cycles a : Int} {page first cells calls : List Int} (h15 : ((top - 1).fmod 256 != 0) = false) : BrS w 15 given under above top second x y sp carry over cycles a page first cells calls ⟨a, under, ((y + 1).fmod 256), sp, carry, over, cycles, under, (cells.set x.toNat ((top - 1).fmod 256)), calls, first⟩ := by
  exact brs_of (bv_15f h15)
theorem fm2 (a : Int) : a.fmod 2 = a % 2 := Int.fmod_eq_emod_of_nonneg a (by decide)
theorem fd2 (a : Int) : a.fdiv 2 = a / 2 := Int.fdiv_eq_ediv_of_nonneg a (by decide)
structure Cells (cells calls page : List Int) : Prop where
  c : ∀ b ∈ cells, 0 ≤ b ∧ b < 256
  k : ∀ b ∈ calls, 0 ≤ b ∧ b < 256
  p : ∀ b ∈ page, 0 ≤ b ∧ b < 256
theorem cells_of {cells calls page : List Int} {q1 q2 q3 : Int} (M : Mem (mem cells calls q1 q2 q3 page)) : Cells cells calls page := by
  unfold mem at M
  exact ⟨fun b hb => M.b b (List.mem_append_left _ hb), fun b hb => M.b b (List.mem_append_right _ (List.mem_append_left _ hb)), fun b hb => M.b b (List.mem_append_right _ (List.mem_append_right _ (List.mem_append_right _ hb)))⟩
/-- what one turn comes to -/
noncomputable def Comes (w : World) (g : Rg) (page cells calls : List Int) (q1 q2 q3 : Int) : Prop :=
  ∃ (o : Out) (C V : Bool) (q1' q2' q3' : Int), mrun 14 g (mem cells calls q1 q2 q3 page) = some (⟨o.cycles, 544, o.sp, o.a, o.x, o.y, C, decide (o.told = 0), V, decide (128 ≤ o.told)⟩, mem o.cells o.calls q1' q2' q3' page) ∧
    BrS w (((rd page g.y).fdiv 2).fmod 16) (rd page ((g.y + 1).fmod 256)) ((g.x + 1).fmod 256) ((g.x - 1).fmod 256) (rd cells g.x) (rd cells ((g.x + 1).fmod 256)) g.x ((g.y + 1).fmod 256) g.sp (if g.C then 1 else 0) (if g.V then 1 else 0) (g.cyc + (17 + rd lawCyc (((rd page g.y).fdiv 2).fmod 16))) (2 * ((rd page g.y).fdiv 2).fmod 16) page ((code q1 q2 q3).set 42 (2 * ((rd page g.y).fdiv 2).fmod 16)) cells calls o ∧
    o.carry = (if C then 1 else 0) ∧ o.over = (if V then 1 else 0) ∧ 0 ≤ o.told ∧ o.told < 256 ∧ o.first = code q1' q2' q3' ∧ o.cells.length = 256 ∧ o.calls.length = 256
theorem some_rg {r : Option (Rg × List Int)} {g g' : Rg} {ns ns' : List Int} (h : r = some (g, ns)) (e1 : g = g') (e2 : ns = ns') : r = some (g', ns') := by rw [h, e1, e2]
theorem code_42 (q1 q2 q3 v : Int) : (code q1 q2 q3).set 42 v = code v q2 q3 := rfl
theorem code_147 (q1 q2 q3 v : Int) : (code q1 q2 q3).set 147 v = code q1 v q3 := rfl
theorem code_161 (q1 q2 q3 v : Int) : (code q1 q2 q3).set 161 v = code q1 q2 v := rfl
theorem pk_0 {w : World} {cells calls page : List Int} {q1 q2 q3 cyc sp a x y : Int} {C Z V N : Bool} (H : Lens cells calls page) (K : Cells cells calls page) (hx : 0 ≤ x ∧ x < 256) (hy : 0 ≤ y ∧ y < 256) (hsp : 0 ≤ sp ∧ sp < 256) (hkd : ((rd page y).fdiv 2).fmod 16 = 0)  : Comes w ⟨cyc, 544, sp, a, x, y, C, Z, V, N⟩ page cells calls q1 q2 q3 := by
  have hc := fun i => bytes K.c i
  have hcl := fun i => bytes K.k i
  have hpg := fun i => bytes K.p i
  have hb := hpg y
  have hk : Builtin.bitAnd (rd page y) 30 = 0 := by
    rw [and30 hb.1 hb.2]
    rw [fm16, fd2] at hkd
    rw [hkd]; rfl
  have b1 := hc x
  have b2 := hc ((x + 1) % 256)
  have b3 := hpg ((y + 1) % 256)
  have b4 := hcl ((sp + 1) % 256)
  have b5 := hc (rd cells x)
  have eL : rd lawCyc 0 = 15 := rfl
  unfold Comes
  dsimp only
  rw [hkd]
  refine ⟨_, C, V, 0, q2, q3, some_rg (k_0 H hx hy hsp hc hk) ?_ ?_, bs_0 , ?_, ?_, ?_, ?_, ?_, ?_, ?_⟩
  all_goals (dsimp only; (try simp only [fm256, fm2, fd2, code_42, code_147, code_161]); skip)
  all_goals first | rfl | omega | assumption | exact H.c | exact H.k | (simp only [List.length_set]; first | exact H.c | exact H.k) | (refine rg_ext ?_ ?_ ?_ ?_ ?_ ?_ ?_ ?_ ?_ ?_ <;> (first | rfl | omega | assumption | (simp only [decide_eq_true_eq]; split <;> split <;> first | rfl | omega | contradiction) | (simp only [decide_eq_true_eq]; split <;> first | rfl | omega))) | (first | rfl | omega | assumption | (simp only [decide_eq_true_eq]; split <;> split <;> first | rfl | omega | contradiction) | (simp only [decide_eq_true_eq]; split <;> first | rfl | omega)) | (simp only [decide_eq_true_eq]; rfl) | (simp only [decide_eq_true_eq, ge_iff_le]; done) | (rw [Int.add_comm (rd cells x)]; done) | (rw [Int.add_comm (rd cells x)]; rfl)
theorem pk_1 {w : World} {cells calls page : List Int} {q1 q2 q3 cyc sp a x y : Int} {C Z V N : Bool} (H : Lens cells calls page) (K : Cells cells calls page) (hx : 0 ≤ x ∧ x < 256) (hy : 0 ≤ y ∧ y < 256) (hsp : 0 ≤ sp ∧ sp < 256) (hkd : ((rd page y).fdiv 2).fmod 16 = 1)  : Comes w ⟨cyc, 544, sp, a, x, y, C, Z, V, N⟩ page cells calls q1 q2 q3 := by
  have hc := fun i => bytes K.c i
  have hcl := fun i => bytes K.k i
  have hpg := fun i => bytes K.p i
  have hb := hpg y
  have hk : Builtin.bitAnd (rd page y) 30 = 2 := by
    rw [and30 hb.1 hb.2]
    rw [fm16, fd2] at hkd
    rw [hkd]; rfl
  have b1 := hc x
  have b2 := hc ((x + 1) % 256)
  have b3 := hpg ((y + 1) % 256)
  have b4 := hcl ((sp + 1) % 256)
  have b5 := hc (rd cells x)
  have eL : rd lawCyc 1 = 19 := rfl
  unfold Comes
  dsimp only
  rw [hkd]
  refine ⟨_, (decide (255 < rd cells ((x + 1) % 256) + rd cells x)), (decide (¬ (-128 ≤ sg (rd cells ((x + 1) % 256)) + sg (rd cells x) ∧ sg (rd cells ((x + 1) % 256)) + sg (rd cells x) ≤ 127))), 2, q2, q3, some_rg (k_1 H hx hy hsp hc hk) ?_ ?_, bs_1 , ?_, ?_, ?_, ?_, ?_, ?_, ?_⟩
  all_goals (dsimp only; (try simp only [fm256, fm2, fd2, code_42, code_147, code_161]); skip)
  all_goals first | rfl | omega | assumption | exact H.c | exact H.k | (simp only [List.length_set]; first | exact H.c | exact H.k) | (refine rg_ext ?_ ?_ ?_ ?_ ?_ ?_ ?_ ?_ ?_ ?_ <;> (first | rfl | omega | assumption | exact adcV b1.1 b1.2 b2.1 b2.2 | (simp only [decide_eq_true_eq]; split <;> split <;> first | rfl | omega | contradiction) | (simp only [decide_eq_true_eq]; split <;> first | rfl | omega))) | (first | rfl | omega | assumption | exact adcV b1.1 b1.2 b2.1 b2.2 | (simp only [decide_eq_true_eq]; split <;> split <;> first | rfl | omega | contradiction) | (simp only [decide_eq_true_eq]; split <;> first | rfl | omega)) | (simp only [decide_eq_true_eq]; rfl) | (simp only [decide_eq_true_eq, ge_iff_le]; done) | (rw [Int.add_comm (rd cells x)]; done) | (rw [Int.add_comm (rd cells x)]; rfl)
theorem pk_2 {w : World} {cells calls page : List Int} {q1 q2 q3 cyc sp a x y : Int} {C Z V N : Bool} (H : Lens cells calls page) (K : Cells cells calls page) (hx : 0 ≤ x ∧ x < 256) (hy : 0 ≤ y ∧ y < 256) (hsp : 0 ≤ sp ∧ sp < 256) (hkd : ((rd page y).fdiv 2).fmod 16 = 2)  : Comes w ⟨cyc, 544, sp, a, x, y, C, Z, V, N⟩ page cells calls q1 q2 q3 := by
  have hc := fun i => bytes K.c i
  have hcl := fun i => bytes K.k i
  have hpg := fun i => bytes K.p i
  have hb := hpg y
  have hk : Builtin.bitAnd (rd page y) 30 = 4 := by
    rw [and30 hb.1 hb.2]
    rw [fm16, fd2] at hkd
    rw [hkd]; rfl
  have b1 := hc x
  have b2 := hc ((x + 1) % 256)
  have b3 := hpg ((y + 1) % 256)
  have b4 := hcl ((sp + 1) % 256)
  have b5 := hc (rd cells x)
  have eL : rd lawCyc 2 = 19 := rfl
  unfold Comes
  dsimp only
  rw [hkd]
  refine ⟨_, (decide (rd cells x ≤ rd cells ((x + 1) % 256))), (decide (¬ (-128 ≤ sg (rd cells ((x + 1) % 256)) - sg (rd cells x) ∧ sg (rd cells ((x + 1) % 256)) - sg (rd cells x) ≤ 127))), 4, q2, q3, some_rg (k_2 H hx hy hsp hc hk) ?_ ?_, bs_2 , ?_, ?_, ?_, ?_, ?_, ?_, ?_⟩
  all_goals (dsimp only; (try simp only [fm256, fm2, fd2, code_42, code_147, code_161]); skip)
  all_goals first | rfl | omega | assumption | exact H.c | exact H.k | (simp only [List.length_set]; first | exact H.c | exact H.k) | (refine rg_ext ?_ ?_ ?_ ?_ ?_ ?_ ?_ ?_ ?_ ?_ <;> (first | rfl | omega | assumption | exact sbcV b1.1 b1.2 b2.1 b2.2 | (simp only [decide_eq_true_eq]; split <;> split <;> first | rfl | omega | contradiction) | (simp only [decide_eq_true_eq]; split <;> first | rfl | omega))) | (first | rfl | omega | assumption | exact sbcV b1.1 b1.2 b2.1 b2.2 | (simp only [decide_eq_true_eq]; split <;> split <;> first | rfl | omega | contradiction) | (simp only [decide_eq_true_eq]; split <;> first | rfl | omega)) | (simp only [decide_eq_true_eq]; rfl) | (simp only [decide_eq_true_eq, ge_iff_le]; done) | (rw [Int.add_comm (rd cells x)]; done) | (rw [Int.add_comm (rd cells x)]; rfl)
theorem pk_3 {w : World} {cells calls page : List Int} {q1 q2 q3 cyc sp a x y : Int} {C Z V N : Bool} (H : Lens cells calls page) (K : Cells cells calls page) (hx : 0 ≤ x ∧ x < 256) (hy : 0 ≤ y ∧ y < 256) (hsp : 0 ≤ sp ∧ sp < 256) (hkd : ((rd page y).fdiv 2).fmod 16 = 3)  : Comes w ⟨cyc, 544, sp, a, x, y, C, Z, V, N⟩ page cells calls q1 q2 q3 := by
  have hc := fun i => bytes K.c i
  have hcl := fun i => bytes K.k i
  have hpg := fun i => bytes K.p i
  have hb := hpg y
  have hk : Builtin.bitAnd (rd page y) 30 = 6 := by
    rw [and30 hb.1 hb.2]
    rw [fm16, fd2] at hkd
    rw [hkd]; rfl
  have b1 := hc x
  have b2 := hc ((x + 1) % 256)
  have b3 := hpg ((y + 1) % 256)
  have b4 := hcl ((sp + 1) % 256)
  have b5 := hc (rd cells x)
  have eL : rd lawCyc 3 = 13 := rfl
  unfold Comes
  dsimp only
  rw [hkd]
  refine ⟨_, C, V, 6, q2, q3, some_rg (k_3 H hx hy hsp hc hk) ?_ ?_, bs_3 , ?_, ?_, ?_, ?_, ?_, ?_, ?_⟩
  all_goals (dsimp only; (try simp only [fm256, fm2, fd2, code_42, code_147, code_161]); skip)
  all_goals first | rfl | omega | assumption | exact H.c | exact H.k | (simp only [List.length_set]; first | exact H.c | exact H.k) | (refine rg_ext ?_ ?_ ?_ ?_ ?_ ?_ ?_ ?_ ?_ ?_ <;> (first | rfl | omega | assumption | (simp only [decide_eq_true_eq]; split <;> split <;> first | rfl | omega | contradiction) | (simp only [decide_eq_true_eq]; split <;> first | rfl | omega))) | (first | rfl | omega | assumption | (simp only [decide_eq_true_eq]; split <;> split <;> first | rfl | omega | contradiction) | (simp only [decide_eq_true_eq]; split <;> first | rfl | omega)) | (simp only [decide_eq_true_eq]; rfl) | (simp only [decide_eq_true_eq, ge_iff_le]; done) | (rw [Int.add_comm (rd cells x)]; done) | (rw [Int.add_comm (rd cells x)]; rfl)
theorem pk_4 {w : World} {cells calls page : List Int} {q1 q2 q3 cyc sp a x y : Int} {C Z V N : Bool} (H : Lens cells calls page) (K : Cells cells calls page) (hx : 0 ≤ x ∧ x < 256) (hy : 0 ≤ y ∧ y < 256) (hsp : 0 ≤ sp ∧ sp < 256) (hkd : ((rd page y).fdiv 2).fmod 16 = 4)  : Comes w ⟨cyc, 544, sp, a, x, y, C, Z, V, N⟩ page cells calls q1 q2 q3 := by
  have hc := fun i => bytes K.c i
  have hcl := fun i => bytes K.k i
  have hpg := fun i => bytes K.p i
  have hb := hpg y
  have hk : Builtin.bitAnd (rd page y) 30 = 8 := by
    rw [and30 hb.1 hb.2]
    rw [fm16, fd2] at hkd
    rw [hkd]; rfl
  have b1 := hc x
  have b2 := hc ((x + 1) % 256)
  have b3 := hpg ((y + 1) % 256)
  have b4 := hcl ((sp + 1) % 256)
  have b5 := hc (rd cells x)
  have eL : rd lawCyc 4 = 26 := rfl
  unfold Comes
  dsimp only
  rw [hkd]
  refine ⟨_, C, V, 8, q2, q3, some_rg (k_4 H hx hy hsp hc hk) ?_ ?_, bs_4 , ?_, ?_, ?_, ?_, ?_, ?_, ?_⟩
  all_goals (dsimp only; (try simp only [fm256, fm2, fd2, code_42, code_147, code_161]); skip)
  all_goals first | rfl | omega | assumption | exact H.c | exact H.k | (simp only [List.length_set]; first | exact H.c | exact H.k) | (refine rg_ext ?_ ?_ ?_ ?_ ?_ ?_ ?_ ?_ ?_ ?_ <;> (first | rfl | omega | assumption | (simp only [decide_eq_true_eq]; split <;> split <;> first | rfl | omega | contradiction) | (simp only [decide_eq_true_eq]; split <;> first | rfl | omega))) | (first | rfl | omega | assumption | (simp only [decide_eq_true_eq]; split <;> split <;> first | rfl | omega | contradiction) | (simp only [decide_eq_true_eq]; split <;> first | rfl | omega)) | (simp only [decide_eq_true_eq]; rfl) | (simp only [decide_eq_true_eq, ge_iff_le]; done) | (rw [Int.add_comm (rd cells x)]; done) | (rw [Int.add_comm (rd cells x)]; rfl)
theorem pk_5 {w : World} {cells calls page : List Int} {q1 q2 q3 cyc sp a x y : Int} {C Z V N : Bool} (H : Lens cells calls page) (K : Cells cells calls page) (hx : 0 ≤ x ∧ x < 256) (hy : 0 ≤ y ∧ y < 256) (hsp : 0 ≤ sp ∧ sp < 256) (hkd : ((rd page y).fdiv 2).fmod 16 = 5)  : Comes w ⟨cyc, 544, sp, a, x, y, C, Z, V, N⟩ page cells calls q1 q2 q3 := by
  have hc := fun i => bytes K.c i
  have hcl := fun i => bytes K.k i
  have hpg := fun i => bytes K.p i
  have hb := hpg y
  have hk : Builtin.bitAnd (rd page y) 30 = 10 := by
    rw [and30 hb.1 hb.2]
    rw [fm16, fd2] at hkd
    rw [hkd]; rfl
  have b1 := hc x
  have b2 := hc ((x + 1) % 256)
  have b3 := hpg ((y + 1) % 256)
  have b4 := hcl ((sp + 1) % 256)
  have b5 := hc (rd cells x)
  have eL : rd lawCyc 5 = 5 := rfl
  unfold Comes
  dsimp only
  rw [hkd]
  refine ⟨_, C, V, 10, q2, q3, some_rg (k_5 H hx hy hsp hc hk) ?_ ?_, bs_5 , ?_, ?_, ?_, ?_, ?_, ?_, ?_⟩
  all_goals (dsimp only; (try simp only [fm256, fm2, fd2, code_42, code_147, code_161]); skip)
  all_goals first | rfl | omega | assumption | exact H.c | exact H.k | (simp only [List.length_set]; first | exact H.c | exact H.k) | (refine rg_ext ?_ ?_ ?_ ?_ ?_ ?_ ?_ ?_ ?_ ?_ <;> (first | rfl | omega | assumption | (simp only [decide_eq_true_eq]; split <;> split <;> first | rfl | omega | contradiction) | (simp only [decide_eq_true_eq]; split <;> first | rfl | omega))) | (first | rfl | omega | assumption | (simp only [decide_eq_true_eq]; split <;> split <;> first | rfl | omega | contradiction) | (simp only [decide_eq_true_eq]; split <;> first | rfl | omega)) | (simp only [decide_eq_true_eq]; rfl) | (simp only [decide_eq_true_eq, ge_iff_le]; done) | (rw [Int.add_comm (rd cells x)]; done) | (rw [Int.add_comm (rd cells x)]; rfl)
theorem pk_6 {w : World} {cells calls page : List Int} {q1 q2 q3 cyc sp a x y : Int} {C Z V N : Bool} (H : Lens cells calls page) (K : Cells cells calls page) (hx : 0 ≤ x ∧ x < 256) (hy : 0 ≤ y ∧ y < 256) (hsp : 0 ≤ sp ∧ sp < 256) (hkd : ((rd page y).fdiv 2).fmod 16 = 6)  : Comes w ⟨cyc, 544, sp, a, x, y, C, Z, V, N⟩ page cells calls q1 q2 q3 := by
  have hc := fun i => bytes K.c i
  have hcl := fun i => bytes K.k i
  have hpg := fun i => bytes K.p i
  have hb := hpg y
  have hk : Builtin.bitAnd (rd page y) 30 = 12 := by
    rw [and30 hb.1 hb.2]
    rw [fm16, fd2] at hkd
    rw [hkd]; rfl
  have b1 := hc x
  have b2 := hc ((x + 1) % 256)
  have b3 := hpg ((y + 1) % 256)
  have b4 := hcl ((sp + 1) % 256)
  have b5 := hc (rd cells x)
  have eL : rd lawCyc 6 = 13 := rfl
  unfold Comes
  dsimp only
  rw [hkd]
  refine ⟨_, C, V, 12, q2, q3, some_rg (k_6 H hx hy hsp hc hk) ?_ ?_, bs_6 , ?_, ?_, ?_, ?_, ?_, ?_, ?_⟩
  all_goals (dsimp only; (try simp only [fm256, fm2, fd2, code_42, code_147, code_161]); skip)
  all_goals first | rfl | omega | assumption | exact H.c | exact H.k | (simp only [List.length_set]; first | exact H.c | exact H.k) | (refine rg_ext ?_ ?_ ?_ ?_ ?_ ?_ ?_ ?_ ?_ ?_ <;> (first | rfl | omega | assumption | (simp only [decide_eq_true_eq]; split <;> split <;> first | rfl | omega | contradiction) | (simp only [decide_eq_true_eq]; split <;> first | rfl | omega))) | (first | rfl | omega | assumption | (simp only [decide_eq_true_eq]; split <;> split <;> first | rfl | omega | contradiction) | (simp only [decide_eq_true_eq]; split <;> first | rfl | omega)) | (simp only [decide_eq_true_eq]; rfl) | (simp only [decide_eq_true_eq, ge_iff_le]; done) | (rw [Int.add_comm (rd cells x)]; done) | (rw [Int.add_comm (rd cells x)]; rfl)
theorem pk_7 {w : World} {cells calls page : List Int} {q1 q2 q3 cyc sp a x y : Int} {C Z V N : Bool} (H : Lens cells calls page) (K : Cells cells calls page) (hx : 0 ≤ x ∧ x < 256) (hy : 0 ≤ y ∧ y < 256) (hsp : 0 ≤ sp ∧ sp < 256) (hkd : ((rd page y).fdiv 2).fmod 16 = 7)  : Comes w ⟨cyc, 544, sp, a, x, y, C, Z, V, N⟩ page cells calls q1 q2 q3 := by
  have hc := fun i => bytes K.c i
  have hcl := fun i => bytes K.k i
  have hpg := fun i => bytes K.p i
  have hb := hpg y
  have hk : Builtin.bitAnd (rd page y) 30 = 14 := by
    rw [and30 hb.1 hb.2]
    rw [fm16, fd2] at hkd
    rw [hkd]; rfl
  have b1 := hc x
  have b2 := hc ((x + 1) % 256)
  have b3 := hpg ((y + 1) % 256)
  have b4 := hcl ((sp + 1) % 256)
  have b5 := hc (rd cells x)
  have eL : rd lawCyc 7 = 9 := rfl
  unfold Comes
  dsimp only
  rw [hkd]
  refine ⟨_, C, V, 14, q2, q3, some_rg (k_7 H hx hy hsp hc hk) ?_ ?_, bs_7 , ?_, ?_, ?_, ?_, ?_, ?_, ?_⟩
  all_goals (dsimp only; (try simp only [fm256, fm2, fd2, code_42, code_147, code_161]); skip)
  all_goals first | rfl | omega | assumption | exact H.c | exact H.k | (simp only [List.length_set]; first | exact H.c | exact H.k) | (refine rg_ext ?_ ?_ ?_ ?_ ?_ ?_ ?_ ?_ ?_ ?_ <;> (first | rfl | omega | assumption | (simp only [decide_eq_true_eq]; split <;> split <;> first | rfl | omega | contradiction) | (simp only [decide_eq_true_eq]; split <;> first | rfl | omega))) | (first | rfl | omega | assumption | (simp only [decide_eq_true_eq]; split <;> split <;> first | rfl | omega | contradiction) | (simp only [decide_eq_true_eq]; split <;> first | rfl | omega)) | (simp only [decide_eq_true_eq]; rfl) | (simp only [decide_eq_true_eq, ge_iff_le]; done) | (rw [Int.add_comm (rd cells x)]; done) | (rw [Int.add_comm (rd cells x)]; rfl)
theorem pk_8t {w : World} {cells calls page : List Int} {q1 q2 q3 cyc sp a x y : Int} {C Z V N : Bool} (H : Lens cells calls page) (K : Cells cells calls page) (hx : 0 ≤ x ∧ x < 256) (hy : 0 ≤ y ∧ y < 256) (hsp : 0 ≤ sp ∧ sp < 256) (hkd : ((rd page y).fdiv 2).fmod 16 = 8) (h8 : rd cells x = 0) : Comes w ⟨cyc, 544, sp, a, x, y, C, Z, V, N⟩ page cells calls q1 q2 q3 := by
  have hc := fun i => bytes K.c i
  have hcl := fun i => bytes K.k i
  have hpg := fun i => bytes K.p i
  have hb := hpg y
  have hk : Builtin.bitAnd (rd page y) 30 = 16 := by
    rw [and30 hb.1 hb.2]
    rw [fm16, fd2] at hkd
    rw [hkd]; rfl
  have b1 := hc x
  have b2 := hc ((x + 1) % 256)
  have b3 := hpg ((y + 1) % 256)
  have b4 := hcl ((sp + 1) % 256)
  have b5 := hc (rd cells x)
  have eL : rd lawCyc 8 = 13 := rfl
  unfold Comes
  dsimp only
  rw [hkd]
  refine ⟨_, C, V, 16, q2, q3, some_rg (k_8t H hx hy hsp hc hk h8) ?_ ?_, bs_8t (h8 := beq_iff_eq.mpr h8), ?_, ?_, ?_, ?_, ?_, ?_, ?_⟩
  all_goals (dsimp only; (try simp only [fm256, fm2, fd2, code_42, code_147, code_161]); skip)
  all_goals first | rfl | omega | assumption | exact H.c | exact H.k | (simp only [List.length_set]; first | exact H.c | exact H.k) | (refine rg_ext ?_ ?_ ?_ ?_ ?_ ?_ ?_ ?_ ?_ ?_ <;> (first | rfl | omega | assumption | (simp only [decide_eq_true_eq]; split <;> split <;> first | rfl | omega | contradiction) | (simp only [decide_eq_true_eq]; split <;> first | rfl | omega))) | (first | rfl | omega | assumption | (simp only [decide_eq_true_eq]; split <;> split <;> first | rfl | omega | contradiction) | (simp only [decide_eq_true_eq]; split <;> first | rfl | omega)) | (simp only [decide_eq_true_eq]; rfl) | (simp only [decide_eq_true_eq, ge_iff_le]; done) | (rw [Int.add_comm (rd cells x)]; done) | (rw [Int.add_comm (rd cells x)]; rfl)
theorem pk_8f {w : World} {cells calls page : List Int} {q1 q2 q3 cyc sp a x y : Int} {C Z V N : Bool} (H : Lens cells calls page) (K : Cells cells calls page) (hx : 0 ≤ x ∧ x < 256) (hy : 0 ≤ y ∧ y < 256) (hsp : 0 ≤ sp ∧ sp < 256) (hkd : ((rd page y).fdiv 2).fmod 16 = 8) (h8 : rd cells x ≠ 0) : Comes w ⟨cyc, 544, sp, a, x, y, C, Z, V, N⟩ page cells calls q1 q2 q3 := by
  have hc := fun i => bytes K.c i
  have hcl := fun i => bytes K.k i
  have hpg := fun i => bytes K.p i
  have hb := hpg y
  have hk : Builtin.bitAnd (rd page y) 30 = 16 := by
    rw [and30 hb.1 hb.2]
    rw [fm16, fd2] at hkd
    rw [hkd]; rfl
  have b1 := hc x
  have b2 := hc ((x + 1) % 256)
  have b3 := hpg ((y + 1) % 256)
  have b4 := hcl ((sp + 1) % 256)
  have b5 := hc (rd cells x)
  have eL : rd lawCyc 8 = 13 := rfl
  unfold Comes
  dsimp only
  rw [hkd]
  refine ⟨_, C, V, 16, q2, q3, some_rg (k_8f H hx hy hsp hc hk h8) ?_ ?_, bs_8f (h8 := beq_eq_false_iff_ne.mpr h8), ?_, ?_, ?_, ?_, ?_, ?_, ?_⟩
  all_goals (dsimp only; (try simp only [fm256, fm2, fd2, code_42, code_147, code_161]); skip)
  all_goals first | rfl | omega | assumption | exact H.c | exact H.k | (simp only [List.length_set]; first | exact H.c | exact H.k) | (refine rg_ext ?_ ?_ ?_ ?_ ?_ ?_ ?_ ?_ ?_ ?_ <;> (first | rfl | omega | assumption | (simp only [decide_eq_true_eq]; split <;> split <;> first | rfl | omega | contradiction) | (simp only [decide_eq_true_eq]; split <;> first | rfl | omega))) | (first | rfl | omega | assumption | (simp only [decide_eq_true_eq]; split <;> split <;> first | rfl | omega | contradiction) | (simp only [decide_eq_true_eq]; split <;> first | rfl | omega)) | (simp only [decide_eq_true_eq]; rfl) | (simp only [decide_eq_true_eq, ge_iff_le]; done) | (rw [Int.add_comm (rd cells x)]; done) | (rw [Int.add_comm (rd cells x)]; rfl)
theorem pk_9 {w : World} {cells calls page : List Int} {q1 q2 q3 cyc sp a x y : Int} {C Z V N : Bool} (H : Lens cells calls page) (K : Cells cells calls page) (hx : 0 ≤ x ∧ x < 256) (hy : 0 ≤ y ∧ y < 256) (hsp : 0 ≤ sp ∧ sp < 256) (hkd : ((rd page y).fdiv 2).fmod 16 = 9)  : Comes w ⟨cyc, 544, sp, a, x, y, C, Z, V, N⟩ page cells calls q1 q2 q3 := by
  have hc := fun i => bytes K.c i
  have hcl := fun i => bytes K.k i
  have hpg := fun i => bytes K.p i
  have hb := hpg y
  have hk : Builtin.bitAnd (rd page y) 30 = 18 := by
    rw [and30 hb.1 hb.2]
    rw [fm16, fd2] at hkd
    rw [hkd]; rfl
  have b1 := hc x
  have b2 := hc ((x + 1) % 256)
  have b3 := hpg ((y + 1) % 256)
  have b4 := hcl ((sp + 1) % 256)
  have b5 := hc (rd cells x)
  have eL : rd lawCyc 9 = 18 := rfl
  unfold Comes
  dsimp only
  rw [hkd]
  refine ⟨_, C, V, 18, q2, q3, some_rg (k_9 H hx hy hsp hc hk) ?_ ?_, bs_9 , ?_, ?_, ?_, ?_, ?_, ?_, ?_⟩
  all_goals (dsimp only; (try simp only [fm256, fm2, fd2, code_42, code_147, code_161]); skip)
  all_goals first | rfl | omega | assumption | exact H.c | exact H.k | (simp only [List.length_set]; first | exact H.c | exact H.k) | (refine rg_ext ?_ ?_ ?_ ?_ ?_ ?_ ?_ ?_ ?_ ?_ <;> (first | rfl | omega | assumption | (simp only [decide_eq_true_eq]; split <;> split <;> first | rfl | omega | contradiction) | (simp only [decide_eq_true_eq]; split <;> first | rfl | omega))) | (first | rfl | omega | assumption | (simp only [decide_eq_true_eq]; split <;> split <;> first | rfl | omega | contradiction) | (simp only [decide_eq_true_eq]; split <;> first | rfl | omega)) | (simp only [decide_eq_true_eq]; rfl) | (simp only [decide_eq_true_eq, ge_iff_le]; done) | (rw [Int.add_comm (rd cells x)]; done) | (rw [Int.add_comm (rd cells x)]; rfl)
theorem pk_10 {w : World} {cells calls page : List Int} {q1 q2 q3 cyc sp a x y : Int} {C Z V N : Bool} (H : Lens cells calls page) (K : Cells cells calls page) (hx : 0 ≤ x ∧ x < 256) (hy : 0 ≤ y ∧ y < 256) (hsp : 0 ≤ sp ∧ sp < 256) (hkd : ((rd page y).fdiv 2).fmod 16 = 10)  : Comes w ⟨cyc, 544, sp, a, x, y, C, Z, V, N⟩ page cells calls q1 q2 q3 := by
  have hc := fun i => bytes K.c i
  have hcl := fun i => bytes K.k i
  have hpg := fun i => bytes K.p i
  have hb := hpg y
  have hk : Builtin.bitAnd (rd page y) 30 = 20 := by
    rw [and30 hb.1 hb.2]
    rw [fm16, fd2] at hkd
    rw [hkd]; rfl
  have b1 := hc x
  have b2 := hc ((x + 1) % 256)
  have b3 := hpg ((y + 1) % 256)
  have b4 := hcl ((sp + 1) % 256)
  have b5 := hc (rd cells x)
  have eL : rd lawCyc 10 = 9 := rfl
  unfold Comes
  dsimp only
  rw [hkd]
  refine ⟨_, C, V, 20, q2, q3, some_rg (k_10 H hx hy hsp hc hk) ?_ ?_, bs_10 , ?_, ?_, ?_, ?_, ?_, ?_, ?_⟩
  all_goals (dsimp only; (try simp only [fm256, fm2, fd2, code_42, code_147, code_161]); skip)
  all_goals first | rfl | omega | assumption | exact H.c | exact H.k | (simp only [List.length_set]; first | exact H.c | exact H.k) | (refine rg_ext ?_ ?_ ?_ ?_ ?_ ?_ ?_ ?_ ?_ ?_ <;> (first | rfl | omega | assumption | (simp only [decide_eq_true_eq]; split <;> split <;> first | rfl | omega | contradiction) | (simp only [decide_eq_true_eq]; split <;> first | rfl | omega))) | (first | rfl | omega | assumption | (simp only [decide_eq_true_eq]; split <;> split <;> first | rfl | omega | contradiction) | (simp only [decide_eq_true_eq]; split <;> first | rfl | omega)) | (simp only [decide_eq_true_eq]; rfl) | (simp only [decide_eq_true_eq, ge_iff_le]; done) | (rw [Int.add_comm (rd cells x)]; done) | (rw [Int.add_comm (rd cells x)]; rfl)
theorem pk_11 {w : World} {cells calls page : List Int} {q1 q2 q3 cyc sp a x y : Int} {C Z V N : Bool} (H : Lens cells calls page) (K : Cells cells calls page) (hx : 0 ≤ x ∧ x < 256) (hy : 0 ≤ y ∧ y < 256) (hsp : 0 ≤ sp ∧ sp < 256) (hkd : ((rd page y).fdiv 2).fmod 16 = 11)  : Comes w ⟨cyc, 544, sp, a, x, y, C, Z, V, N⟩ page cells calls q1 q2 q3 := by
  have hc := fun i => bytes K.c i
  have hcl := fun i => bytes K.k i
  have hpg := fun i => bytes K.p i
  have hb := hpg y
  have hk : Builtin.bitAnd (rd page y) 30 = 22 := by
    rw [and30 hb.1 hb.2]
    rw [fm16, fd2] at hkd
    rw [hkd]; rfl
  have b1 := hc x
  have b2 := hc ((x + 1) % 256)
  have b3 := hpg ((y + 1) % 256)
  have b4 := hcl ((sp + 1) % 256)
  have b5 := hc (rd cells x)
  have eL : rd lawCyc 11 = 18 := rfl
  unfold Comes
  dsimp only
  rw [hkd]
  refine ⟨_, C, V, 22, (rd cells x), q3, some_rg (k_11 H hx hy hsp hc hk) ?_ ?_, bs_11 , ?_, ?_, ?_, ?_, ?_, ?_, ?_⟩
  all_goals (dsimp only; (try simp only [fm256, fm2, fd2, code_42, code_147, code_161]); skip)
  all_goals first | rfl | omega | assumption | exact H.c | exact H.k | (simp only [List.length_set]; first | exact H.c | exact H.k) | (refine rg_ext ?_ ?_ ?_ ?_ ?_ ?_ ?_ ?_ ?_ ?_ <;> (first | rfl | omega | assumption | (simp only [decide_eq_true_eq]; split <;> split <;> first | rfl | omega | contradiction) | (simp only [decide_eq_true_eq]; split <;> first | rfl | omega))) | (first | rfl | omega | assumption | (simp only [decide_eq_true_eq]; split <;> split <;> first | rfl | omega | contradiction) | (simp only [decide_eq_true_eq]; split <;> first | rfl | omega)) | (simp only [decide_eq_true_eq]; rfl) | (simp only [decide_eq_true_eq, ge_iff_le]; done) | (rw [Int.add_comm (rd cells x)]; done) | (rw [Int.add_comm (rd cells x)]; rfl)
theorem pk_12 {w : World} {cells calls page : List Int} {q1 q2 q3 cyc sp a x y : Int} {C Z V N : Bool} (H : Lens cells calls page) (K : Cells cells calls page) (hx : 0 ≤ x ∧ x < 256) (hy : 0 ≤ y ∧ y < 256) (hsp : 0 ≤ sp ∧ sp < 256) (hkd : ((rd page y).fdiv 2).fmod 16 = 12)  : Comes w ⟨cyc, 544, sp, a, x, y, C, Z, V, N⟩ page cells calls q1 q2 q3 := by
  have hc := fun i => bytes K.c i
  have hcl := fun i => bytes K.k i
  have hpg := fun i => bytes K.p i
  have hb := hpg y
  have hk : Builtin.bitAnd (rd page y) 30 = 24 := by
    rw [and30 hb.1 hb.2]
    rw [fm16, fd2] at hkd
    rw [hkd]; rfl
  have b1 := hc x
  have b2 := hc ((x + 1) % 256)
  have b3 := hpg ((y + 1) % 256)
  have b4 := hcl ((sp + 1) % 256)
  have b5 := hc (rd cells x)
  have eL : rd lawCyc 12 = 22 := rfl
  unfold Comes
  dsimp only
  rw [hkd]
  refine ⟨_, C, V, 24, q2, (rd cells x), some_rg (k_12 H hx hy hsp hc hk) ?_ ?_, bs_12 , ?_, ?_, ?_, ?_, ?_, ?_, ?_⟩
  all_goals (dsimp only; (try simp only [fm256, fm2, fd2, code_42, code_147, code_161]); skip)
  all_goals first | rfl | omega | assumption | exact H.c | exact H.k | (simp only [List.length_set]; first | exact H.c | exact H.k) | (refine rg_ext ?_ ?_ ?_ ?_ ?_ ?_ ?_ ?_ ?_ ?_ <;> (first | rfl | omega | assumption | (simp only [decide_eq_true_eq]; split <;> split <;> first | rfl | omega | contradiction) | (simp only [decide_eq_true_eq]; split <;> first | rfl | omega))) | (first | rfl | omega | assumption | (simp only [decide_eq_true_eq]; split <;> split <;> first | rfl | omega | contradiction) | (simp only [decide_eq_true_eq]; split <;> first | rfl | omega)) | (simp only [decide_eq_true_eq]; rfl) | (simp only [decide_eq_true_eq, ge_iff_le]; done) | (rw [Int.add_comm (rd cells x)]; done) | (rw [Int.add_comm (rd cells x)]; rfl)
theorem pk_13 {w : World} {cells calls page : List Int} {q1 q2 q3 cyc sp a x y : Int} {C Z V N : Bool} (H : Lens cells calls page) (K : Cells cells calls page) (hx : 0 ≤ x ∧ x < 256) (hy : 0 ≤ y ∧ y < 256) (hsp : 0 ≤ sp ∧ sp < 256) (hkd : ((rd page y).fdiv 2).fmod 16 = 13)  : Comes w ⟨cyc, 544, sp, a, x, y, C, Z, V, N⟩ page cells calls q1 q2 q3 := by
  have hc := fun i => bytes K.c i
  have hcl := fun i => bytes K.k i
  have hpg := fun i => bytes K.p i
  have hb := hpg y
  have hk : Builtin.bitAnd (rd page y) 30 = 26 := by
    rw [and30 hb.1 hb.2]
    rw [fm16, fd2] at hkd
    rw [hkd]; rfl
  have b1 := hc x
  have b2 := hc ((x + 1) % 256)
  have b3 := hpg ((y + 1) % 256)
  have b4 := hcl ((sp + 1) % 256)
  have b5 := hc (rd cells x)
  have eL : rd lawCyc 13 = 23 := rfl
  unfold Comes
  dsimp only
  rw [hkd]
  refine ⟨_, false, V, 26, q2, q3, some_rg (k_13 H hx hy hsp hc hk) ?_ ?_, bs_13 , ?_, ?_, ?_, ?_, ?_, ?_, ?_⟩
  all_goals (dsimp only; (try simp only [fm256, fm2, fd2, code_42, code_147, code_161]); skip)
  all_goals first | rfl | omega | assumption | exact H.c | exact H.k | (simp only [List.length_set]; first | exact H.c | exact H.k) | (refine rg_ext ?_ ?_ ?_ ?_ ?_ ?_ ?_ ?_ ?_ ?_ <;> (first | rfl | omega | assumption | (simp only [decide_eq_true_eq]; split <;> split <;> first | rfl | omega | contradiction) | (simp only [decide_eq_true_eq]; split <;> first | rfl | omega))) | (first | rfl | omega | assumption | (simp only [decide_eq_true_eq]; split <;> split <;> first | rfl | omega | contradiction) | (simp only [decide_eq_true_eq]; split <;> first | rfl | omega)) | (simp only [decide_eq_true_eq]; rfl) | (simp only [decide_eq_true_eq, ge_iff_le]; done) | (rw [Int.add_comm (rd cells x)]; done) | (rw [Int.add_comm (rd cells x)]; rfl)
theorem pk_14 {w : World} {cells calls page : List Int} {q1 q2 q3 cyc sp a x y : Int} {C Z V N : Bool} (H : Lens cells calls page) (K : Cells cells calls page) (hx : 0 ≤ x ∧ x < 256) (hy : 0 ≤ y ∧ y < 256) (hsp : 0 ≤ sp ∧ sp < 256) (hkd : ((rd page y).fdiv 2).fmod 16 = 14)  : Comes w ⟨cyc, 544, sp, a, x, y, C, Z, V, N⟩ page cells calls q1 q2 q3 := by
  have hc := fun i => bytes K.c i
  have hcl := fun i => bytes K.k i
  have hpg := fun i => bytes K.p i
  have hb := hpg y
  have hk : Builtin.bitAnd (rd page y) 30 = 28 := by
    rw [and30 hb.1 hb.2]
    rw [fm16, fd2] at hkd
    rw [hkd]; rfl
  have b1 := hc x
  have b2 := hc ((x + 1) % 256)
  have b3 := hpg ((y + 1) % 256)
  have b4 := hcl ((sp + 1) % 256)
  have b5 := hc (rd cells x)
  have eL : rd lawCyc 14 = 15 := rfl
  have e14 : sg (rd cells x) / 2 % 256 = rd cells x / 2 + if 128 ≤ rd cells x then 128 else 0 := by
    unfold sg
    split <;> split <;> omega
  unfold Comes
  dsimp only
  rw [hkd]
  refine ⟨_, (decide (rd cells x % 2 = 1)), V, 28, q2, q3, some_rg (k_14 H hx hy hsp hc hk) ?_ ?_, bs_14 , ?_, ?_, ?_, ?_, ?_, ?_, ?_⟩
  all_goals (dsimp only; (try simp only [fm256, fm2, fd2, code_42, code_147, code_161]); (try rw [e14]))
  all_goals first | rfl | omega | assumption | exact H.c | exact H.k | (simp only [List.length_set]; first | exact H.c | exact H.k) | (refine rg_ext ?_ ?_ ?_ ?_ ?_ ?_ ?_ ?_ ?_ ?_ <;> (first | rfl | omega | assumption | (simp only [decide_eq_true_eq]; split <;> split <;> first | rfl | omega | contradiction) | (simp only [decide_eq_true_eq]; split <;> first | rfl | omega))) | (first | rfl | omega | assumption | (simp only [decide_eq_true_eq]; split <;> split <;> first | rfl | omega | contradiction) | (simp only [decide_eq_true_eq]; split <;> first | rfl | omega)) | (simp only [decide_eq_true_eq]; rfl) | (simp only [decide_eq_true_eq, ge_iff_le]; done) | (rw [Int.add_comm (rd cells x)]; done) | (rw [Int.add_comm (rd cells x)]; rfl)
theorem pk_15t {w : World} {cells calls page : List Int} {q1 q2 q3 cyc sp a x y : Int} {C Z V N : Bool} (H : Lens cells calls page) (K : Cells cells calls page) (hx : 0 ≤ x ∧ x < 256) (hy : 0 ≤ y ∧ y < 256) (hsp : 0 ≤ sp ∧ sp < 256) (hkd : ((rd page y).fdiv 2).fmod 16 = 15) (h15 : (rd cells x - 1) % 256 ≠ 0) : Comes w ⟨cyc, 544, sp, a, x, y, C, Z, V, N⟩ page cells calls q1 q2 q3 := by
  have hc := fun i => bytes K.c i
  have hcl := fun i => bytes K.k i
  have hpg := fun i => bytes K.p i
  have hb := hpg y
  have hk : Builtin.bitAnd (rd page y) 30 = 30 := by
    rw [and30 hb.1 hb.2]
    rw [fm16, fd2] at hkd
    rw [hkd]; rfl
  have b1 := hc x
  have b2 := hc ((x + 1) % 256)
  have b3 := hpg ((y + 1) % 256)
  have b4 := hcl ((sp + 1) % 256)
  have b5 := hc (rd cells x)
  have eL : rd lawCyc 15 = 15 := rfl
  unfold Comes
  dsimp only
  rw [hkd]
  refine ⟨_, C, V, 30, q2, q3, some_rg (k_15t H hx hy hsp hc hk h15) ?_ ?_, bs_15t (h15 := by rw [fm256]; exact bne_iff_ne.mpr h15), ?_, ?_, ?_, ?_, ?_, ?_, ?_⟩
  all_goals (dsimp only; (try simp only [fm256, fm2, fd2, code_42, code_147, code_161]); skip)
  all_goals first | rfl | omega | assumption | exact H.c | exact H.k | (simp only [List.length_set]; first | exact H.c | exact H.k) | (refine rg_ext ?_ ?_ ?_ ?_ ?_ ?_ ?_ ?_ ?_ ?_ <;> (first | rfl | omega | assumption | (simp only [decide_eq_true_eq]; split <;> split <;> first | rfl | omega | contradiction) | (simp only [decide_eq_true_eq]; split <;> first | rfl | omega))) | (first | rfl | omega | assumption | (simp only [decide_eq_true_eq]; split <;> split <;> first | rfl | omega | contradiction) | (simp only [decide_eq_true_eq]; split <;> first | rfl | omega)) | (simp only [decide_eq_true_eq]; rfl) | (simp only [decide_eq_true_eq, ge_iff_le]; done) | (rw [Int.add_comm (rd cells x)]; done) | (rw [Int.add_comm (rd cells x)]; rfl)
theorem pk_15f {w : World} {cells calls page : List Int} {q1 q2 q3 cyc sp a x y : Int} {C Z V N : Bool} (H : Lens cells calls page) (K : Cells cells calls page) (hx : 0 ≤ x ∧ x < 256) (hy : 0 ≤ y ∧ y < 256) (hsp : 0 ≤ sp ∧ sp < 256) (hkd : ((rd page y).fdiv 2).fmod 16 = 15) (h15 : (rd cells x - 1) % 256 = 0) : Comes w ⟨cyc, 544, sp, a, x, y, C, Z, V, N⟩ page cells calls q1 q2 q3 := by
  have hc := fun i => bytes K.c i
  have hcl := fun i => bytes K.k i
  have hpg := fun i => bytes K.p i
  have hb := hpg y
  have hk : Builtin.bitAnd (rd page y) 30 = 30 := by
    rw [and30 hb.1 hb.2]
    rw [fm16, fd2] at hkd
    rw [hkd]; rfl
  have b1 := hc x
  have b2 := hc ((x + 1) % 256)
  have b3 := hpg ((y + 1) % 256)
  have b4 := hcl ((sp + 1) % 256)
  have b5 := hc (rd cells x)
  have eL : rd lawCyc 15 = 15 := rfl
  unfold Comes
  dsimp only
  rw [hkd]
  refine ⟨_, C, V, 30, q2, q3, some_rg (k_15f H hx hy hsp hc hk h15) ?_ ?_, bs_15f (h15 := by rw [fm256, h15]; rfl), ?_, ?_, ?_, ?_, ?_, ?_, ?_⟩
  all_goals (dsimp only; (try simp only [fm256, fm2, fd2, code_42, code_147, code_161]); skip)
  all_goals first | rfl | omega | assumption | exact H.c | exact H.k | (simp only [List.length_set]; first | exact H.c | exact H.k) | (refine rg_ext ?_ ?_ ?_ ?_ ?_ ?_ ?_ ?_ ?_ ?_ <;> (first | rfl | omega | assumption | (simp only [decide_eq_true_eq]; split <;> split <;> first | rfl | omega | contradiction) | (simp only [decide_eq_true_eq]; split <;> first | rfl | omega))) | (first | rfl | omega | assumption | (simp only [decide_eq_true_eq]; split <;> split <;> first | rfl | omega | contradiction) | (simp only [decide_eq_true_eq]; split <;> first | rfl | omega)) | (simp only [decide_eq_true_eq]; rfl) | (simp only [decide_eq_true_eq, ge_iff_le]; done) | (rw [Int.add_comm (rd cells x)]; done) | (rw [Int.add_comm (rd cells x)]; rfl)
theorem lt16n : ∀ n : Nat, n < 16 → ((n : Int) = 0 ∨ (n : Int) = 1 ∨ (n : Int) = 2 ∨ (n : Int) = 3 ∨ (n : Int) = 4 ∨ (n : Int) = 5 ∨ (n : Int) = 6 ∨ (n : Int) = 7 ∨ (n : Int) = 8 ∨ (n : Int) = 9 ∨ (n : Int) = 10 ∨ (n : Int) = 11 ∨ (n : Int) = 12 ∨ (n : Int) = 13 ∨ (n : Int) = 14 ∨ (n : Int) = 15) := by decide
theorem lt16 {k : Int} (h0 : 0 ≤ k) (h1 : k < 16) : k = 0 ∨ k = 1 ∨ k = 2 ∨ k = 3 ∨ k = 4 ∨ k = 5 ∨ k = 6 ∨ k = 7 ∨ k = 8 ∨ k = 9 ∨ k = 10 ∨ k = 11 ∨ k = 12 ∨ k = 13 ∨ k = 14 ∨ k = 15 := by
  obtain ⟨n, rfl⟩ := Int.eq_ofNat_of_zero_le h0
  exact lt16n n (Int.ofNat_lt.mp h1)
theorem comes_all {w : World} {page : List Int} (g : Rg) (cells calls : List Int) (q1 q2 q3 : Int) (hpc : g.pc = 544) (W : Wf g) (H : Lens cells calls page) (K : Cells cells calls page) : Comes w g page cells calls q1 q2 q3 := by
  obtain ⟨cyc, pc, sp, a, x, y, C, Z, V, N⟩ := g
  dsimp only at hpc
  subst hpc
  have hx : 0 ≤ x ∧ x < 256 := ⟨W.x0, W.x1⟩
  have hy : 0 ≤ y ∧ y < 256 := ⟨W.y0, W.y1⟩
  have hsp : 0 ≤ sp ∧ sp < 256 := ⟨W.s0, W.s1⟩
  have h16 := fm16 ((rd page y).fdiv 2)
  obtain ⟨kd, hkd⟩ : ∃ kd, kd = ((rd page y).fdiv 2).fmod 16 := ⟨_, rfl⟩
  rw [← hkd] at h16
  have hc := lt16 (k := kd) (by omega) (by omega)
  rcases hc with rfl | rfl | rfl | rfl | rfl | rfl | rfl | rfl | rfl | rfl | rfl | rfl | rfl | rfl | rfl | rfl
  · exact pk_0 H K hx hy hsp hkd.symm
  · exact pk_1 H K hx hy hsp hkd.symm
  · exact pk_2 H K hx hy hsp hkd.symm
  · exact pk_3 H K hx hy hsp hkd.symm
  · exact pk_4 H K hx hy hsp hkd.symm
  · exact pk_5 H K hx hy hsp hkd.symm
  · exact pk_6 H K hx hy hsp hkd.symm
  · exact pk_7 H K hx hy hsp hkd.symm
  · by_cases h8 : rd cells x = 0
    · exact pk_8t H K hx hy hsp hkd.symm h8
    · exact pk_8f H K hx hy hsp hkd.symm h8
  · exact pk_9 H K hx hy hsp hkd.symm
  · exact pk_10 H K hx hy hsp hkd.symm
  · exact pk_11 H K hx hy hsp hkd.symm
  · exact pk_12 H K hx hy hsp hkd.symm
  · exact pk_13 H K hx hy hsp hkd.symm
  · exact pk_14 H K hx hy hsp hkd.symm
  · by_cases h15 : (rd cells x - 1) % 256 = 0
    · exact pk_15f H K hx hy hsp hkd.symm h15
    · exact pk_15t H K hx hy hsp hkd.symm h15
end
section
open PySem PySem.W PySem.Calls PyProof.Rows
set_option maxRecDepth 100000
set_option maxHeartbeats 4000000
section
local macro_rules | `(tactic| kn_code) => `(tactic| k_extra "q11")
local macro_rules | `(tactic| k_is) => `(tactic| k_extra "q25")
theorem asg0 {w : World} {h₀ : Heap} {L fa : Addr} {cd : Value} {mg mb : Str → Option Value} {p : Program} {loose : List Str} {mean : ExcName → Option Value} {s : Shared} {news : List (Addr × Obj)} {m : Str → Option Value} {Q : Flow → Shared → Prop} {E : Value → Shared → Prop} (S : Sur w h₀ mg mb p loose mean) (F : Fr h₀ L s.heap m) (N : News h₀ L s.heap news)
    (k : ∀ h' tk t, Fr h₀ L h' (fun y => if y = "steps" then some (.int 0 t) else m y) → News h₀ L h' news → Q .next { s with heap := h', toks := tk }) :
    wpAny (model PySem.Challenge.rw_im0103_01.row.prog w) (lawA L fa cd) (exec (turnBody.getD 0 sPass) (lawEnv L fa cd)) Q E s := by
  obtain ⟨B, X, T, hch⟩ := S
  have hA := lawA_frames L fa cd
  have hroom := lawA_room L fa cd
  have hu := lawA_units L fa cd
  show wpAny _ (callerA.deeper (envOf _ ⟨_, _, _, _, _⟩ _ _ _)) (exec (.Assign _ _ _) (envOf _ ⟨_, _, _, _, _⟩ _ _ _)) _ _ _
  w_strict (skip; k_steps)
  exact k _ _ _ (by assumption) (by assumption)
theorem clean {h₀ h : Heap} {L : Addr} {I : Im} {J : Lw} {g : Rg} {ex : Int} {ad : Value} {t : Tk} {vs pvs fvs cvs avs : List Value} {ct : Array Value} {more rest : List (Addr × Obj)} (N : News h₀ L h (led I g ex ad t vs ++ (80, tabObj ct) :: (more ++ (lwl J pvs fvs cvs avs ++ rest)))) (tab : Tab ct (more ++ (lwl J pvs fvs cvs avs ++ rest))) (off : OwnOff (more ++ (lwl J pvs fvs cvs avs ++ rest)) [I.x, I.d, I.r, 80]) (offr : OwnOff rest [I.x, I.d, I.r, 80, J.pg, J.fs, J.cl, J.ca]) :
    ∃ rest', (∀ q ∈ rest, q ∈ rest') ∧ Tab ct rest' ∧ OwnOff rest' [I.x, I.d, I.r, 80, J.pg, J.fs, J.cl, J.ca] ∧ News h₀ L h (led I g ex ad t vs ++ (lwl J pvs fvs cvs avs ++ (80, tabObj ct) :: rest')) := by
  refine ⟨more.filter (fun q => decide (q.1 ≠ J.pg ∧ q.1 ≠ J.fs ∧ q.1 ≠ J.cl ∧ q.1 ≠ J.ca)) ++ rest, fun q hq => List.mem_append_right _ hq, ?_, ?_, ?_⟩
  · rcases tab with h | ⟨c, oc, vs', t', e, hm, hd, hv⟩
    · exact .inl h
    · refine .inr ⟨c, oc, vs', t', e, ?_, hd, hv⟩
      have hall : ∀ q : Addr × Obj, q ∈ more ++ (lwl J pvs fvs cvs avs ++ rest) → h.get? q.1 = some q.2 := fun q hq => (N q (List.mem_append_right _ (.tail _ hq))).1
      have key : ∀ (a : Addr) (xs : List Value), (a, listOf xs.toArray 0) ∈ lwl J pvs fvs cvs avs → c ≠ a := by
        rintro a xs ha rfl
        have h1 := hall _ hm
        have h2 := hall (c, listOf xs.toArray 0) (List.mem_append_right _ (List.mem_append_left _ ha))
        have h3 : some oc = some (listOf xs.toArray 0) := h1.symm.trans h2
        cases h3
        cases hd
      have k1 := key J.pg pvs (.head _)
      have k2 := key J.fs fvs (.tail _ (.head _))
      have k3 := key J.cl cvs (.tail _ (.tail _ (.head _)))
      have k4 := key J.ca avs (.tail _ (.tail _ (.tail _ (.head _))))
      rcases List.mem_append.mp hm with hm | hm
      · exact List.mem_append_left _ (List.mem_filter.mpr ⟨hm, decide_eq_true ⟨k1, k2, k3, k4⟩⟩)
      · rcases List.mem_append.mp hm with hm | hm
        · simp only [lwl, List.mem_cons, Prod.mk.injEq, List.not_mem_nil, or_false] at hm
          rcases hm with h | h | h | h
          · exact absurd h.1 k1
          · exact absurd h.1 k2
          · exact absurd h.1 k3
          · exact absurd h.1 k4
        · exact List.mem_append_right _ hm
  · intro q hq b hb
    rcases List.mem_append.mp hq with hq | hq
    · obtain ⟨hq1, hq2⟩ := List.mem_filter.mp hq
      have hq3 := of_decide_eq_true hq2
      have ho := off q (List.mem_append_left _ hq1)
      simp only [List.mem_cons, List.not_mem_nil, or_false] at hb
      rcases hb with rfl | rfl | rfl | rfl | rfl | rfl | rfl | rfl
      · exact ho _ (by simp)
      · exact ho _ (by simp)
      · exact ho _ (by simp)
      · exact ho _ (by simp)
      · exact hq3.1
      · exact hq3.2.1
      · exact hq3.2.2.1
      · exact hq3.2.2.2
    · exact offr q hq b hb
  · refine news_sub N fun q hq => ?_
    rcases List.mem_append.mp hq with hq | hq
    · exact List.mem_append_left _ hq
    · rcases List.mem_append.mp hq with hq | hq
      · exact List.mem_append_right _ (.tail _ (List.mem_append_right _ (List.mem_append_left _ hq)))
      · rcases List.mem_cons.mp hq with rfl | hq
        · exact List.mem_append_right _ (.head _)
        · rcases List.mem_append.mp hq with hq | hq
          · exact List.mem_append_right _ (.tail _ (List.mem_append_left _ (List.mem_filter.mp hq).1))
          · exact List.mem_append_right _ (.tail _ (List.mem_append_right _ (List.mem_append_right _ hq)))
/-- between the turns -/
inductive TInv (I : Im) (J : Lw) (page : List Int) (m : Str → Option Value) : List (Addr × Obj) → Prop
  | mk (g : Rg) (ex : Int) (ad : Value) (t : Tk) (vs pvs fvs cvs avs : List Value) (cells calls : List Int) (q1 q2 q3 : Int) (ct : Array Value) (rest : List (Addr × Obj)) (t1 t2 t3 t4 t5 t6 : Tok)
    (hm : ∀ q ∈ ([("page", .ref J.pg), ("first", .ref J.fs), ("cells", .ref J.cl), ("calls", .ref J.ca), ("mpu", .ref I.x), ("ram", .ref I.r), ("x", .int g.x t1), ("y", .int g.y t2), ("sp", .int g.sp t3), ("carry", .int (if g.C then 1 else 0) t4), ("over", .int (if g.V then 1 else 0) t5), ("cycles", .int g.cyc t6)] : List (Str × Value)), m q.1 = some q.2) (hpc : g.pc = 544) (W : Wf g) (hi : IntsAre vs (mem cells calls q1 q2 q3 page)) (ip : IntsAre pvs page) (jf : IntsAre fvs (code q1 q2 q3)) (ic : IntsAre cvs cells) (ia : IntsAre avs calls) (H : Lens cells calls page) (M : Mem (mem cells calls q1 q2 q3 page)) (off : OwnOff rest [I.x, I.d, I.r, 80, J.pg, J.fs, J.cl, J.ca]) (tab : Tab ct rest) :
    TInv I J page m (led I g ex ad t vs ++ (lwl J pvs fvs cvs avs ++ (80, tabObj ct) :: rest))
theorem turn_split : turnBody = turnBody.getD 0 sPass :: theWhile :: (preStmts ++ (ifStmt :: tailStmts)) := by rfl
theorem mrun_wf {n : Nat} : ∀ {g gF : Rg} {ns nsF : List Int}, Wf g → Mem ns → mrun n g ns = some (gF, nsF) → Wf gF ∧ Mem nsF := by
  induction n with
  | zero => intro g gF ns nsF _ _ h; exact (mrun_zero h).elim
  | succ n ih =>
    intro g gF ns nsF W M h
    obtain ⟨g1, ns1, hm, hc⟩ := mrun_step h
    obtain ⟨W1, M1⟩ := mstep_wf W M hm
    rcases hc with ⟨_, h2⟩ | ⟨_, rfl, rfl⟩
    · exact ih W1 M1 h2
    · exact ⟨W1, M1⟩
theorem Tab.up {ct : Array Value} {l l' : List (Addr × Obj)} (h : Tab ct l) (s : ∀ q ∈ l, q ∈ l') : Tab ct l' := by
  rcases h with h | ⟨c, oc, vs', t', e, hm, hd, hv⟩
  · exact .inl h
  · exact .inr ⟨c, oc, vs', t', e, s _ hm, hd, hv⟩
theorem Tab.filt {h₀ h : Heap} {L It : Addr} {io : Obj} {ct : Array Value} {l : List (Addr × Obj)} (tab : Tab ct l) (N : News h₀ L h l) (hit : (It, io) ∈ l) (hio : ∀ vs, io.data = .fields vs → ∀ x t, vs[1]? ≠ some (.str x t)) : Tab ct (l.filter fun q => decide (q.1 ≠ It)) := by
  rcases tab with h | ⟨c, oc, vs', t', e, hm, hd, hv⟩
  · exact .inl h
  · refine .inr ⟨c, oc, vs', t', e, List.mem_filter.mpr ⟨hm, decide_eq_true ?_⟩, hd, hv⟩
    rintro rfl
    have h3 : some oc = some io := (N _ hm).1.symm.trans (N _ hit).1
    cases h3
    exact hio _ hd _ _ hv
theorem it_off {I : Im} {J : Lw} {It : Addr} {g : Rg} {ex : Int} {ad : Value} {t : Tk} {vs pvs fvs cvs avs : List Value} {ct : Array Value} {l : List (Addr × Obj)} (hIt : ∀ b ∈ [I.x, I.d, I.r, 80, J.pg, J.fs, J.cl, J.ca], It ≠ b) : ∀ q ∈ led I g ex ad t vs ++ (lwl J pvs fvs cvs avs ++ (80, tabObj ct) :: l.filter (fun q => decide (q.1 ≠ It))), q.1 ≠ It :=
  fm_cons (hIt _ (.head _)).symm (fm_cons (hIt _ (.tail _ (.head _))).symm (fm_cons (hIt _ (.tail _ (.tail _ (.head _)))).symm (fm_cons (hIt _ (.tail _ (.tail _ (.tail _ (.tail _ (.head _)))))).symm (fm_cons (hIt _ (.tail _ (.tail _ (.tail _ (.tail _ (.tail _ (.head _))))))).symm (fm_cons (hIt _ (.tail _ (.tail _ (.tail _ (.tail _ (.tail _ (.tail _ (.head _)))))))).symm (fm_cons (hIt _ (.tail _ (.tail _ (.tail _ (.tail _ (.tail _ (.tail _ (.tail _ (.head _))))))))).symm (fm_cons (hIt _ (.tail _ (.tail _ (.tail _ (.head _))))).symm fun q hq => of_decide_eq_true (List.mem_filter.mp hq).2)))))))
noncomputable def chgW : List Str := ["steps", "mpu", "turn"]
theorem mW_get {I : Im} {m : Str → Option Value} {tv : Value} {ts tj : Tok} {j : Int} {y : Str} {v : Value} (hy : m y = some v) (n : chgW.contains y = false) : mW I (fun y => if y = "steps" then some (.int 0 ts) else if y = "turn" then some tv else m y) j tj y = some v := by
  rw [Bool.eq_false_iff, Ne, List.contains_iff_mem] at n
  simp only [chgW, List.mem_cons, List.not_mem_nil, or_false, not_or] at n
  obtain ⟨n1, n2, n3⟩ := n
  exact (if_neg n1).trans ((if_neg n2).trans ((if_neg n1).trans ((if_neg n3).trans hy)))
theorem mW_mpu {I : Im} {m : Str → Option Value} {j : Int} {tj : Tok} : mW I m j tj "mpu" = some (.ref I.x) := (if_neg (by decide)).trans (if_pos rfl)
theorem sub_a4 {I : Im} {J : Lw} : ∀ b ∈ ([I.x, I.d, I.r, 80] : List Addr), b ∈ ([I.x, I.d, I.r, 80, J.pg, J.fs, J.cl, J.ca] : List Addr) := fm_cons (.head _) (fm_cons (.tail _ (.head _)) (fm_cons (.tail _ (.tail _ (.head _))) (fm_cons (.tail _ (.tail _ (.tail _ (.head _)))) fm_nil)))
theorem sub_a7 {I : Im} {J : Lw} : ∀ b ∈ ([I.x, I.d, I.r, J.pg, J.fs, J.cl, J.ca] : List Addr), b ∈ ([I.x, I.d, I.r, 80, J.pg, J.fs, J.cl, J.ca] : List Addr) := fm_cons (.head _) (fm_cons (.tail _ (.head _)) (fm_cons (.tail _ (.tail _ (.head _))) fun q hq => .tail _ (.tail _ (.tail _ (.tail _ hq)))))
theorem sub_a3 {I : Im} : ∀ b ∈ ([I.x, I.d, I.r] : List Addr), b ∈ ([I.x, I.d, I.r, 80] : List Addr) := fm_cons (.head _) (fm_cons (.tail _ (.head _)) (fm_cons (.tail _ (.tail _ (.head _))) fm_nil))
theorem sub_b3 {I : Im} {J : Lw} : ∀ b ∈ ([I.x, I.d, I.r] : List Addr), b ∈ ([I.x, I.d, I.r, J.pg, J.fs, J.cl, J.ca] : List Addr) := fm_cons (.head _) (fm_cons (.tail _ (.head _)) (fm_cons (.tail _ (.tail _ (.head _))) fm_nil))
theorem turn_ok {w : World} {h₀ : Heap} {L fa : Addr} {cd : Value} {mg mb : Str → Option Value} {p : Program} {loose : List Str} {mean : ExcName → Option Value} {s : Shared} {I : Im} {J : Lw} {page : List Int} {It : Addr} {io : Obj} {tv : Value} {news : List (Addr × Obj)} {m : Str → Option Value} {Q : Flow → Shared → Prop} {E : Value → Shared → Prop}
    (S : Sur w h₀ mg mb p loose mean) (O : LwOff I J) (h80 : @LT.lt Nat _ 80 J.pg) (hE : PassesOwn (model PySem.Challenge.rw_im0103_01.row.prog w) (lawA L fa cd) (lawEnv L fa cd) E)
    (all : ∀ (g : Rg) (cells calls : List Int) (q1 q2 q3 : Int), g.pc = 544 → Wf g → Lens cells calls page → Cells cells calls page → Comes w g page cells calls q1 q2 q3)
    (hio : ∀ vs, io.data = .fields vs → ∀ x t, vs[1]? ≠ some (.str x t)) (hIt : ∀ b ∈ [I.x, I.d, I.r, 80, J.pg, J.fs, J.cl, J.ca], It ≠ b)
    (hT : TInv I J page m news) (hoff : ∀ q ∈ news, q.1 ≠ It)
    (F : Fr h₀ L s.heap (fun y => if y = "turn" then some tv else m y)) (N : News h₀ L s.heap ((It, io) :: news))
    (k : ∀ m' news' h' tk, TInv I J page m' news' → (∀ q ∈ news', q.1 ≠ It) → Fr h₀ L h' m' → News h₀ L h' ((It, io) :: news') → Q .next { s with heap := h', toks := tk }) :
    wpAny (model PySem.Challenge.rw_im0103_01.row.prog w) (lawA L fa cd) (execs turnBody (lawEnv L fa cd)) Q E s := by
  obtain ⟨g, ex, ad, t, vs, pvs, fvs, cvs, avs, cells, calls, q1, q2, q3, ct, rest, t1, t2, t3, t4, t5, t6, hm, hpc, W, hi, ip, jf, ic, ia, H, M, off, tab⟩ := hT
  have K := cells_of M
  obtain ⟨o, C', V', q1', q2', q3', hrun, hbr, oC, oV, o0, o1, oF, oL1, oL2⟩ := all g cells calls q1 q2 q3 hpc W H K
  obtain ⟨WF, MF⟩ := mrun_wf W M hrun
  have f1 : m "page" = some (.ref J.pg) := hm _ (.head _)
  have f2 : m "first" = some (.ref J.fs) := hm _ (.tail _ (.head _))
  have f3 : m "cells" = some (.ref J.cl) := hm _ (.tail _ (.tail _ (.head _)))
  have f4 : m "calls" = some (.ref J.ca) := hm _ (.tail _ (.tail _ (.tail _ (.head _))))
  have f6 : m "ram" = some (.ref I.r) := hm _ (.tail _ (.tail _ (.tail _ (.tail _ (.tail _ (.head _))))))
  have hmp : m "mpu" = some (.ref I.x) := hm _ (.tail _ (.tail _ (.tail _ (.tail _ (.head _)))))
  have mi : ∀ {l : List (Str × Value)}, (∀ q ∈ l, m q.1 = some q.2) → ∀ q ∈ l.drop 6, m q.1 = some q.2 := fun h q hq => h q (List.mem_of_mem_drop hq)
  replace hm := mi hm
  clear mi
  replace hm : ∀ q ∈ ([("x", .int g.x t1), ("y", .int g.y t2), ("sp", .int g.sp t3), ("carry", .int (if g.C then 1 else 0) t4), ("over", .int (if g.V then 1 else 0) t5), ("cycles", .int g.cyc t6)] : List (Str × Value)), m q.1 = some q.2 := hm
  have n80 : (80 : Nat) ≠ I.x ∧ (80 : Nat) ≠ I.d ∧ (80 : Nat) ≠ I.r := ⟨Nat.ne_of_lt (lw_80_x O h80), Nat.ne_of_lt (lw_80_d O h80), Nat.ne_of_lt (lw_80_r O h80)⟩
  have ap : Apart I := ⟨O.h6, lw_r_d O⟩
  have offI : OwnOff ((It, io) :: rest) [I.x, I.d, I.r, 80, J.pg, J.fs, J.cl, J.ca] := own_cons hIt off
  rw [turn_split]
  refine wpAny_execs_cons (asg0 S F (news_w N) fun h2 tk2 ts F2 N2 => ?_)
  refine wpAny_execs_cons (while_ok (m := fun y => if y = "steps" then some (.int 0 ts) else if y = "turn" then some tv else m y) S ap n80 ⟨hi, M, W, own_app (lw_own4 O h80) (own_sub offI sub_a4), tab.up fun q hq => List.mem_append_right _ (.tail _ hq)⟩ hrun hE F2 rfl ((if_neg (by decide)).trans ((if_neg (by decide)).trans hmp)) N2 fun ex3 ad3 t3' vs3 ct3 more j tj h3 tk3 C3 F3 N3 => ?_)
  obtain ⟨rest3, hsub, tab3, off3, N3'⟩ := clean N3 C3.tab C3.off offI
  have offX : OwnOff ((80, tabObj ct3) :: rest3) [I.x, I.d, I.r, J.pg, J.fs, J.cl, J.ca] := own_cons (lw_80 O h80) (own_sub off3 sub_a7)
  clear N3 N2 F2 N F offI hi
  have hb1 := bytes K.p ((g.y + 1) % 256)
  have hcx := bytes K.c g.x
  have hcu := bytes K.c ((g.x + 1) % 256)
  refine wpAny_execs_app (pre_ok (m := mW I (fun y => if y = "steps" then some (.int 0 ts) else if y = "turn" then some tv else m y) j tj) S O offX F3 (fm_cons (mW_get f1 rfl) (fm_cons (mW_get f2 rfl) (fm_cons (mW_get f3 rfl) (fm_cons (mW_get (hm _ (.head _)) rfl) (fm_cons (mW_get (hm _ (.tail _ (.head _))) rfl) (fm_cons (mW_get (hm _ (.tail _ (.tail _ (.tail _ (.tail _ (.tail _ (.head _))))))) rfl) fm_nil)))))) ip jf ic ia H.p rfl H.c K.p W.x0 W.x1 W.y0 W.y1 N3' fun m4 h4 tk4 t4 pvs4 fvs4 cvs4 avs4 u1 u2 u3 u4 u5 u6 u7 u8 u9 ip4 jf4 ic4 ia4 fs4 e4 F4 N4 => ?_)
  have g4 : ∀ {y : Str} {v : Value}, m y = some v → chgW.contains y = false → chgP.contains y = false → m4 y = some v := fun hy n1 n2 => (e4 _ n2).trans (mW_get hy n1)
  have f5m : m4 "mpu" = some (.ref I.x) := (e4 _ rfl).trans mW_mpu
  clear e4 F3 N3' ip jf ic ia
  refine wpAny_execs_cons (hbr S O offX F4 (fm_cons (fs4 _ (.head _)) (fm_cons (fs4 _ (.tail _ (.head _))) (fm_cons (g4 (hm _ (.head _)) rfl rfl) (fm_cons (fs4 _ (.tail _ (.tail _ (.head _)))) (fm_cons (g4 (hm _ (.tail _ (.tail _ (.head _)))) rfl rfl) (fm_cons (fs4 _ (.tail _ (.tail _ (.tail _ (.head _))))) (fm_cons (fs4 _ (.tail _ (.tail _ (.tail _ (.tail _ (.head _)))))) (fm_cons (fs4 _ (.tail _ (.tail _ (.tail _ (.tail _ (.tail _ (.head _))))))) (fm_cons (fs4 _ (.tail _ (.tail _ (.tail _ (.tail _ (.tail _ (.tail _ (.head _)))))))) (fm_cons (fs4 _ (.tail _ (.tail _ (.tail _ (.tail _ (.tail _ (.tail _ (.tail _ (.head _))))))))) (fm_cons (fs4 _ (.tail _ (.tail _ (.tail _ (.tail _ (.tail _ (.tail _ (.tail _ (.tail _ (.head _)))))))))) (fm_cons (g4 (hm _ (.tail _ (.tail _ (.tail _ (.head _))))) rfl rfl) (fm_cons (g4 (hm _ (.tail _ (.tail _ (.tail _ (.tail _ (.head _)))))) rfl rfl) (fm_cons (g4 f1 rfl rfl) (fm_cons (g4 f2 rfl rfl) (fm_cons (g4 f3 rfl rfl) (fm_cons (g4 f4 rfl rfl) fm_nil))))))))))))))))) ip4 jf4 ic4 ia4 H.p rfl H.c H.k W.x0 W.x1 (by rw [fm256]; omega) (by rw [fm256]; omega) W.s0 W.s1 (by rw [fm256]; omega) (by rw [fm256]; omega) (by rw [fm256]; omega) (by rw [fm256]; omega) hcx.1 hcx.2 (by rw [fm256]; exact hcu.1) (by rw [fm256]; exact hcu.2) N4 fun m5 h5 tk5 t5 pvs5 fvs5 cvs5 avs5 w0 w1 w2 w3 w4 w5 w6 w7 ip5 jf5 ic5 ia5 fs5 e5 F5 N5 => ?_)
  have g5 : ∀ {y : Str} {v : Value}, m y = some v → chgW.contains y = false → chgP.contains y = false → chg.contains y = false → m5 y = some v := fun hy n1 n2 n3 => (e5 _ n3).trans (g4 hy n1 n2)
  have f5n : m5 "mpu" = some (.ref I.x) := (e5 _ rfl).trans f5m
  clear g4 e5 f5m F4 N4 fs4 hbr hcx hcu hb1 hm
  refine tail_ok (g := ⟨o.cycles, 544, o.sp, o.a, o.x, o.y, C', decide (o.told = 0), V', decide (128 ≤ o.told)⟩) (t := t5) S ap (rest := lwl J pvs5 fvs5 cvs5 avs5 ++ (80, tabObj ct3) :: rest3) (own_app (own_sub (lw_own4 O h80) sub_a3) (own_sub offX sub_b3)) F5 (fm_cons (fs5 _ (.tail _ (.tail _ (.tail _ (.tail _ (.head _)))))) (fm_cons (fs5 _ (.tail _ (.tail _ (.tail _ (.tail _ (.tail _ (.tail _ (.tail _ (.head _))))))))) (fm_cons (fs5 _ (.tail _ (.tail _ (.tail _ (.tail _ (.tail _ (.head _))))))) (fm_cons f5n (fm_cons (fs5 _ (.head _)) (fm_cons (fs5 _ (.tail _ (.head _))) (fm_cons (fs5 _ (.tail _ (.tail _ (.head _)))) (fm_cons (fs5 _ (.tail _ (.tail _ (.tail _ (.head _))))) (fm_cons (fs5 _ (.tail _ (.tail _ (.tail _ (.tail _ (.tail _ (.tail _ (.head _)))))))) fm_nil))))))))) oC oV rfl rfl rfl o0 o1 N5 fun m6 h6 tk6 e6 F6 N6 => ?_
  have e7 : ∀ y : Str, (y == "p") = false → m6 y = m5 y := fun y h => e6 y (beq_eq_false_iff_ne.mp h)
  have N7 : News h₀ L h6 rest3 := fun q hq => N6 q (List.mem_append_right _ (List.mem_append_right _ (.tail _ hq)))
  refine k m6 _ h6 tk6 (TInv.mk ⟨o.cycles, 544, o.sp, o.a, o.x, o.y, C', decide (o.told = 0), V', decide (128 ≤ o.told)⟩ ex3 ad3 t5 vs3 pvs5 fvs5 cvs5 avs5 o.cells o.calls q1' q2' q3' ct3 (rest3.filter fun q => decide (q.1 ≠ It)) w1 w2 w3 w4 w5 w6 (fm_cons ((e7 _ rfl).trans (g5 f1 rfl rfl rfl)) (fm_cons ((e7 _ rfl).trans (g5 f2 rfl rfl rfl)) (fm_cons ((e7 _ rfl).trans (g5 f3 rfl rfl rfl)) (fm_cons ((e7 _ rfl).trans (g5 f4 rfl rfl rfl)) (fm_cons ((e7 _ rfl).trans f5n) (fm_cons ((e7 _ rfl).trans (g5 f6 rfl rfl rfl)) (fm_cons ((e7 _ rfl).trans (fs5 _ (.tail _ (.head _)))) (fm_cons ((e7 _ rfl).trans (fs5 _ (.tail _ (.tail _ (.head _))))) (fm_cons ((e7 _ rfl).trans (fs5 _ (.tail _ (.tail _ (.tail _ (.head _)))))) (fm_cons ((e7 _ rfl).trans (oC ▸ fs5 _ (.tail _ (.tail _ (.tail _ (.tail _ (.head _))))))) (fm_cons ((e7 _ rfl).trans (oV ▸ fs5 _ (.tail _ (.tail _ (.tail _ (.tail _ (.tail _ (.head _)))))))) (fm_cons ((e7 _ rfl).trans (fs5 _ (.tail _ (.tail _ (.tail _ (.tail _ (.tail _ (.tail _ (.head _))))))))) fm_nil)))))))))))) rfl WF C3.hi ip5 (oF ▸ jf5) ic5 ia5 ⟨oL1, oL2, H.p⟩ MF (fun q hq => off3 q (List.mem_filter.mp hq).1) (tab3.filt N7 (hsub _ (.head _)) hio)) (it_off hIt) F6 (news_z N6 (hsub _ (.head _)))
end
end
section
open PySem PySem.W PySem.Calls PyProof.Rows
set_option maxRecDepth 100000
set_option maxHeartbeats 4000000
theorem news_k2 {h₀ h : Heap} {L : Addr} {a b c : Addr × Obj} (N : News h₀ L h [a, b, c]) : News h₀ L h [a, c] := by
  refine news_sub N fun p hp => ?_
  simp only [List.mem_cons] at hp ⊢
  rcases hp with h | h | h <;> simp [h] at *
theorem news_k3 {h₀ h : Heap} {L : Addr} {a b c d : Addr × Obj} (N : News h₀ L h [a, b, c, d]) : News h₀ L h [a, d] := by
  refine news_sub N fun p hp => ?_
  simp only [List.mem_cons] at hp ⊢
  rcases hp with h | h | h <;> simp [h] at *
theorem news_k2b {h₀ h : Heap} {L : Addr} {a b c d : Addr × Obj} (N : News h₀ L h [a, b, c, d]) : News h₀ L h [a, d] := news_k3 N
theorem fdiv_facts {n : Nat} (h : 0 < n) : 0 ≤ Int.fdiv 256 (n : Int) ∧ Int.fdiv 256 (n : Int) ≤ 256 ∧ 256 < (n : Int) * (Int.fdiv 256 (n : Int) + 1) := by
  have e : Int.fdiv 256 (n : Int) = ((256 / n : Nat) : Int) := by
    rw [Int.fdiv_eq_ediv_of_nonneg _ (by omega)]; rfl
  have d := Nat.div_add_mod 256 n
  have l := Nat.mod_lt 256 h
  have m1 : 256 / n ≤ 256 := Nat.div_le_self _ _
  rw [e]
  refine ⟨Int.natCast_nonneg _, by omega, ?_⟩
  have e2 : (n : Int) * (((256 / n : Nat) : Int) + 1) = ((n * (256 / n) + n : Nat) : Int) := by
    rw [Int.mul_add, Int.mul_one, Int.natCast_add, Int.natCast_mul]
  rw [e2]
  omega
theorem ite_lit_t {c : Bool} {P Q : Prop} (h : c = true) (k : P) : if c = true then P else Q := by rw [if_pos h]; exact k
theorem ite_lit_f {c : Bool} {P Q : Prop} (h : c = false) (k : Q) : if c = true then P else Q := by rw [if_neg (by rw [h]; decide)]; exact k
section
local macro_rules | `(tactic| kn_code) => `(tactic| k_extra "q11")
local macro_rules | `(tactic| k_is) => `(tactic| k_extra "q25")
local macro_rules | `(tactic| walk_at "ite") => `(tactic| k_extra "q26")
local macro_rules | `(tactic| walk_at "exec If") => `(tactic| k_extra "q27")
local macro_rules | `(tactic| walk_at "binaryOp Mult ref int") => `(tactic| k_extra "q28")
local macro_rules | `(tactic| kmk_size) => `(tactic| k_extra "q29")
theorem pro1 {w : World} {h₀ : Heap} {L fa : Addr} {cd : Value} {mg mb : Str → Option Value} {p : Program} {loose : List Str} {mean : ExcName → Option Value} {s : Shared} {a : Addr} {sv : List Value} {script : List Int} {m : Str → Option Value} {Q : Flow → Shared → Prop} {E : Value → Shared → Prop}
    (S : Sur w h₀ mg mb p loose mean) (F : Fr h₀ L s.heap m) (hm : ∀ q ∈ ([("script", .ref a)] : List (Str × Value)), m q.1 = some q.2) (hl : h₀.IsList a sv.toArray) (hi : IntsAre sv script) (hlay : (PyData.list (script.map PyData.int)).layable0 = true) (hlen : ¬ ((63 : Nat) : Int) < (script.length : Int))
    (N : News h₀ L s.heap [(80, tabObj #[])])
    (k : ∀ m' h' tk (D : Addr) (n : Nat) (dvs : List Value) (ds : List Int), IntsAre dvs ds → 0 < ds.length → ds.length ≤ 24 → (∀ b ∈ ds, 0 ≤ b ∧ b < 256) → (∀ q ∈ ([("draws", .ref D)] : List (Str × Value)), m' q.1 = some q.2) → (∀ z : Str, z ≠ "draws" → m' z = m z) → Fr h₀ L h' m' → News h₀ L h' [(D, listOf dvs.toArray n), (80, tabObj #[])] → Q .next { s with heap := h', toks := tk }) :
    wpAny (model PySem.Challenge.rw_im0103_01.row.prog w) (lawA L fa cd) (exec (lawBody.getD 0 sPass) (lawEnv L fa cd)) Q E s := by
  obtain ⟨B, X, T, hch⟩ := S
  have hA := lawA_frames L fa cd
  have hroom := lawA_room L fa cd
  have hu := lawA_units L fa cd
  have e0 := kstB_self hm
  rw [← e0] at F
  dsimp only [kstB] at F
  show wpAny _ (callerA.deeper (envOf _ ⟨_, _, _, _, _⟩ _ _ _)) (exec (.Assign _ _ _) (envOf _ ⟨_, _, _, _, _⟩ _ _ _)) _ _ _
  w_strict (skip; k_steps)
  all_goals (
    rename News h₀ L _ _ => kN
    rename Fr h₀ L _ _ => kF)
  · rename 0 < _ => hpos
    rename IntsAre ys _ => kI
    rename (_ : Nat) ≠ _ ∧ (80 : Nat) ≠ _ => hne
    refine k _ _ _ _ _ ys _ kI hpos (by rw [List.length_map, List.length_take]; omega) (fun b hb => ?_) (by repeat' (first | exact fm_nil | refine fm_cons rfl ?_)) (fun z n1 => ?_) kF (news_k2 kN)
    · obtain ⟨v, _, rfl⟩ := List.mem_map.mp hb
      rw [Int.fmod_eq_emod_of_nonneg _ (by decide)]
      omega
    · have ez := congrFun e0 z
      dsimp only [kstB] at ez
      simp only [n1, if_false] at ez ⊢
      exact ez
  · refine k _ _ _ _ _ [_] [0] (.cons _ _ .nil) (by decide) (by decide) (by decide) (by repeat' (first | exact fm_nil | refine fm_cons rfl ?_)) (fun z n1 => ?_) kF (news_k3 kN)
    have ez := congrFun e0 z
    dsimp only [kstB] at ez
    simp only [n1, if_false] at ez ⊢
    exact ez
theorem pro2 {w : World} {h₀ : Heap} {L fa : Addr} {cd : Value} {mg mb : Str → Option Value} {p : Program} {loose : List Str} {mean : ExcName → Option Value} {s : Shared} {D : Addr} {n : Nat} {dvs : List Value} {ds : List Int} {rest : List (Addr × Obj)} {m : Str → Option Value} {Q : Flow → Shared → Prop} {E : Value → Shared → Prop}
    (S : Sur w h₀ mg mb p loose mean) (F : Fr h₀ L s.heap m) (hm : ∀ q ∈ ([("draws", .ref D)] : List (Str × Value)), m q.1 = some q.2) (hi : IntsAre dvs ds) (l0 : 0 < ds.length) (l1 : ds.length ≤ 24) (bd : ∀ b ∈ ds, 0 ≤ b ∧ b < 256)
    (N : News h₀ L s.heap [(D, listOf dvs.toArray n), (80, tabObj #[])])
    (k : ∀ m' h' tk (pg : Addr) (pvs : List Value) (page : List Int), IntsAre pvs page → page.length = 256 → (∀ b ∈ page, 0 ≤ b ∧ b < 256) → @LT.lt Nat _ 80 pg → (∀ q ∈ ([("page", .ref pg)] : List (Str × Value)), m' q.1 = some q.2) → (∀ z : Str, z ≠ "page" → m' z = m z) → Fr h₀ L h' m' → News h₀ L h' [(pg, listOf pvs.toArray 0), (80, tabObj #[])] → Q .next { s with heap := h', toks := tk }) :
    wpAny (model PySem.Challenge.rw_im0103_01.row.prog w) (lawA L fa cd) (exec (lawBody.getD 1 sPass) (lawEnv L fa cd)) Q E s := by
  obtain ⟨B, X, T, hch⟩ := S
  have hA := lawA_frames L fa cd
  have hroom := lawA_room L fa cd
  have hu := lawA_units L fa cd
  have e0 := kstB_self hm
  rw [← e0] at F
  dsimp only [kstB] at F
  have hq := fdiv_facts l0
  have hq0 := hq.1
  have hq1 := hq.2.1
  have hq2 := hq.2.2
  have hlv : dvs.length = ds.length := hi.length
  have hbig : (List.replicate (Int.fdiv 256 (ds.length : Int) + 1).toNat dvs).flatten.toArray.size ≤ sizeLine := by
    rw [KM.size_rep hi]
    refine Nat.le_trans (Nat.mul_le_mul l1 (show (Int.fdiv 256 (ds.length : Int) + 1).toNat ≤ 257 by omega)) (by decide)
  show wpAny _ (callerA.deeper (envOf _ ⟨_, _, _, _, _⟩ _ _ _)) (exec (.Assign _ _ _) (envOf _ ⟨_, _, _, _, _⟩ _ _ _)) _ _ _
  w_strict (skip; k_steps)
  rename News h₀ L _ _ => kN
  rename Fr h₀ L _ _ => kF
  rename IntsAre _ (List.take _ _) => kI
  refine k _ _ _ _ _ _ kI ?_ (fun b hb => ?_) (by omega) (by repeat' (first | exact fm_nil | refine fm_cons rfl ?_)) (fun z n1 => ?_) kF (news_k2b kN)
  · rw [List.length_take, KM.len_rep]
    have e : ((ds.length * (Int.fdiv 256 (ds.length : Int) + 1).toNat : Nat) : Int) = (ds.length : Int) * (Int.fdiv 256 (ds.length : Int) + 1) := KM.num_rep ds (by omega)
    omega
  · obtain ⟨l, hl, hb2⟩ := List.mem_flatten.mp (List.mem_of_mem_take hb)
    rw [List.eq_of_mem_replicate hl] at hb2
    exact bd b hb2
  · have ez := congrFun e0 z
    dsimp only [kstB] at ez
    simp only [n1, if_false] at ez ⊢
    exact ez
end
end
section
open PySem PySem.W PySem.Calls PyProof.Rows
set_option maxRecDepth 100000
set_option maxHeartbeats 4000000
noncomputable abbrev tableL : List Int := [44, 2, 54, 2, 65, 2, 76, 2, 84, 2, 97, 2, 101, 2, 109, 2, 116, 2, 125, 2, 136, 2, 141, 2, 153, 2, 167, 2, 182, 2, 190, 2]
theorem news_drop {h₀ h : Heap} {L : Addr} {l : List (Addr × Obj)} (n : Nat) (N : News h₀ L h l) : News h₀ L h (l.drop n) := fun p hp => N p (List.mem_of_mem_drop hp)
noncomputable abbrev belowL : List Int := List.take 512 (List.replicate 74 [11, 200, 0, 77, 129, 254, 1]).flatten
theorem news_s3 {h₀ h : Heap} {L : Addr} {a b c d e : Addr × Obj} (N : News h₀ L h [a, b, c, d, e]) : News h₀ L h [a, d, e] := by
  refine news_sub N fun p hp => ?_
  simp only [List.mem_cons] at hp ⊢
  rcases hp with h | h | h | h <;> simp [h] at *
theorem mul_gen {prog : Program} {w : World} {A : Around} {E : Value → Shared → Prop} {s : Shared} {h₀ : Heap} {L : Addr} {m : Str → Option Value} {news : List (Addr × Obj)} {l : Addr} {vs : List Value} {ns : List Int} {x : Int} {u : Tok} {Q : Value → Shared → Prop}
    (Fm : Fr h₀ L s.heap m) (N : News h₀ L s.heap news) (hl : s.heap.IsList l vs.toArray) (hi : IntsAre vs ns) (hlo : -(2 ^ 63 : Int) ≤ x) (hhi : x < 2 ^ 63) (hsz : vs.length * x.toNat ≤ 2 ^ 24)
    (h : ∀ D h' vs' ms, Fr h₀ L h' m → News h₀ L h' ((D, listOf (List.toArray vs') 0) :: news) → (∀ p ∈ news, p.1 < D) → IntsAre vs' ms → ms = (List.replicate x.toNat ns).flatten → vs'.toArray.size = ns.length * x.toNat → ms.length = ns.length * x.toNat → Q (.ref D) { s with heap := h' }) : wpAny (model prog w) A (binaryOp .Mult (.ref l) (.int x u)) Q E s :=
  KM.mul Fm N hl hi hlo hhi hsz fun D h' F' N' l1 i1 _ _ _ _ _ => h D h' _ _ F' N' l1 i1 rfl (KM.size_rep hi _) (KM.len_rep ns _)
theorem inplace_seq {M : Model} {A : Around} {E : Value → Shared → Prop} {s : Shared} {a b : Value} {T id : String} {Q : Value → Shared → Prop} (ha : s.TypeIs a T) (hb : s.TypeIs b T)
    (hfi : fillsInplaceSlot (.type T) "add" (Operator.Add == .Add) = pure false) (hfill : fillsNumberSlot (.type T) "add" = pure false) (hsi : seqSlot? (.type T) (dunderI "add") = pure (some (.builtin id)))
    (hc : wpAny M A (call (.builtin id) [a, b]) Q E s) : wpAny M A (inplaceOp .Add a b) Q E s := by
  unfold inplaceOp
  refine wpAny_holding (wpAny_bind (wpAny_typeOf ha (wpAny_bind (wpAny_of_eq hfi ?_))))
  show wpAny M A (if false = true then _ else _) Q E s
  rw [if_neg Bool.false_ne_true]
  refine wpAny_bind (binaryOp1_none (nm := "add") ha hb hfill ?_)
  exact wpAny_bind (wpAny_of_eq hsi (wpAny_bind (wpAny_rule hc)))
theorem list_iadd_fills : fillsInplaceSlot (.type "list") "add" (Operator.Add == .Add) = pure false := by
  unfold fillsInplaceSlot
  show (typeLookup (.type "list") (dunderI "add") >>= fun fi => pure (fi.isSome && !isSeqSlot fi)) = pure false
  rw [PySem.F.slot_list_iadd.lookup]
  show pure (true && !isSeqSlotId "list.__iadd__") = (pure false : Sem Bool)
  rw [show isSeqSlotId "list.__iadd__" = true from by decide +kernel]
  rfl
theorem list_iadd_K {prog : Program} {w : World} {A : Around} {E : Value → Shared → Prop} {s : Shared} {h₀ : Heap} {L l b : Addr} {m : Str → Option Value} {news : List (Addr × Obj)} {g : Obj → List (Addr × Obj)} {xs ys : List Value} {n n2 : Nat} {Q : Value → Shared → Prop}
    (F : Fr h₀ L s.heap m) (N : News h₀ L s.heap news) (U : UpdF l (listOf xs.toArray n) news g) (hb : (b, listOf ys.toArray n2) ∈ news) (hz : xs.length + ys.length ≤ 4096)
    (h : ∀ h' n', Fr h₀ L h' m → News h₀ L h' (g (listOf (xs ++ ys).toArray n')) → Q (.ref l) { s with heap := h' }) :
    wpAny (model prog w) A (inplaceOp .Add (.ref l) (.ref b)) Q E s := by
  obtain ⟨pre, post, rfl, hg, h1, h2⟩ := U.split
  have nl := N (l, listOf xs.toArray n) (List.mem_append_right _ (.head _))
  have nb := N _ hb
  have z1 : xs.toArray.size = xs.length := List.size_toArray
  have z2 : ys.toArray.size = ys.length := List.size_toArray
  refine inplace_seq (T := "list") ⟨_, nl.1, rfl⟩ ⟨_, nb.1, rfl⟩ list_iadd_fills noFill_list_add (PySem.seqSlot_of PySem.F.slot_list_iadd.lookup (by decide +kernel)) ?_
  have hs := Heap.SameBut.update s.heap l (Obj.mapSeq fun x => x ++ ys.toArray)
  obtain ⟨n', hl⟩ : ∃ n', (s.heap.update l (Obj.mapSeq fun x => x ++ ys.toArray)).get? l = some (listOf (xs ++ ys).toArray n') := by
    rw [show (xs ++ ys).toArray = xs.toArray ++ ys.toArray from by simp]
    exact ⟨_, get?_update_seq (c := "list") (xs := xs.toArray) (n := n) nl.1 (fun x => x ++ ys.toArray)⟩
  refine call_meets PySem.F.slot_list_iadd ⟨_, nl.1, rfl⟩ PySem.F.entry_list_iadd (PySem.F.args_list_iadd_2 _ _) (PySem.AutoSeq1.list___iadd___list_list_0 l xs.toArray n b ys.toArray n2 (by simp [Builtin.List.listTooLong, sizeLine]; omega) (by simp [sizeLine]; omega) (by simp [sizeLine]; omega)) ⟨nl.1, nb.1, ?_⟩
  refine h _ n' (F.change hs nl.2.1 nl.2.2) (fun q hq => ?_)
  rw [hg] at hq
  rcases List.mem_append.mp hq with hq | hq
  · have nq := N q (List.mem_append_left _ hq)
    exact ⟨(hs.2 _ (h1 q hq)).trans nq.1, nq.2⟩
  · rcases List.mem_cons.mp hq with rfl | hq
    · exact ⟨hl, nl.2⟩
    · have nq := N q (List.mem_append_right _ (.tail _ hq))
      exact ⟨(hs.2 _ (h2 q hq)).trans nq.1, nq.2⟩
section
local macro_rules | `(tactic| kn_code) => `(tactic| k_extra "q11")
local macro_rules | `(tactic| k_is) => `(tactic| k_extra "q25")
local macro_rules | `(tactic| walk_at "ite") => `(tactic| k_extra "q26")
local macro_rules | `(tactic| walk_at "exec If") => `(tactic| k_extra "q27")
local macro_rules | `(tactic| walk_at "binaryOp Mult ref int") => `(tactic| k_extra "q30")
local macro_rules | `(tactic| kmk_size) => `(tactic| k_extra "q31")
local macro_rules | `(tactic| walk_at "subscriptTail Name Slice ref ref") => `(tactic| k_extra "q32")
local macro_rules | `(tactic| walk_at "exec For Name Call cons nil") => `(tactic| k_extra "q33")
local macro_rules | `(tactic| passes_own) => `(tactic| k_extra "q34")
local macro_rules | `(tactic| walk_at "inplaceOp Add ref") => `(tactic| k_extra "q35")
theorem pro3 {w : World} {h₀ : Heap} {L fa : Addr} {cd : Value} {mg mb : Str → Option Value} {p : Program} {loose : List Str} {mean : ExcName → Option Value} {s : Shared} {pg : Addr} {pvs : List Value} {m : Str → Option Value} {Q : Flow → Shared → Prop} {E : Value → Shared → Prop}
    {st : Stmt} (hst : st = lawBody.getD 2 sPass) (S : Sur w h₀ mg mb p loose mean) (F : Fr h₀ L s.heap m) (hm : ∀ q ∈ ([] : List (Str × Value)), m q.1 = some q.2) (h80 : @LT.lt Nat _ 80 pg)
    (N : News h₀ L s.heap [(pg, listOf pvs.toArray 0), (80, tabObj #[])])
    (k : ∀ m' h' tk (be : Addr) (bvs : List Value), IntsAre bvs belowL → @LT.lt Nat _ pg be → (∀ q ∈ ([("below", .ref be)] : List (Str × Value)), m' q.1 = some q.2) → (∀ z : Str, z ≠ "below" → m' z = m z) → Fr h₀ L h' m' → News h₀ L h' [(be, listOf bvs.toArray 0), (pg, listOf pvs.toArray 0), (80, tabObj #[])] → Q .next { s with heap := h', toks := tk }) :
    wpAny (model PySem.Challenge.rw_im0103_01.row.prog w) (lawA L fa cd) (exec st (lawEnv L fa cd)) Q E s := by
  subst hst
  obtain ⟨B, X, T, hch⟩ := S
  have hA := lawA_frames L fa cd
  have hroom := lawA_room L fa cd
  have hu := lawA_units L fa cd
  have e0 := kstB_self hm
  rw [← e0] at F
  dsimp only [kstB] at F
  show wpAny _ (callerA.deeper (envOf _ ⟨_, _, _, _, _⟩ _ _ _)) (exec (.Assign _ _ _) (envOf _ ⟨_, _, _, _, _⟩ _ _ _)) _ _ _
  w_strict (skip; k_steps)
  rename News h₀ L _ _ => kN
  rename Fr h₀ L _ _ => kF
  rename IntsAre _ (List.take _ _) => kI
  rename _ = (List.replicate _ _).flatten => kE
  rw [kE] at kI
  refine k _ _ _ _ _ kI (by omega) (by repeat' (first | exact fm_nil | refine fm_cons rfl ?_)) (fun z n1 => ?_) kF (news_s3 kN)
  · rw [if_neg n1]
end
end
section
open PySem PySem.W PySem.Calls PyProof.Rows
set_option maxRecDepth 100000
set_option maxHeartbeats 4000000
section
local macro_rules | `(tactic| kn_code) => `(tactic| k_extra "q11")
local macro_rules | `(tactic| k_is) => `(tactic| k_extra "q25")
local macro_rules | `(tactic| walk_at "ite") => `(tactic| k_extra "q26")
local macro_rules | `(tactic| walk_at "exec If") => `(tactic| k_extra "q27")
local macro_rules | `(tactic| walk_at "binaryOp Mult ref int") => `(tactic| k_extra "q36")
local macro_rules | `(tactic| kmk_size) => `(tactic| k_extra "q31")
local macro_rules | `(tactic| walk_at "subscriptTail Name Slice ref ref") => `(tactic| k_extra "q32")
local macro_rules | `(tactic| walk_at "exec For Name Call cons nil") => `(tactic| k_extra "q33")
local macro_rules | `(tactic| passes_own) => `(tactic| k_extra "q34")
local macro_rules | `(tactic| walk_at "inplaceOp Add ref") => `(tactic| k_extra "q35")
theorem list_rest {prog : Program} {w : World} {A : Around} {E : Value → Shared → Prop} {s : Shared} {env : Env} {h₀ : Heap} {x : Str} {body : List Stmt} {Q : Flow → Shared → Prop} {It : Addr} {lp : Addr × Obj} {Inv : List Int → (Str → Option Value) → List (Addr × Obj) → Prop}
    (turn : ∀ (n : Int) r t m news (it : Obj) h tk, Inv (n :: r) m news → it.cls = .type "list_iterator" → Fr h₀ env.locals h (fun y => if y = x then some (.int n t) else m y) → News h₀ env.locals h ((It, it) :: news) →
      wpAny (model prog w) A (execs body env) (UnrPost h₀ env.locals { s with heap := h, toks := tk } It it (fun m' n' => lp ∈ n' ∧ Inv r m' n') Q) E { s with heap := h, toks := tk })
    (done : ∀ m news h tk, Inv [] m news → Fr h₀ env.locals h m → News h₀ env.locals h news → Q .next { s with heap := h, toks := tk }) {vs : List Value} {ns : List Int} (hi : IntsAre vs ns) :
    ∀ m news, Inv ns m news → ListRest prog w A E h₀ env x body Q s It lp vs m news := by
  induction hi with
  | nil => exact fun m news hI => ListRest.zero fun h tk F N => done m news h tk hI F N
  | cons v t hi ih => exact fun m news hI => ListRest.succ fun it h tk hc F N => wpAny_mono (turn v _ t m news it h tk hI hc F N) (fun f s2 q => by
      cases f with
      | ret v => exact q
      | brk => exact q
      | next =>
        obtain ⟨h', tk', m', news', e, F', N', ho', hl, hI'⟩ := q
        exact ⟨h', tk', m', news', e, F', N', ho', hl, ih m' news' hI'⟩
      | cont =>
        obtain ⟨h', tk', m', news', e, F', N', ho', hl, hI'⟩ := q
        exact ⟨h', tk', m', news', e, F', N', ho', hl, ih m' news' hI'⟩) fun _ _ x => x
noncomputable def tabBody : List Stmt := forBody (lawBody.getD 4 sPass)
theorem tab_one {w : World} {h₀ : Heap} {L fa : Addr} {cd : Value} {mg mb : Str → Option Value} {p : Program} {loose : List Str} {mean : ExcName → Option Value} {s : Shared} {ta : Addr} {n : Int} {t : Tok} {n0 : Nat} {tvs : List Value} {ns : List Int} {more : List (Addr × Obj)} {m : Str → Option Value} {Q : Flow → Shared → Prop} {E : Value → Shared → Prop}
    (S : Sur w h₀ mg mb p loose mean) (F : Fr h₀ L s.heap m) (hm : ∀ q ∈ ([("start", .int n t), ("table", .ref ta)] : List (Str × Value)), m q.1 = some q.2) (hi : IntsAre tvs ns) (hz : tvs.length ≤ 64) (hl : @LT.lt Nat _ 80 ta)
    (N : News h₀ L s.heap ((ta, listOf tvs.toArray n0) :: more)) (off : OwnOff more [ta])
    (k : ∀ h' tk (t u : Tok) n1, Fr h₀ L h' m → News h₀ L h' ((ta, listOf (tvs ++ [Value.int n t, Value.int 2 u]).toArray n1) :: more) → Q .next { s with heap := h', toks := tk }) :
    wpAny (model PySem.Challenge.rw_im0103_01.row.prog w) (lawA L fa cd) (execs tabBody (lawEnv L fa cd)) Q E s := by
  obtain ⟨B, X, T, hch⟩ := S
  have hA := lawA_frames L fa cd
  have hroom := lawA_room L fa cd
  have hu := lawA_units L fa cd
  have e0 := kstB_self hm
  rw [← e0] at F
  dsimp only [kstB] at F
  show wpAny _ (callerA.deeper (envOf _ ⟨_, _, _, _, _⟩ _ _ _)) (execs (_ :: _) (envOf _ ⟨_, _, _, _, _⟩ _ _ _)) _ _ _
  w_strict (skip; k_steps)
  rename Fr h₀ L _ _ => kF
  rename News h₀ L _ _ => kN
  have e1 : (fun y : Str => if y = "table" then some (Value.ref ta) else if y = "start" then some (Value.int n t) else if y = "table" then some (Value.ref ta) else m y) = m := by
    funext y
    by_cases h : y = "table"
    · subst h; rw [if_pos rfl]; exact (hm _ (.tail _ (.head _))).symm
    · rw [if_neg h]; exact congrFun e0 y
  exact k _ _ t _ _ (e1 ▸ kF) (news_sub kN fun q hq => .tail _ hq)
noncomputable abbrev startsL : List Int := [44, 54, 65, 76, 84, 97, 101, 109, 116, 125, 136, 141, 153, 167, 182, 190]
noncomputable def TabInv (m0 : Str → Option Value) (ta la be pg : Addr) (lo : Obj) (bvs pvs : List Value) (r : List Int) (m : Str → Option Value) (news : List (Addr × Obj)) : Prop :=
  ∃ (d : List Int) (n1 : Nat) (tvs : List Value), d ++ r = startsL ∧ IntsAre tvs (d.flatMap fun s => [s, 2]) ∧ m "table" = some (.ref ta) ∧ (∀ z : Str, z ≠ "table" → z ≠ "start" → m z = m0 z) ∧ news = [(la, lo), (ta, listOf tvs.toArray n1), (be, listOf bvs.toArray 0), (pg, listOf pvs.toArray 0), (80, tabObj #[])]
theorem fl2 (d : List Int) : (d.flatMap fun s => [s, 2]).length = 2 * d.length := by
  induction d with
  | nil => rfl
  | cons a d ih => rw [List.flatMap_cons, List.length_append, ih]; show 2 + 2 * d.length = 2 * (d.length + 1); omega
theorem tab_turn {w : World} {h₀ : Heap} {L fa : Addr} {cd : Value} {mg mb : Str → Option Value} {p : Program} {loose : List Str} {mean : ExcName → Option Value} {s : Shared} {ta la be pg It : Addr} {lo it : Obj} {bvs pvs : List Value} {m0 m1 : Str → Option Value} {n : Int} {t : Tok} {r : List Int} {news1 : List (Addr × Obj)} {Q : Flow → Shared → Prop} {E : Value → Shared → Prop}
    (S0 : Sur w h₀ mg mb p loose mean) (hI : TabInv m0 ta la be pg lo bvs pvs (n :: r) m1 news1) (F1 : Fr h₀ L s.heap (fun y => if y = "start" then some (.int n t) else m1 y)) (N1 : News h₀ L s.heap ((It, it) :: news1))
    (i1 : @LT.lt Nat _ la It) (i2 : @LT.lt Nat _ ta It) (i3 : @LT.lt Nat _ be It) (i4 : @LT.lt Nat _ pg It) (i5 : @LT.lt Nat _ 80 It) (l1 : @LT.lt Nat _ ta la) (l5 : @LT.lt Nat _ be ta) (l6 : @LT.lt Nat _ pg ta) (l7 : @LT.lt Nat _ 80 ta) :
    wpAny (model PySem.Challenge.rw_im0103_01.row.prog w) (lawA L fa cd) (execs tabBody (lawEnv L fa cd)) (UnrPost h₀ L s It it (fun m' n' => (la, lo) ∈ n' ∧ TabInv m0 ta la be pg lo bvs pvs r m' n') Q) E s := by
  obtain ⟨d, n1, tvs, hd, hi, ht, he, rfl⟩ := hI
  have hl := congrArg List.length hd
  have hl2 := hi.length
  rw [fl2] at hl2
  simp only [List.length_append, List.length_cons, List.length_nil] at hl
  refine tab_one S0 F1 (fm_cons (if_pos rfl) (fm_cons ((if_neg (show ¬ (("table" : Str) = "start") by decide)).trans ht) fm_nil)) hi (by omega) l7 (news_sub N1 sub_rot3') (n0 := n1) (more := [(It, it), (la, lo), (be, listOf bvs.toArray 0), (pg, listOf pvs.toArray 0), (80, tabObj #[])]) (own_cons (fm_cons (Nat.ne_of_gt i2) fm_nil) (own_cons (fm_cons (Nat.ne_of_gt l1) fm_nil) (own_cons (fm_cons (Nat.ne_of_lt l5) fm_nil) (own_cons (fm_cons (Nat.ne_of_lt l6) fm_nil) (own_cons (fm_cons (Nat.ne_of_lt l7) fm_nil) fm_nil))))) (fun h' tk' t' u n2 F' N' => UnrEnd.intro F' N' [(la, lo), (ta, listOf (tvs ++ [Value.int n t', Value.int 2 u]).toArray n2), (be, listOf bvs.toArray 0), (pg, listOf pvs.toArray 0), (80, tabObj #[])] sub_rot3 (fm_cons (Nat.ne_of_lt i1) (fm_cons (Nat.ne_of_lt i2) (fm_cons (Nat.ne_of_lt i3) (fm_cons (Nat.ne_of_lt i4) (fm_cons (Nat.ne_of_lt i5) fm_nil))))) ⟨.head _, d ++ [n], n2, _, ?_, ?_, (if_neg (show ¬ (("table" : Str) = "start") by decide)).trans ht, fun z z1 z2 => (if_neg z2).trans (he z z1 z2), rfl⟩)
  · rw [List.append_assoc]; exact hd
  · rw [List.flatMap_append]; exact hi.append (.cons _ _ (.cons _ _ .nil))
theorem pro4 {w : World} {h₀ : Heap} {L fa : Addr} {cd : Value} {mg mb : Str → Option Value} {p : Program} {loose : List Str} {mean : ExcName → Option Value} {s : Shared} {pg be : Addr} {pvs bvs : List Value} {m : Str → Option Value} {Q : Flow → Shared → Prop} {E : Value → Shared → Prop}
    (S : Sur w h₀ mg mb p loose mean) (F : Fr h₀ L s.heap m) (hm : ∀ q ∈ ([] : List (Str × Value)), m q.1 = some q.2) (hE : PassesOwn (model PySem.Challenge.rw_im0103_01.row.prog w) (lawA L fa cd) (lawEnv L fa cd) E) (h80 : @LT.lt Nat _ 80 pg) (hb : @LT.lt Nat _ pg be)
    (N : News h₀ L s.heap [(be, listOf bvs.toArray 0), (pg, listOf pvs.toArray 0), (80, tabObj #[])])
    (k : ∀ m' h' tk (ta : Addr) (n' : Nat) (tvs : List Value), IntsAre tvs tableL → @LT.lt Nat _ be ta → (∀ q ∈ ([("table", .ref ta)] : List (Str × Value)), m' q.1 = some q.2) → (∀ z : Str, z ≠ "table" → z ≠ "start" → m' z = m z) → Fr h₀ L h' m' → News h₀ L h' [(ta, listOf tvs.toArray n'), (be, listOf bvs.toArray 0), (pg, listOf pvs.toArray 0), (80, tabObj #[])] → Q .next { s with heap := h', toks := tk }) :
    wpAny (model PySem.Challenge.rw_im0103_01.row.prog w) (lawA L fa cd) (execs ((lawBody.drop 3).take 2) (lawEnv L fa cd)) Q E s := by
  have S0 := S
  obtain ⟨B, X, T, hch⟩ := S
  have hA := lawA_frames L fa cd
  have hroom := lawA_room L fa cd
  have hu := lawA_units L fa cd
  have e0 := kstB_self hm
  rw [← e0] at F
  dsimp only [kstB] at F
  show wpAny _ (callerA.deeper (envOf _ ⟨_, _, _, _, _⟩ _ _ _)) (execs (_ :: _) (envOf _ ⟨_, _, _, _, _⟩ _ _ _)) _ _ _
  w_strict (skip; iterate 50 walk1)
  rename Fr h₀ L _ _ => kF
  rename News h₀ L _ _ => kN
  rename _ ∧ _ ∧ _ ∧ _ => l1
  obtain ⟨l1, l2, l3, l4⟩ := l1
  rename _ ∧ _ ∧ _ => l0
  obtain ⟨l5, l6, l7⟩ := l0
  refine iter_listUnr (n := 0) rfl kF kN (.head _) rfl rfl fun It hIt => ?_
  have i1 := hIt _ (.head _)
  have i2 := hIt _ (.tail _ (.head _))
  have i3 := hIt _ (.tail _ (.tail _ (.head _)))
  have i4 := hIt _ (.tail _ (.tail _ (.tail _ (.head _))))
  have i5 := hIt _ (.tail _ (.tail _ (.tail _ (.tail _ (.head _)))))
  refine list_rest (ns := startsL) (Inv := TabInv m _ _ be pg _ bvs pvs) (fun n r t m1 news1 it h tk hI hc F1 N1 => ?_) (fun m1 news1 h tk hI F1 N1 => ?_) (by repeat' (first | exact IntsAre.nil | refine IntsAre.cons _ _ ?_)) _ _ ⟨[], 0, [], rfl, .nil, rfl, fun z n1 n2 => if_neg n1, rfl⟩
  · exact tab_turn S0 hI F1 N1 i1 i2 i3 i4 i5 l1 l5 l6 l7
  · obtain ⟨d, n1, tvs, hd, hi, ht, he, rfl⟩ := hI
    rw [List.append_nil] at hd
    subst hd
    dsimp only
    refine wpAny_execs_nil ?_
    exact k _ _ _ _ n1 tvs hi l5 (fm_cons ht fm_nil) he F1 (news_sub N1 fun q hq => .tail _ hq)
end
end
section
open PySem PySem.W PySem.Calls PyProof.Rows
set_option maxRecDepth 100000
set_option maxHeartbeats 4000000
noncomputable abbrev lawCodeL : List Int := [185, 0, 3, 200, 41, 30, 141, 42, 2, 108, 0, 2, 185, 0, 3, 200, 202, 149, 0, 76, 32, 2, 181, 0, 24, 117, 1, 232, 149, 0, 76, 32, 2, 181, 1, 56, 245, 0, 232, 149, 0, 76, 32, 2, 181, 0, 202, 149, 0, 76, 32, 2, 181, 0, 72, 181, 1, 149, 0, 104, 149, 1, 76, 32, 2, 232, 76, 32, 2, 181, 1, 202, 149, 0, 76, 32, 2, 185, 0, 3, 168, 76, 32, 2, 232, 181, 255, 240, 244, 200, 76, 32, 2, 200, 152, 72, 136, 185, 0, 3, 168, 76, 32, 2, 104, 168, 76, 32, 2, 181, 0, 141, 147, 2, 165, 0, 149, 0, 76, 32, 2, 181, 0, 141, 161, 2, 181, 1, 133, 0, 232, 232, 76, 32, 2, 181, 1, 213, 0, 169, 0, 42, 73, 1, 232, 149, 0, 76, 32, 2, 181, 0, 10, 118, 0, 76, 32, 2, 214, 0, 208, 171, 200, 232, 76, 32, 2]
noncomputable def intsB : List Value → List Int → Bool
  | [], [] => true
  | .int n _ :: vs, m :: ns => (n == m) && intsB vs ns
  | _, _ => false
theorem intsB_ok : ∀ {vs : List Value} {ns : List Int}, intsB vs ns = true → IntsAre vs ns
  | [], [], _ => .nil
  | .int n t :: vs, m :: ns, h => by
    obtain ⟨h1, h2⟩ := Bool.and_eq_true_iff.mp h
    rw [← beq_iff_eq.mp h1]
    exact .cons n t (intsB_ok h2)
theorem news_p5 {h₀ h : Heap} {L : Addr} {t ca cl fs r d5 d6 l d7 d8 ta be pg e : Addr × Obj} (N : News h₀ L h [t, ca, cl, fs, r, d5, d6, l, d7, d8, ta, be, pg, e]) : News h₀ L h [r, pg, fs, cl, ca, e] := by
  refine news_sub N fun p hp => ?_
  simp only [List.mem_cons] at hp ⊢
  rcases hp with h | h | h | h | h | h | h <;> simp [h] at *
theorem k1440 (w : World) : ∃ (o : Obj) (kvs : List Value), (KF w.params).lookup 1440 = some o ∧ o.cls = .type "list" ∧ o.data = .seq kvs.toArray 0 ∧ IntsAre kvs lawCodeL :=
  ⟨_, (arrOf (KF w.params) 1440).toList, rfl, rfl, rfl, intsB_ok (by kernel_rfl)⟩
section
local macro_rules | `(tactic| kn_code) => `(tactic| k_extra "q11")
local macro_rules | `(tactic| k_is) => `(tactic| k_extra "q25")
local macro_rules | `(tactic| walk_at "ite") => `(tactic| k_extra "q26")
local macro_rules | `(tactic| walk_at "exec If") => `(tactic| k_extra "q27")
local macro_rules | `(tactic| walk_at "binaryOp Mult ref int") => `(tactic| k_extra "q30")
local macro_rules | `(tactic| kmk_size) => `(tactic| k_extra "q31")
local macro_rules | `(tactic| walk_at "subscriptTail Name Slice ref ref") => `(tactic| k_extra "q32")
theorem pro5 {w : World} {h₀ : Heap} {L fa : Addr} {cd : Value} {mg mb : Str → Option Value} {p : Program} {loose : List Str} {mean : ExcName → Option Value} {s : Shared} {pg be ta : Addr} {pvs bvs tvs : List Value} {page below table : List Int} {n : Nat} {m : Str → Option Value} {Q : Flow → Shared → Prop} {E : Value → Shared → Prop}
    (S : Sur w h₀ mg mb p loose mean) (F : Fr h₀ L s.heap m) (hm : ∀ q ∈ ([("page", .ref pg), ("below", .ref be), ("table", .ref ta)] : List (Str × Value)), m q.1 = some q.2) (h80 : @LT.lt Nat _ 80 pg) (hb : @LT.lt Nat _ pg be) (hb2 : @LT.lt Nat _ be ta) (ip : IntsAre pvs page) (ib : IntsAre bvs below) (it : IntsAre tvs table) (lp : page.length = 256) (lb : below.length = 512) (lt : table.length = 32)
    (N : News h₀ L s.heap [(ta, listOf tvs.toArray n), (be, listOf bvs.toArray 0), (pg, listOf pvs.toArray 0), (80, tabObj #[])])
    (k : ∀ m' h' tk (r fs cl ca : Addr) (rvs fvs cvs avs : List Value), IntsAre rvs (below ++ table ++ lawCodeL ++ (List.replicate 57 [0]).flatten ++ page) → IntsAre fvs (List.take 256 (List.drop 512 (below ++ table ++ lawCodeL ++ (List.replicate 57 [0]).flatten ++ page))) → IntsAre cvs (List.take 256 below) → IntsAre avs (List.drop 256 below) → @LT.lt Nat _ pg r → @LT.lt Nat _ r fs → @LT.lt Nat _ fs cl → @LT.lt Nat _ cl ca → (∀ q ∈ ([("ram", .ref r), ("first", .ref fs), ("cells", .ref cl), ("calls", .ref ca)] : List (Str × Value)), m' q.1 = some q.2) → (∀ z : Str, z ≠ "ram" → z ≠ "first" → z ≠ "cells" → z ≠ "calls" → m' z = m z) → Fr h₀ L h' m' → News h₀ L h' [(r, listOf rvs.toArray 0), (pg, listOf pvs.toArray 0), (fs, listOf fvs.toArray 0), (cl, listOf cvs.toArray 0), (ca, listOf avs.toArray 0), (80, tabObj #[])] → Q .next { s with heap := h', toks := tk }) :
    wpAny (model PySem.Challenge.rw_im0103_01.row.prog w) (lawA L fa cd) (execs ((lawBody.drop 5).take 4) (lawEnv L fa cd)) Q E s := by
  obtain ⟨B, X, T, hch⟩ := S
  have hA := lawA_frames L fa cd
  have hroom := lawA_room L fa cd
  have hu := lawA_units L fa cd
  have e0 := kstB_self hm
  rw [← e0] at F
  dsimp only [kstB] at F
  obtain ⟨oc, kvs, kc1, kc2, kc3, kci⟩ := k1440 w
  have kcl : h₀.IsList 1440 kvs.toArray := ⟨oc, X _ _ kc1, kc2, _, kc3⟩
  obtain ⟨cx, hcx, hlx⟩ : ∃ cx, cx = lawCodeL ∧ cx.length = 167 := ⟨_, rfl, rfl⟩
  rw [← hcx] at kci
  show wpAny _ (callerA.deeper (envOf _ ⟨_, _, _, _, _⟩ _ _ _)) (execs (_ :: _) (envOf _ ⟨_, _, _, _, _⟩ _ _ _)) _ _ _
  w_strict (skip; k_steps)
  (first | (with_unfolding_all refine wpAny_execs_nil ?_) | (dsimp only; with_unfolding_all refine wpAny_execs_nil ?_))
  rename News h₀ L _ _ => kN
  rename Fr h₀ L _ _ => kF
  rename _ = (List.replicate _ _).flatten => kE
  have hz : (768 - ((below.length + table.length + cx.length : Nat) : Int)).toNat = 57 := by omega
  rw [hz] at kE
  subst kE hcx
  rename IntsAre _ (List.take (min _ _ - 512) _) => kI1
  rename IntsAre _ (List.take 256 below) => kI2
  rename IntsAre _ (List.drop 256 below) => kI3
  rename IntsAre _ (below ++ table ++ lawCodeL ++ (List.replicate 57 [0]).flatten ++ page) => kI0
  have hl : (below ++ table ++ lawCodeL ++ (List.replicate 57 [0]).flatten ++ page).length = 1024 := by
    rw [List.length_append, List.length_append, List.length_append, List.length_append, lb, lt, lp]; rfl
  rw [hl] at kI1
  refine k _ _ _ _ _ _ _ _ _ _ _ kI0 kI1 kI2 kI3 (by omega) (by omega) (by omega) (by omega) (by repeat' (first | exact fm_nil | refine fm_cons rfl ?_)) (fun z n1 n2 n3 n4 => ?_) kF (news_p5 kN)
  have ez := congrFun e0 z
  dsimp only [kstB] at ez
  simp only [n1, n2, n3, n4, if_false] at ez ⊢
  exact ez
end
end
section
open PySem PySem.W PySem.Calls PyProof.Rows
set_option maxRecDepth 100000
set_option maxHeartbeats 4000000
theorem mk_led {h₀ h : Heap} {L x d r : Addr} {rvs : List Value} {nm ad spc : Value} {a0 a1 a2 a3 a4 a5 a6 a7 a8 a9 a10 a11 a12 a13 a14 a15 : Int} {k0 k1 k2 k3 k4 k5 k6 k7 k8 k9 k10 k11 k12 k13 k14 k15 t1 t2 t3 t4 t5 t7 t10 t11 t12 t13 t14 t15 : Tok} {v1 v2 v3 v4 v5 v7 v10 v11 v12 v13 v14 v15 : Int} {rest : List (Addr × Obj)}
    (N : News h₀ L h ((x, instObj 1428 d) :: (d, dictOf [⟨a0, .str "name" k0, nm⟩, ⟨a1, .str "byteMask" k1, .int v1 t1⟩, ⟨a2, .str "addrMask" k2, .int v2 t2⟩, ⟨a3, .str "addrHighMask" k3, .int v3 t3⟩, ⟨a4, .str "spBase" k4, .int v4 t4⟩, ⟨a5, .str "excycles" k5, .int v5 t5⟩, ⟨a6, .str "addcycles" k6, ad⟩, ⟨a7, .str "processorCycles" k7, .int v7 t7⟩, ⟨a8, .str "memory" k8, .ref r⟩, ⟨a9, .str "start_pc" k9, spc⟩, ⟨a10, .str "pc" k10, .int v10 t10⟩, ⟨a11, .str "sp" k11, .int v11 t11⟩, ⟨a12, .str "a" k12, .int v12 t12⟩, ⟨a13, .str "x" k13, .int v13 t13⟩, ⟨a14, .str "y" k14, .int v14 t14⟩, ⟨a15, .str "p" k15, .int v15 t15⟩] 16) :: (r, listOf rvs.toArray 0) :: rest)) (e1 : v1 = 255) (e2 : v2 = 65535) (e3 : v3 = 65280) (e4 : v4 = 256) (e5 : v5 = 0) (e7 : v7 = 0) (e10 : v10 = 544) (e11 : v11 = 255) (e12 : v12 = 0) (e13 : v13 = 0) (e14 : v14 = 0) (e15 : v15 = fl false false false false) :
    ∃ (I : Im) (t : Tk), I.x = x ∧ I.d = d ∧ I.r = r ∧ News h₀ L h (led I ⟨0, 544, 255, 0, 0, 0, false, false, false, false⟩ 0 ad t rvs ++ rest) := by
  subst e1 e2 e3 e4 e5 e7 e10 e11 e12 e13 e14 e15
  exact ⟨⟨x, d, r, fun i => [a0, a1, a2, a3, a4, a5, a6, a7, a8, a9, a10, a11, a12, a13, a14, a15].getD i 0, fun i => [k0, k1, k2, k3, k4, k5, k6, k7, k8, k9, k10, k11, k12, k13, k14, k15].getD i 0, nm, fun i => [t1, t2, t3, t4].getD i 0, spc⟩, ⟨t5, t7, t10, t11, t12, t13, t14, t15⟩, rfl, rfl, rfl, N⟩
section
local macro_rules | `(tactic| kn_code) => `(tactic| k_extra "q11")
local macro_rules | `(tactic| k_is) => `(tactic| k_extra "q37")
local macro_rules | `(tactic| k_is) => `(tactic| k_extra "q38")
local macro_rules | `(tactic| walk_at "ite") => `(tactic| k_extra "q26")
local macro_rules | `(tactic| walk_at "exec If") => `(tactic| k_extra "q27")
theorem pro6 {w : World} {h₀ : Heap} {L fa : Addr} {cd : Value} {mg mb : Str → Option Value} {p : Program} {loose : List Str} {mean : ExcName → Option Value} {s : Shared} {r pg fs cl ca : Addr} {rvs pvs fvs cvs avs : List Value} {m : Str → Option Value} {Q : Flow → Shared → Prop} {E : Value → Shared → Prop}
    (S : Sur w h₀ mg mb p loose mean) (F : Fr h₀ L s.heap m) (hm : ∀ q ∈ ([("ram", .ref r)] : List (Str × Value)), m q.1 = some q.2) (h80 : @LT.lt Nat _ 80 pg) (h1 : @LT.lt Nat _ pg r) (h2 : @LT.lt Nat _ r fs) (h3 : @LT.lt Nat _ fs cl) (h4 : @LT.lt Nat _ cl ca)
    (N : News h₀ L s.heap [(r, listOf rvs.toArray 0), (pg, listOf pvs.toArray 0), (fs, listOf fvs.toArray 0), (cl, listOf cvs.toArray 0), (ca, listOf avs.toArray 0), (80, tabObj #[])])
    (k : ∀ m' h' tk (I : Im) (ad : Value) (t : Tk), I.r = r → @LT.lt Nat _ ca I.d → @LT.lt Nat _ I.d I.x → (∀ q ∈ ([("mpu", .ref I.x)] : List (Str × Value)), m' q.1 = some q.2) → (∀ z : Str, z ≠ "mpu" → m' z = m z) → Fr h₀ L h' m' → News h₀ L h' (led I ⟨0, 544, 255, 0, 0, 0, false, false, false, false⟩ 0 ad t rvs ++ [(pg, listOf pvs.toArray 0), (fs, listOf fvs.toArray 0), (cl, listOf cvs.toArray 0), (ca, listOf avs.toArray 0), (80, tabObj #[])]) → Q .next { s with heap := h', toks := tk }) :
    wpAny (model PySem.Challenge.rw_im0103_01.row.prog w) (lawA L fa cd) (exec (lawBody.getD 9 sPass) (lawEnv L fa cd)) Q E s := by
  obtain ⟨B, X, T, hch⟩ := S
  have hA := lawA_frames L fa cd
  have hroom := lawA_room L fa cd
  have hu := lawA_units L fa cd
  have e0 := kstB_self hm
  rw [← e0] at F
  dsimp only [kstB] at F
  show wpAny _ (callerA.deeper (envOf _ ⟨_, _, _, _, _⟩ _ _ _)) (exec (.Assign _ _ _) (envOf _ ⟨_, _, _, _, _⟩ _ _ _)) _ _ _
  w_strict (skip; k_steps)
  rename News h₀ L _ _ => kN
  rename Fr h₀ L _ _ => kF
  obtain ⟨I, t, i1, i2, i3, kN'⟩ := mk_led kN rfl rfl rfl rfl rfl rfl rfl rfl rfl rfl rfl rfl
  subst i1 i2
  refine k _ _ _ I _ t i3 (by omega) (by omega) (by repeat' (first | exact fm_nil | refine fm_cons rfl ?_)) (fun z n1 => ?_) kF kN'
  have ez := congrFun e0 z
  dsimp only [kstB] at ez
  simp only [n1, if_false] at ez ⊢
  exact ez
theorem pro7 {w : World} {h₀ : Heap} {L fa : Addr} {cd : Value} {mg mb : Str → Option Value} {p : Program} {loose : List Str} {mean : ExcName → Option Value} {s : Shared} {news : List (Addr × Obj)} {m : Str → Option Value} {Q : Flow → Shared → Prop} {E : Value → Shared → Prop}
    {st : Stmt} (hst : st = lawBody.getD 10 sPass) (S : Sur w h₀ mg mb p loose mean) (F : Fr h₀ L s.heap m) (hm : ∀ q ∈ ([] : List (Str × Value)), m q.1 = some q.2) 
    (N : News h₀ L s.heap news)
    (k : ∀ m' h' tk t1 t2 t3 t4 t5 t6, (∀ q ∈ ([("x", .int 0 t1), ("y", .int 0 t2), ("sp", .int 255 t3), ("carry", .int 0 t4), ("over", .int 0 t5), ("cycles", .int 0 t6)] : List (Str × Value)), m' q.1 = some q.2) → (∀ z : Str, z ≠ "a" → z ≠ "x" → z ≠ "y" → z ≠ "sp" → z ≠ "carry" → z ≠ "over" → z ≠ "cycles" → m' z = m z) → Fr h₀ L h' m' → News h₀ L h' news → Q .next { s with heap := h', toks := tk }) :
    wpAny (model PySem.Challenge.rw_im0103_01.row.prog w) (lawA L fa cd) (exec st (lawEnv L fa cd)) Q E s := by
  subst hst
  obtain ⟨B, X, T, hch⟩ := S
  have hA := lawA_frames L fa cd
  have hroom := lawA_room L fa cd
  have hu := lawA_units L fa cd
  have e0 := kstB_self hm
  rw [← e0] at F
  dsimp only [kstB] at F
  show wpAny _ (callerA.deeper (envOf _ ⟨_, _, _, _, _⟩ _ _ _)) (exec (.Assign _ _ _) (envOf _ ⟨_, _, _, _, _⟩ _ _ _)) _ _ _
  w_strict (skip; k_steps)
  rename News h₀ L _ _ => kN
  rename Fr h₀ L _ _ => kF
  refine k _ _ _ _ _ _ _ _ _ (by repeat' (first | exact fm_nil | refine fm_cons rfl ?_)) (fun z n1 n2 n3 n4 n5 n6 n7 => ?_) kF (by first | exact kN | exact news_tl kN)
  have ez := congrFun e0 z
  simp only [n1, n2, n3, n4, n5, n6, n7, if_false]
end
end
section
open PySem PySem.W PySem.Calls PyProof.Rows
set_option maxRecDepth 100000
set_option maxHeartbeats 4000000
section
local macro_rules | `(tactic| kn_code) => `(tactic| k_extra "q11")
local macro_rules | `(tactic| k_is) => `(tactic| k_extra "q25")
local macro_rules | `(tactic| kmk_size) => `(tactic| k_extra "q31")
theorem range_rest {prog : Program} {w : World} {A : Around} {E : Value → Shared → Prop} {s : Shared} {env : Env} {h₀ : Heap} {x : Str} {body : List Stmt} {Q : Flow → Shared → Prop} {It : Addr} {a : Int} {n : Nat} {Inv : (Str → Option Value) → List (Addr × Obj) → Prop}
    (turn : ∀ (i : Nat) t m news h tk (u v : Int), Inv m news → (∀ q ∈ news, q.1 ≠ It) → Fr h₀ env.locals h (fun y => if y = x then some (.int (a + (i : Int)) t) else m y) → News h₀ env.locals h ((It, itR u v) :: news) →
      wpAny (model prog w) A (execs body env) (UnrPost h₀ env.locals { s with heap := h, toks := tk } It (itR u v) Inv Q) E { s with heap := h, toks := tk })
    (done : ∀ m news h tk, Inv m news → Fr h₀ env.locals h m → News h₀ env.locals h news → Q .next { s with heap := h, toks := tk }) :
    ∀ (k i : Nat) m news, Inv m news → (∀ q ∈ news, q.1 ≠ It) → RangeRest prog w A E h₀ env x body Q s It a n k i m news
  | 0, i, m, news, hI, _ => RangeRest.zero fun h tk F N => done m news h tk hI F N
  | k + 1, i, m, news, hI, ho => RangeRest.succ fun t h tk F N => wpAny_mono (turn i t m news h tk _ _ hI ho F N) (fun f s2 q => by
      cases f with
      | ret v => exact q
      | brk => exact q
      | next =>
        obtain ⟨h', tk', m', news', e, F', N', ho', hI'⟩ := q
        exact ⟨h', tk', m', news', e, F', N', ho', range_rest turn done k (i + 1) m' news' hI' ho'⟩
      | cont =>
        obtain ⟨h', tk', m', news', e, F', N', ho', hI'⟩ := q
        exact ⟨h', tk', m', news', e, F', N', ho', range_rest turn done k (i + 1) m' news' hI' ho'⟩) fun _ _ x => x
theorem itR_no (u v : Int) : ∀ vs, (itR u v).data = .fields vs → ∀ x t, vs[1]? ≠ some (.str x t) := by
  intro vs h x t e
  cases h
  cases e
theorem for_ok {w : World} {h₀ : Heap} {L fa : Addr} {cd : Value} {mg mb : Str → Option Value} {p : Program} {loose : List Str} {mean : ExcName → Option Value} {s : Shared} {I : Im} {J : Lw} {page : List Int} {news : List (Addr × Obj)} {m : Str → Option Value} {Q : Flow → Shared → Prop} {E : Value → Shared → Prop}
    (S : Sur w h₀ mg mb p loose mean) (O : LwOff I J) (h80 : @LT.lt Nat _ 80 J.pg) (hE : PassesOwn (model PySem.Challenge.rw_im0103_01.row.prog w) (lawA L fa cd) (lawEnv L fa cd) E)
    (all : ∀ (g : Rg) (cells calls : List Int) (q1 q2 q3 : Int), g.pc = 544 → Wf g → Lens cells calls page → Cells cells calls page → Comes w g page cells calls q1 q2 q3)
    (hT : TInv I J page m news) (F : Fr h₀ L s.heap m) (N : News h₀ L s.heap news)
    (k : ∀ m' news' h' tk, TInv I J page m' news' → Fr h₀ L h' m' → News h₀ L h' news' → Q .next { s with heap := h', toks := tk }) :
    wpAny (model PySem.Challenge.rw_im0103_01.row.prog w) (lawA L fa cd) (exec (lawBody.getD 11 sPass) (lawEnv L fa cd)) Q E s := by
  have S0 := S
  obtain ⟨B, X, T, hch⟩ := S
  have hA := lawA_frames L fa cd
  have hroom := lawA_room L fa cd
  have hu := lawA_units L fa cd
  show wpAny _ (callerA.deeper (envOf _ ⟨_, _, _, _, _⟩ _ _ _)) (exec (.For _ _ _ _ _) (envOf _ ⟨_, _, _, _, _⟩ _ _ _)) _ _ _
  w_strict (skip; iterate 8 walk1)
  refine iter_rangeUnr (n := 11) (m₀ := m) (news := news) rfl (by assumption) (by decide +kernel) (by decide +kernel) (by assumption) (by assumption) (fun It hlt => ?_)
  have hIt : ∀ b ∈ [I.x, I.d, I.r, 80, J.pg, J.fs, J.cl, J.ca], It ≠ b := by
    obtain ⟨g, ex, ad, t, vs, pvs, fvs, cvs, avs, cells, calls, q1, q2, q3, ct, rest, t1, t2, t3, t4, t5, t6⟩ := hT
    intro b hb
    simp only [List.mem_cons, List.not_mem_nil, or_false] at hb
    rcases hb with rfl | rfl | rfl | rfl | rfl | rfl | rfl | rfl
    · exact Nat.ne_of_gt (hlt _ (.head _))
    · exact Nat.ne_of_gt (hlt _ (.tail _ (.head _)))
    · exact Nat.ne_of_gt (hlt _ (.tail _ (.tail _ (.head _))))
    · exact Nat.ne_of_gt (hlt _ (.tail _ (.tail _ (.tail _ (.tail _ (.tail _ (.tail _ (.tail _ (.head _)))))))))
    · exact Nat.ne_of_gt (hlt _ (.tail _ (.tail _ (.tail _ (.head _)))))
    · exact Nat.ne_of_gt (hlt _ (.tail _ (.tail _ (.tail _ (.tail _ (.head _))))))
    · exact Nat.ne_of_gt (hlt _ (.tail _ (.tail _ (.tail _ (.tail _ (.tail _ (.head _)))))))
    · exact Nat.ne_of_gt (hlt _ (.tail _ (.tail _ (.tail _ (.tail _ (.tail _ (.tail _ (.head _))))))))
  refine range_rest (Inv := TInv I J page) (fun i t m1 news1 h tk u v hI ho F1 N1 => ?_) (fun m1 news1 h tk hI F1 N1 => ?_) 11 0 m news hT (fun q hq => Nat.ne_of_lt (hlt q hq))
  · exact turn_ok S0 O h80 hE all (itR_no u v) hIt hI ho F1 N1 (fun m' news' h' tk' hT' ho' F' N' => show ∃ h' tk m' news', _ ∧ _ ∧ _ ∧ _ ∧ _ from ⟨h', tk', m', news', rfl, F', N', ho', hT'⟩)
  · exact k m1 news1 h tk hI F1 N1
end
end
section
open PySem PySem.W PySem.Calls PyProof.Rows
set_option maxRecDepth 100000
set_option maxHeartbeats 4000000
section
local macro_rules | `(tactic| kn_code) => `(tactic| k_extra "q11")
local macro_rules | `(tactic| k_is) => `(tactic| k_extra "q25")
local macro_rules | `(tactic| kmk_size) => `(tactic| k_extra "q31")
theorem fin_ok {w : World} {h₀ : Heap} {L fa : Addr} {cd : Value} {mg mb : Str → Option Value} {p : Program} {loose : List Str} {mean : ExcName → Option Value} {s : Shared} {I : Im} {J : Lw} {page : List Int} {news : List (Addr × Obj)} {m : Str → Option Value} {Q : Flow → Shared → Prop} {E : Value → Shared → Prop}
    (S : Sur w h₀ mg mb p loose mean) (O : LwOff I J) (hT : TInv I J page m news) (F : Fr h₀ L s.heap m) (N : News h₀ L s.heap news)
    (k : ∀ h' tk ct, Fr h₀ L h' m → News h₀ L h' [(80, tabObj ct)] → Q (.ret (.bool true)) { s with heap := h', toks := tk }) :
    wpAny (model PySem.Challenge.rw_im0103_01.row.prog w) (lawA L fa cd) (exec (lawBody.getD 12 sPass) (lawEnv L fa cd)) Q E s := by
  obtain ⟨B, X, T, hch⟩ := S
  have hA := lawA_frames L fa cd
  have hroom := lawA_room L fa cd
  have hu := lawA_units L fa cd
  obtain ⟨g, ex, ad, t, vs, pvs, fvs, cvs, avs, cells, calls, q1, q2, q3, ct, rest, t1, t2, t3, t4, t5, t6, hm, hpc, W, hi, ip, jf, ic, ia, H, M, off, tab⟩ := hT
  have l1 := H.c
  have l2 := H.k
  have l3 := H.p
  obtain ⟨cx, hcx, l4⟩ : ∃ cx, cx = code q1 q2 q3 ∧ cx.length = 256 := ⟨_, rfl, rfl⟩
  rw [← hcx] at jf
  obtain ⟨mx, hmx, l5⟩ : ∃ mx, mx = mem cells calls q1 q2 q3 page ∧ mx.length = 1024 := ⟨_, rfl, M.l⟩
  rw [← hmx] at hi
  have heq : mx = cells ++ calls ++ cx ++ page := by rw [hmx, hcx]; simp only [mem, List.append_assoc]
  clear hmx hcx M tab W
  have e0 := kstB_self hm
  rw [← e0] at F
  dsimp only [kstB] at F
  dsimp only [led, mm, lwl, List.cons_append, List.nil_append] at N
  show wpAny _ (callerA.deeper (envOf _ ⟨_, _, _, _, _⟩ _ _ _)) (exec (.Return _ _) (envOf _ ⟨_, _, _, _, _⟩ _ _ _)) _ _ _
  w_strict (skip; iterate 13 walk1)
  rename News h₀ L _ _ => kN
  rename Fr h₀ L _ _ => kF
  rename IntsAre _ (cells ++ calls ++ cx ++ page) => kI
  refine ke_eq_ints (News.isList kN (.tail _ (.tail _ (.tail _ (.tail _ (.tail _ (.head _))))))) (News.isList kN (.head _)) hi kI (by ke_room) ?_
  rw [decide_eq_true heq]
  exact k _ _ ct (by rw [← e0]; exact kF) (fun q hq => by rcases List.mem_singleton.mp hq with rfl; exact kN _ (.tail _ (.tail _ (.tail _ (.tail _ (.tail _ (.tail _ (.tail _ (.tail _ (.tail _ (.tail _ (.head _))))))))))))
end
end
section
open PySem PySem.W PySem.Calls PyProof.Rows
set_option maxRecDepth 100000
set_option maxHeartbeats 4000000
theorem law_split : lawBody = lawBody.getD 0 sPass :: lawBody.getD 1 sPass :: lawBody.getD 2 sPass :: ((lawBody.drop 3).take 2 ++ ((lawBody.drop 5).take 4 ++ (lawBody.getD 9 sPass :: lawBody.getD 10 sPass :: lawBody.getD 11 sPass :: [lawBody.getD 12 sPass]))) := by rfl
theorem law_split2 : ∃ s2 s10, s2 = lawBody.getD 2 sPass ∧ s10 = lawBody.getD 10 sPass ∧ lawBody = lawBody.getD 0 sPass :: lawBody.getD 1 sPass :: s2 :: ((lawBody.drop 3).take 2 ++ ((lawBody.drop 5).take 4 ++ (lawBody.getD 9 sPass :: s10 :: lawBody.getD 11 sPass :: [lawBody.getD 12 sPass]))) := ⟨_, _, rfl, rfl, law_split⟩
theorem code_is : tableL ++ lawCodeL ++ (List.replicate 57 [0]).flatten = code 0 0 0 := by kernel_rfl
theorem ram_gen (b t c z p cd : List Int) (hc : t ++ c ++ z = cd) : b ++ t ++ c ++ z ++ p = b.take 256 ++ (b.drop 256 ++ (cd ++ p)) := by
  rw [← hc, ← List.append_assoc (b.take 256), List.take_append_drop]
  simp only [List.append_assoc]
theorem first_gen (b t c z p cd : List Int) (hc : t ++ c ++ z = cd) (hb : b.length = 512) (hcd : cd.length = 256) : List.take 256 (List.drop 512 (b ++ t ++ c ++ z ++ p)) = cd := by
  have e : b ++ t ++ c ++ z ++ p = b ++ (cd ++ p) := by rw [← hc]; simp only [List.append_assoc]
  rw [e, ← hb, List.drop_left, ← hcd, List.take_left]
theorem below_len : belowL.length = 512 := by kernel_rfl
theorem below_b : ∀ b ∈ belowL, 0 ≤ b ∧ b < 256 := by decide +kernel
theorem code_b : ∀ b ∈ code 0 0 0, 0 ≤ b ∧ b < 256 := by decide +kernel
theorem law_walk {w : World} {h₀ : Heap} {L fa : Addr} {cd : Value} {mg mb : Str → Option Value} {p : Program} {loose : List Str} {mean : ExcName → Option Value} {s : Shared} {a : Addr} {sv : List Value} {script : List Int} {m : Str → Option Value} {Q : Flow → Shared → Prop} {E : Value → Shared → Prop}
    (S : Sur w h₀ mg mb p loose mean) (hE : PassesOwn (model PySem.Challenge.rw_im0103_01.row.prog w) (lawA L fa cd) (lawEnv L fa cd) E) (F : Fr h₀ L s.heap m) (hm : m "script" = some (.ref a)) (hl : h₀.IsList a sv.toArray) (hi : IntsAre sv script) (hlay : (PyData.list (script.map PyData.int)).layable0 = true) (hlen : ¬ ((63 : Nat) : Int) < (script.length : Int))
    (N : News h₀ L s.heap [(80, tabObj #[])])
    (k : ∀ m' h' tk ct, Fr h₀ L h' m' → News h₀ L h' [(80, tabObj ct)] → Q (.ret (.bool true)) { s with heap := h', toks := tk }) :
    wpAny (model PySem.Challenge.rw_im0103_01.row.prog w) (lawA L fa cd) (execs lawBody (lawEnv L fa cd)) Q E s := by
  obtain ⟨s2, s10, hs2, hs10, hs⟩ := law_split2
  rw [hs]
  clear hs
  refine wpAny_execs_cons (pro1 S F (fm_cons hm fm_nil) hl hi hlay hlen N fun m1 h1 tk1 D n dvs ds id l0 l1 bd f1 e1 F1 N1 => ?_)
  refine wpAny_execs_cons (pro2 (rest := []) S F1 f1 id l0 l1 bd N1 fun m2 h2 tk2 pg pvs page ip lp bp o1 f2 e2 F2 N2 => ?_)
  refine wpAny_execs_cons (pro3 hs2 S F2 fm_nil o1 N2 fun m3 h3 tk3 be bvs ib o2 f3 e3 F3 N3 => ?_)
  refine wpAny_execs_app (pro4 S F3 fm_nil hE o1 o2 N3 fun m4 h4 tk4 ta n' tvs it o3 f4 e4 F4 N4 => ?_)
  have g2 := f2 ("page", .ref pg) (.head _)
  have g3 := f3 ("below", .ref be) (.head _)
  have g4 := f4 ("table", .ref ta) (.head _)
  dsimp only at g2 g3 g4
  obtain ⟨bl, hbl⟩ : ∃ bl, bl = belowL := ⟨_, rfl⟩
  obtain ⟨tl, htl⟩ : ∃ tl, tl = tableL := ⟨_, rfl⟩
  have lbl : bl.length = 512 := by rw [hbl]; exact below_len
  have ltl : tl.length = 32 := by rw [htl]; rfl
  have hcode : tl ++ lawCodeL ++ (List.replicate 57 [0]).flatten = code 0 0 0 := by rw [htl]; exact code_is
  have hbb : ∀ b ∈ bl, 0 ≤ b ∧ b < 256 := by rw [hbl]; exact below_b
  rw [← hbl] at ib
  rw [← htl] at it
  clear hbl htl
  refine wpAny_execs_app (pro5 (below := bl) (table := tl) S F4 (fm_cons ((e4 _ (ne_of_beq_false (by kernel_rfl)) (ne_of_beq_false (by kernel_rfl))).trans ((e3 _ (ne_of_beq_false (by kernel_rfl))).trans g2)) (fm_cons ((e4 _ (ne_of_beq_false (by kernel_rfl)) (ne_of_beq_false (by kernel_rfl))).trans g3) (fm_cons g4 fm_nil))) o1 o2 o3 ip ib it lp lbl ltl N4 fun m5 h5 tk5 r fs cl ca rvs fvs cvs avs ir jf ic ia c1 c2 c3 c4 f5 e5 F5 N5 => ?_)
  simp only [List.forall_mem_cons] at f5
  obtain ⟨r1, r2, r3, r4, _⟩ := f5
  refine wpAny_execs_cons (pro6 S F5 (fm_cons r1 fm_nil) o1 c1 c2 c3 c4 N5 fun m6 h6 tk6 I ad t ir' c5 c6 f6 e6 F6 N6 => ?_)
  have g6 := f6 ("mpu", .ref I.x) (.head _)
  dsimp only at g6
  refine wpAny_execs_cons (pro7 hs10 S F6 fm_nil N6 fun m7 h7 tk7 t1 t2 t3 t4 t5 t6 f7 e7 F7 N7 => ?_)
  simp only [List.forall_mem_cons] at f7
  obtain ⟨s1, s2, s3, s4, s5, s6, _⟩ := f7
  have O : LwOff I ⟨pg, fs, cl, ca⟩ := ⟨by rw [ir']; exact c1, by rw [ir']; exact c2, c3, c4, c5, c6⟩
  have er := ram_gen bl tl lawCodeL (List.replicate 57 [0]).flatten page _ hcode
  have ef := first_gen bl tl lawCodeL (List.replicate 57 [0]).flatten page _ hcode lbl rfl
  rw [er] at ir
  rw [ef] at jf
  have hL : Lens (List.take 256 bl) (List.drop 256 bl) page := ⟨by rw [List.length_take, lbl]; rfl, by rw [List.length_drop, lbl], lp⟩
  have hM : Mem (mem (List.take 256 bl) (List.drop 256 bl) 0 0 0 page) := by
    refine ⟨?_, fun b hb => ?_⟩
    · unfold mem
      rw [List.length_append, List.length_append, List.length_append, hL.c, hL.k, hL.p, code_len]
    · unfold mem at hb
      rcases List.mem_append.mp hb with hb | hb
      · exact hbb b (List.mem_of_mem_take hb)
      · rcases List.mem_append.mp hb with hb | hb
        · exact hbb b (List.mem_of_mem_drop hb)
        · rcases List.mem_append.mp hb with hb | hb
          · exact code_b b hb
          · exact bp b hb
  have hT : TInv I ⟨pg, fs, cl, ca⟩ page m7 (led I ⟨0, 544, 255, 0, 0, 0, false, false, false, false⟩ 0 ad t rvs ++ [(pg, listOf pvs.toArray 0), (fs, listOf fvs.toArray 0), (cl, listOf cvs.toArray 0), (ca, listOf avs.toArray 0), (80, tabObj #[])]) := by
    refine TInv.mk ⟨0, 544, 255, 0, 0, 0, false, false, false, false⟩ 0 ad t rvs pvs fvs cvs avs (List.take 256 bl) (List.drop 256 bl) 0 0 0 #[] [] t1 t2 t3 t4 t5 t6 ?_ rfl ⟨by decide, by decide, by decide, by decide, by decide, by decide, by decide, by decide⟩ ir ip jf ic ia hL hM (fun q hq => nomatch hq) (.inl rfl)
    exact fm_cons ((e7 _ (ne_of_beq_false (by kernel_rfl)) (ne_of_beq_false (by kernel_rfl)) (ne_of_beq_false (by kernel_rfl)) (ne_of_beq_false (by kernel_rfl)) (ne_of_beq_false (by kernel_rfl)) (ne_of_beq_false (by kernel_rfl)) (ne_of_beq_false (by kernel_rfl))).trans ((e6 _ (ne_of_beq_false (by kernel_rfl))).trans ((e5 _ (ne_of_beq_false (by kernel_rfl)) (ne_of_beq_false (by kernel_rfl)) (ne_of_beq_false (by kernel_rfl)) (ne_of_beq_false (by kernel_rfl))).trans ((e4 _ (ne_of_beq_false (by kernel_rfl)) (ne_of_beq_false (by kernel_rfl))).trans ((e3 _ (ne_of_beq_false (by kernel_rfl))).trans g2))))) (fm_cons ((e7 _ (ne_of_beq_false (by kernel_rfl)) (ne_of_beq_false (by kernel_rfl)) (ne_of_beq_false (by kernel_rfl)) (ne_of_beq_false (by kernel_rfl)) (ne_of_beq_false (by kernel_rfl)) (ne_of_beq_false (by kernel_rfl)) (ne_of_beq_false (by kernel_rfl))).trans ((e6 _ (ne_of_beq_false (by kernel_rfl))).trans r2)) (fm_cons ((e7 _ (ne_of_beq_false (by kernel_rfl)) (ne_of_beq_false (by kernel_rfl)) (ne_of_beq_false (by kernel_rfl)) (ne_of_beq_false (by kernel_rfl)) (ne_of_beq_false (by kernel_rfl)) (ne_of_beq_false (by kernel_rfl)) (ne_of_beq_false (by kernel_rfl))).trans ((e6 _ (ne_of_beq_false (by kernel_rfl))).trans r3)) (fm_cons ((e7 _ (ne_of_beq_false (by kernel_rfl)) (ne_of_beq_false (by kernel_rfl)) (ne_of_beq_false (by kernel_rfl)) (ne_of_beq_false (by kernel_rfl)) (ne_of_beq_false (by kernel_rfl)) (ne_of_beq_false (by kernel_rfl)) (ne_of_beq_false (by kernel_rfl))).trans ((e6 _ (ne_of_beq_false (by kernel_rfl))).trans r4)) (fm_cons ((e7 _ (ne_of_beq_false (by kernel_rfl)) (ne_of_beq_false (by kernel_rfl)) (ne_of_beq_false (by kernel_rfl)) (ne_of_beq_false (by kernel_rfl)) (ne_of_beq_false (by kernel_rfl)) (ne_of_beq_false (by kernel_rfl)) (ne_of_beq_false (by kernel_rfl))).trans g6) (fm_cons ((e7 _ (ne_of_beq_false (by kernel_rfl)) (ne_of_beq_false (by kernel_rfl)) (ne_of_beq_false (by kernel_rfl)) (ne_of_beq_false (by kernel_rfl)) (ne_of_beq_false (by kernel_rfl)) (ne_of_beq_false (by kernel_rfl)) (ne_of_beq_false (by kernel_rfl))).trans ((e6 _ (ne_of_beq_false (by kernel_rfl))).trans (by rw [ir']; exact r1))) (fm_cons s1 (fm_cons s2 (fm_cons s3 (fm_cons s4 (fm_cons s5 (fm_cons s6 fm_nil)))))))))))
  refine wpAny_execs_cons (for_ok S O o1 hE (fun g cells calls q1 q2 q3 hp W H K => comes_all g cells calls q1 q2 q3 hp W H K) hT F7 N7 fun m8 news8 h8 tk8 hT8 F8 N8 => ?_)
  refine wpAny_execs_cons (fin_ok S O hT8 F8 N8 fun h9 tk9 ct9 F9 N9 => ?_)
  exact k m8 h9 tk9 ct9 F9 N9
end
end Mine
open PySem PySem.W PySem.Calls PyProof.Rows
set_option maxRecDepth 100000 in
set_option maxHeartbeats 8000000 in
theorem PySem.Challenge.cw_im0103_01_holds : PySem.Challenge.rw_im0103_01.Holds := by
  w_on
  refine holds_law Mine.law_said fun said => ?_
  refine holds_open (q := Mine.qV) (loose := Mine.looseK) (Xt := Mine.XtK) (XP := XL Mine.qV []) (Yf := Hook.obs (kmHook Mine.KF Mine.asK Mine.asK_eq [80])) (Ya := Hook.val (kmHook Mine.KF Mine.asK Mine.asK_eq [80])) (YP := Hook.says (kmHook Mine.KF Mine.asK Mine.asK_eq [80])) (N := 26000) Mine.left (Hook.of (kmHook Mine.KF Mine.asK Mine.asK_eq [80])) (Hook.keeps (kmHook Mine.KF Mine.asK Mine.asK_eq [80])) (fun s e => xl_of s (Bool.and_eq_true_iff.mp e).1) XL.keeps (by rfl) (by rfl) (by rfl) (fun s e => recFacts_of (Bool.and_eq_true_iff.mp e).2) (by rfl) said (by decide +kernel) ⟨rfl, rfl, rfl, rfl, rfl, Mine.whole⟩ ?hw ?hc
  case hw => w_witness2
  w_strict (k_go0; (all_goals try k_fold))
  refine' Mine.law_walk ⟨?zb, ?zx, ?zt, ?zc⟩ ?zE ?zF ?zm ?zl ?zi ?zy ?zn ?zN ?_
  case zF => assumption
  case zN => assumption
  case zb => assumption
  case zx => assumption
  case zt => assumption
  case zc => exact codeHd
  case zm => rfl
  case zl => assumption
  case zi => assumption
  case zy => assumption
  case zn => assumption
  case zE => passes_own
  intro m' h' tk ct F' N'
  refine ⟨?_, ⟨ct, (N' _ (.head _)).1⟩, trivial⟩
  exact goodW_bool F' (by assumption) (fun _ => by first | rfl | decide +kernel) (by with_unfolding_all rfl)
